import PyProof.Rows.All
import Wide.All
import OpenK.AllK
import Wide.FinOn
import PySem.Challenge.RW_jb0019_02
open PySem PySem.W PyProof.Rows
set_option Elab.async false
set_option maxRecDepth 100000
set_option linter.unusedVariables false
set_option compiler.extract_closed false
set_option genSizeOf false
set_option genInjectivity false
set_option maxHeartbeats 8000000
namespace Mine
open_top hd02 for PySem.Challenge.rw_jb0019_02
end Mine

namespace Mine
open PySem PySem.W PySem.Calls PyProof.Rows PyProof.V PySem.Spec

abbrev Led := List (Addr × Obj)
abbrev FM := Str → Option Int
def FM.set (f : FM) (k : Str) (n : Int) : FM := fun y => if y = k then some n else f y
def FM.del (f : FM) (k : Str) : FM := fun y => if y = k then none else f y
def FM.nil : FM := fun _ => none

/-- the pairs of a dict, told as a partial function to ints -/
def RepI (kvs : List (Str × Value)) (f : FM) : Prop :=
  ∀ k, match f k with
    | none => valueAt kvs k = none
    | some n => ∃ t, valueAt kvs k = some (.int n t)
def DictI (prog : Program) (w : World) (o : Obj) (f : FM) (b : Nat) : Prop :=
  ∃ kvs, o.IsDictOf (PySem.strKind prog w) kvs ∧ kvs.length ≤ b ∧ RepI kvs f

theorem RepI.none {kvs : List (Str × Value)} {f : FM} {k : Str} (h : RepI kvs f) (e : f k = none) : valueAt kvs k = none := by
  have := h k; rw [e] at this; exact this
theorem RepI.some {kvs : List (Str × Value)} {f : FM} {k : Str} {n : Int} (h : RepI kvs f) (e : f k = some n) : ∃ t, valueAt kvs k = some (.int n t) := by
  have := h k; rw [e] at this; exact this
theorem RepI.nil : RepI [] FM.nil := fun _ => rfl

theorem valueAt_cons (p : Str × Value) (r : List (Str × Value)) (k : Str) : valueAt (p :: r) k = if p.1 = k then some p.2 else valueAt r k := by
  simp only [valueAt, List.find?_cons]
  by_cases h : p.1 = k
  · simp [h]
  · simp [h]
theorem valueAt_without (kvs : List (Str × Value)) (k y : Str) : valueAt (without kvs k) y = if y = k then none else valueAt kvs y := by
  induction kvs with
  | nil => simp [without, valueAt]
  | cons p r ih =>
    unfold without at ih ⊢
    rw [List.filter_cons]
    by_cases hp : p.1 = k
    · rw [if_neg (by simp [hp]), ih, valueAt_cons]
      by_cases hy : y = k
      · simp [hy]
      · have h2 : ¬ p.1 = y := fun e => hy (e.symm.trans hp)
        simp [hy, h2]
    · rw [if_pos (by simp [hp]), valueAt_cons, ih, valueAt_cons]
      by_cases hy : y = k
      · subst hy; simp [hp]
      · simp [hy]
theorem valueAt_append (a b : List (Str × Value)) (y : Str) : valueAt (a ++ b) y = (valueAt a y).or (valueAt b y) := by
  induction a with
  | nil => simp [valueAt]
  | cons p r ih =>
    rw [List.cons_append, valueAt_cons, valueAt_cons, ih]
    by_cases h : p.1 = y <;> simp [h]
theorem valueAt_mapset (kvs : List (Str × Value)) (k : Str) (v : Value) (y : Str) :
    valueAt (kvs.map fun kv => if kv.1 = k then (kv.1, v) else kv) y = if y = k then (if (valueAt kvs k).isSome = true then some v else none) else valueAt kvs y := by
  induction kvs with
  | nil => simp [valueAt]
  | cons p r ih =>
    rw [List.map_cons, valueAt_cons, ih, valueAt_cons, valueAt_cons]
    by_cases hp : p.1 = k
    · subst hp
      by_cases hy : y = p.1
      · subst hy; simp
      · simp [hy, Ne.symm hy]
    · by_cases hy : y = k
      · subst hy; simp [hp]
      · simp [hy, hp]
theorem valueAt_stored (kvs : List (Str × Value)) (k : Str) (v : Value) (y : Str) : valueAt (stored kvs k v) y = if y = k then some v else valueAt kvs y := by
  have hany : (kvs.any fun kv => decide (kv.1 = k)) = (valueAt kvs k).isSome := by
    induction kvs with
    | nil => rfl
    | cons p r ih => rw [List.any_cons, ih, valueAt_cons]; by_cases h : p.1 = k <;> simp [h]
  unfold stored
  by_cases h : (kvs.any fun kv => decide (kv.1 = k)) = true
  · rw [if_pos h, valueAt_mapset]
    rw [hany] at h
    by_cases hy : y = k
    · simp [hy, h]
    · simp [hy]
  · rw [if_neg h, valueAt_append]
    rw [hany] at h
    by_cases hy : y = k
    · subst hy
      have h' : valueAt kvs y = none := by cases q : valueAt kvs y with
        | none => rfl
        | some _ => rw [q] at h; simp at h
      rw [h']; simp [valueAt]
    · have : valueAt [(k, v)] y = none := by simp [valueAt, Ne.symm hy]
      rw [this, if_neg hy]; simp
theorem length_without (kvs : List (Str × Value)) (k : Str) : (without kvs k).length ≤ kvs.length := List.length_filter_le _ _
theorem length_stored (kvs : List (Str × Value)) (k : Str) (v : Value) : (stored kvs k v).length ≤ kvs.length + 1 := by
  unfold stored; split
  · rw [List.length_map]; omega
  · rw [List.length_append]; simp
theorem RepI.set {kvs : List (Str × Value)} {f : FM} (h : RepI kvs f) (k : Str) (n : Int) (t : Tok) : RepI (stored kvs k (.int n t)) (f.set k n) := by
  intro y
  rw [valueAt_stored]
  unfold FM.set
  by_cases hy : y = k
  · simp only [if_pos hy]; exact ⟨t, rfl⟩
  · simp only [if_neg hy]; exact h y
theorem RepI.del {kvs : List (Str × Value)} {f : FM} (h : RepI kvs f) (k : Str) : RepI (without kvs k) (f.del k) := by
  intro y
  rw [valueAt_without]
  unfold FM.del
  by_cases hy : y = k
  · simp only [if_pos hy]
  · simp only [if_neg hy]; exact h y
theorem FM.set_self {f : FM} {k : Str} {n : Int} : f.set k n k = some n := if_pos rfl
theorem FM.set_get {f : FM} {k : Str} {n : Int} {d : Int} : (f.set k n k).getD d = n := by rw [FM.set_self]; rfl
theorem FM.del_none {f : FM} {k : Str} (h : f k = none) : f.del k = f := by
  funext y; unfold FM.del; by_cases e : y = k
  · subst e; simp [h]
  · simp [e]

section
variable {prog : Program} {w : World} {A : Around} {E : Value → Shared → Prop} {s : Shared} {h₀ : Heap} {L d : Addr} {m : Str → Option Value} {news : Led} {g : Obj → Led} {o : Obj} {f : FM} {b : Nat} {k : Str} {tk : Tok}

theorem dI_method_get {pl : Sem Bool} {Q : Value × List Value → Shared → Prop} (N : News h₀ L s.heap news) (hp : (d, o) ∈ news) (hd : DictI prog w o f b) (h : Q (.builtin "dict.get", [.ref d]) s) : wpAny (model prog w) A (getMethod (.ref d) "get" pl) Q E s := by
  obtain ⟨kvs, hd, _, _⟩ := hd
  exact kdg_method N hp hd h
theorem dI_method_pop {pl : Sem Bool} {Q : Value × List Value → Shared → Prop} (N : News h₀ L s.heap news) (hp : (d, o) ∈ news) (hd : DictI prog w o f b) (h : Q (.builtin "dict.pop", [.ref d]) s) : wpAny (model prog w) A (getMethod (.ref d) "pop" pl) Q E s := by
  obtain ⟨kvs, hd, _, _⟩ := hd
  have hD := kda_dict N hp hd
  exact getMethod_builtin hD.typeIs PySem.F.plainAttrs_dict PySem.F.slot_dict_pop PySem.F.type_dict_pop hD.mapOf.noDict h
theorem dI_method_clear {pl : Sem Bool} {Q : Value × List Value → Shared → Prop} (N : News h₀ L s.heap news) (hp : (d, o) ∈ news) (hd : DictI prog w o f b) (h : Q (.builtin "dict.clear", [.ref d]) s) : wpAny (model prog w) A (getMethod (.ref d) "clear" pl) Q E s := by
  obtain ⟨kvs, hd, _, _⟩ := hd
  have hD := kda_dict N hp hd
  exact getMethod_builtin hD.typeIs PySem.F.plainAttrs_dict PySem.F.slot_dict_clear PySem.F.type_dict_clear hD.mapOf.noDict h
theorem dI_method_keys {pl : Sem Bool} {Q : Value × List Value → Shared → Prop} (N : News h₀ L s.heap news) (hp : (d, o) ∈ news) (hd : DictI prog w o f b) (h : Q (.builtin "dict.keys", [.ref d]) s) : wpAny (model prog w) A (getMethod (.ref d) "keys" pl) Q E s := by
  obtain ⟨kvs, hd, _, _⟩ := hd
  have hD := kda_dict N hp hd
  exact getMethod_builtin hD.typeIs PySem.F.plainAttrs_dict PySem.F.slot_dict_keys PySem.F.type_dict_keys hD.mapOf.noDict h

theorem dI_get {Q : Value → Shared → Prop} {n : Int} {tn : Tok} (N : News h₀ L s.heap news) (hp : (d, o) ∈ news) (hd : DictI prog w o f b) (lo : (d == sysModules) = false)
    (h : ∀ t, Q (.int ((f k).getD n) t) { s with toks := s.toks + 1 }) :
    wpAny (model prog w) A (call (.builtin "dict.get") [.ref d, .str k tk, .int n tn]) Q E s := by
  obtain ⟨kvs, hd, _, hr⟩ := hd
  refine kdg_get2 N hp hd lo (strKind_is _ _ k tk) (valueAt kvs k) rfl ?_
  cases e : f k with
  | none => rw [hr.none e]; simpa [e] using h tn
  | some x => obtain ⟨t, ht⟩ := hr.some e; rw [ht]; simpa [e] using h t

theorem dI_item {value slice : PySem.Expr} {Q : Value → Shared → Prop} {n : Int} (N : News h₀ L s.heap news) (hp : (d, o) ∈ news) (hd : DictI prog w o f b) (hf : f k = some n)
    (h : ∀ t, Q (.int n t) { s with toks := s.toks + 1 })
    (hs : subscripted slice false (.ref d) (.str k tk) = operate [.ref d, (.str k tk)] (getItem (.ref d) (.str k tk)) := by with_unfolding_all rfl) (hg : ∀ r, letTemporaryGo value (.ref d) r = pure () := by intro _; with_unfolding_all rfl) :
    wpAny (model prog w) A (subscriptTail value slice (.ref d) (.str k tk)) Q E s := by
  obtain ⟨kvs, hd, _, hr⟩ := hd
  obtain ⟨t, ht⟩ := hr.some hf
  exact kda_item N hp hd (strKind_is _ _ k tk) ht (h t) hs hg

theorem dI_set {Q : Unit → Shared → Prop} {n : Int} {tn : Tok} (F : Fr h₀ L s.heap m) (N : News h₀ L s.heap news) (U : UpdF d o news g) (hd : DictI prog w o f b) (hsz : b ≤ 8388608)
    (h : ∀ h' o', Fr h₀ L h' m → News h₀ L h' (g o') → DictI prog w o' (f.set k n) (b + 1) → Q () { s with heap := h', toks := s.toks + 1 }) : wpAny (model prog w) A (setItem (.ref d) (.str k tk) (.int n tn)) Q E s := by
  obtain ⟨kvs, hd, hl, hr⟩ := hd
  exact kda_set F N U hd (strKind_is _ _ k tk) (by rw [sizeLine_eq]; omega) fun h' o' F' N' hd' => h h' o' F' N' ⟨_, hd', Nat.le_trans (length_stored _ _ _) (by omega), hr.set k n tn⟩

theorem UpdF.same {o : Obj} (U : UpdF d o news g) : g o = news := by
  obtain ⟨pre, post, rfl, hg, _, _⟩ := U.split
  exact hg o

theorem dI_pop {Q : Value → Shared → Prop} {dflt : Value} (F : Fr h₀ L s.heap m) (N : News h₀ L s.heap news) (U : UpdF d o news g) (hd : DictI prog w o f b) (lo : (d == sysModules) = false) (hsz : b ≤ 8388608)
    (h : ∀ v h' o', (v = dflt ∨ ∃ n t, v = .int n t) → Fr h₀ L h' m → News h₀ L h' (g o') → DictI prog w o' (f.del k) b → Q v { s with heap := h', toks := s.toks + 1 }) :
    wpAny (model prog w) A (call (.builtin "dict.pop") [.ref d, .str k tk, dflt]) Q E s := by
  obtain ⟨kvs, hd, hl, hr⟩ := hd
  have hU := U
  obtain ⟨pre, post, rfl, hg, a, b'⟩ := U.split
  have hm := N (d, o) (List.mem_append_right _ (.head _))
  have hD : s.heap.DictOf (PySem.strKind prog w) d kvs := Heap.dictOf_iff.mpr ⟨o, hm.1, hd⟩
  cases e : f k with
  | none =>
    refine call_meetsIn PySem.F.slot_dict_pop hD.typeIs PySem.F.entry_dict_pop (PySem.F.args_dict_pop_3 _ _ _) (meets_dict_pop_default (PySem.strKind prog w) d (strKind_is _ _ k tk) lo rfl dflt) ⟨kvs, hD, hr.none e, ?_⟩
    exact h dflt s.heap o (.inl rfl) F (hg o ▸ N) ⟨kvs, hd, hl, by rw [FM.del_none e]; exact hr⟩
  | some n =>
    obtain ⟨t, ht⟩ := hr.some e
    refine call_meetsIn PySem.F.slot_dict_pop hD.typeIs PySem.F.entry_dict_pop (PySem.F.args_dict_pop_3 _ _ _) (meets_dict_pop_there (PySem.strKind prog w) d (strKind_is _ _ k tk) [dflt] (.inr ⟨dflt, rfl⟩) rfl)
      ⟨kvs, .int n t, hD, by rw [sizeLine_eq]; omega, ht, fun h' hmm hs => ?_⟩
    obtain ⟨o', ho', hd'⟩ := Heap.dictOf_iff.mp hmm
    exact h _ h' o' (.inr ⟨n, t, rfl⟩) (F.change hs hm.2.1 hm.2.2) (hg o' ▸ N.setIn a b' hs ho') ⟨_, hd', Nat.le_trans (length_without _ _) hl, hr.del k⟩

theorem dI_clear {Q : Value → Shared → Prop} (F : Fr h₀ L s.heap m) (N : News h₀ L s.heap news) (U : UpdF d o news g) (hd : DictI prog w o f b) (hsz : b ≤ 8388608)
    (h : ∀ h' o', Fr h₀ L h' m → News h₀ L h' (g o') → DictI prog w o' FM.nil 0 → Q .none { s with heap := h' }) :
    wpAny (model prog w) A (call (.builtin "dict.clear") [.ref d]) Q E s := by
  obtain ⟨kvs, hd, hl, hr⟩ := hd
  obtain ⟨pre, post, rfl, hg, a, b'⟩ := U.split
  have hm := N (d, o) (List.mem_append_right _ (.head _))
  have hD : s.heap.DictOf (PySem.strKind prog w) d kvs := Heap.dictOf_iff.mpr ⟨o, hm.1, hd⟩
  refine call_meetsIn PySem.F.slot_dict_clear hD.typeIs PySem.F.entry_dict_clear (PySem.F.args_dict_clear_1 _) (meets_dict_clear (PySem.strKind prog w) d) ⟨kvs, hD, by rw [sizeLine_eq]; omega, fun h' hmm hs => ?_⟩
  obtain ⟨o', ho', hd'⟩ := Heap.dictOf_iff.mp hmm
  exact h h' o' (F.change hs hm.2.1 hm.2.2) (hg o' ▸ N.setIn a b' hs ho') ⟨_, hd', Nat.le_refl _, RepI.nil⟩

theorem dI_len {Q : Value → Shared → Prop} (N : News h₀ L s.heap news) (hp : (d, o) ∈ news) (hd : DictI prog w o f b) (lo : (d == sysModules) = false) (hsz : b ≤ 8388608)
    (h : ∀ n : Nat, n ≤ b → Q (.int n (s.toks + 1)) { s with toks := s.toks + 1 + 1 }) : wpAny (model prog w) A (call (.builtin "len") [.ref d]) Q E s := by
  obtain ⟨kvs, hd, hl, hr⟩ := hd
  exact kda_len N hp hd lo (by omega) (h _ hl)

theorem News.list {l : Addr} {items : Array Value} {n : Nat} (N : News h₀ L s.heap news) (hm : (l, W.listOf items n) ∈ news) : s.heap.IsList l items := ⟨_, (N _ hm).1, rfl, n, rfl⟩
theorem lst_item {value slice : PySem.Expr} {l : Addr} {items : Array Value} {nl : Nat} {i : Int} {u : Tok} {v : Value} {Q : Value → Shared → Prop} (N : News h₀ L s.heap news) (hm : (l, W.listOf items nl) ∈ news)
    (h0 : 0 ≤ i) (hhi : i < 2 ^ 63) (hx : items[i.toNat]? = some v) (h : Q v s)
    (hs : subscripted slice false (.ref l) (.int i u) = operate [.ref l, .int i u] (getItem (.ref l) (.int i u)) := by with_unfolding_all rfl) :
    wpAny (model prog w) A (subscriptTail value slice (.ref l) (.int i u)) Q E s :=
  tail_any (News.list N hm).typeIs slot_list_getitem.lookup (wpAny_getItem_list (News.list N hm) h0 hhi hx h) hs

inductive StrsOf : List Value → List Str → Prop
  | nil : StrsOf [] []
  | cons (k : Str) (t : Tok) {vs : List Value} {ks : List Str} : StrsOf vs ks → StrsOf (.str k t :: vs) (k :: ks)
theorem strsOf_at : ∀ {kvs : List (Str × Value)} (vs : List Value), vs.length = kvs.length → (∀ (j : Nat) (v : Value), vs[j]? = some v → ∃ (k : Str) (x : Value), kvs[j]? = some (k, x) ∧ ∃ t : Tok, v = Value.str k t) → StrsOf vs (kvs.map (·.1))
  | [], [], _, _ => .nil
  | q :: r, v :: vs, hl, hv => by
    obtain ⟨k, x, e, t, ev⟩ := hv 0 v rfl
    simp only [List.getElem?_cons_zero, Option.some.injEq] at e
    subst e
    subst ev
    exact .cons k t (strsOf_at vs (by simpa using hl) fun j u hu => by simpa using hv (j + 1) u (by simpa using hu))
  | [], _ :: _, hl, _ => by simp at hl
  | _ :: _, [], hl, _ => by simp at hl
theorem mem_keys_iff (kvs : List (Str × Value)) (k : Str) : k ∈ kvs.map (·.1) ↔ (valueAt kvs k).isSome = true := by
  induction kvs with
  | nil => simp [valueAt]
  | cons p r ih =>
    rw [List.map_cons, List.mem_cons, ih, valueAt_cons]
    by_cases h : p.1 = k
    · simp [h]
    · simp [h, Ne.symm h]
theorem RepI.isSome {kvs : List (Str × Value)} {f : FM} (h : RepI kvs f) (k : Str) : (valueAt kvs k).isSome = (f k).isSome := by
  cases e : f k with
  | none => rw [h.none e]; rfl
  | some n => obtain ⟨t, ht⟩ := h.some e; rw [ht]; rfl
theorem dI_keys {Q : Value → Shared → Prop} (F : Fr h₀ L s.heap m) (N : News h₀ L s.heap news) (hp : (d, o) ∈ news) (hd : DictI prog w o f b) (lo : (d == sysModules) = false)
    (h : ∀ (D : Addr) h', Fr h₀ L h' m → News h₀ L h' ((D, { cls := .type "dict_keys", data := .fields #[.ref d] }) :: news) → (∀ q ∈ news, q.1 < D) → Q (.ref D) { s with heap := h' }) :
    wpAny (model prog w) A (call (.builtin "dict.keys") [.ref d]) Q E s := by
  obtain ⟨kvs, hd, _, _⟩ := hd
  exact kdl_view_keys F N hp hd lo h
theorem dI_list {v : Addr} {Q : Value → Shared → Prop} (hh : A.handled = none) (F : Fr h₀ L s.heap m) (N : News h₀ L s.heap news) (hv : (v, { cls := .type "dict_keys", data := .fields #[.ref d] }) ∈ news) (hp : (d, o) ∈ news) (hd : DictI prog w o f b) (hb : b ≤ 8388608)
    (h : ∀ (B : Addr) c h' tk vs ks, StrsOf vs ks → ks.Nodup → (∀ k, k ∈ ks ↔ (f k).isSome = true) → Fr h₀ L h' m → News h₀ L h' ((B, W.listOf vs.toArray c) :: news) → (∀ q ∈ news, q.1 < B) → Q (.ref B) { s with heap := h', toks := tk }) :
    wpAny (model prog w) A (call (.type "list") [.ref v]) Q E s := by
  obtain ⟨kvs, hd, hl, hr⟩ := hd
  obtain ⟨ep, hat⟩ := (kda_dict N hp hd).dictAt
  refine kdl_N (kdl_keys (knd := PySem.strKind prog w) (kvs := kvs) (ep := ep)) hh F N ⟨⟨_, (N _ hv).1, rfl, rfl⟩, hat⟩ (kdl_size (by omega)) fun B c h' tk vs F' N' l1 hl' hv' => ?_
  refine h B c h' tk vs (kvs.map (·.1)) (strsOf_at vs hl' fun j u hu => ?_) ?_ (fun k => ?_) F' N' l1
  · obtain ⟨k, x, hx, hk⟩ := hv' j u hu
    exact ⟨k, x, hx, Value.isStrOf_shape hk⟩
  · obtain ⟨_, _, _, _, _, _, hn⟩ := hd; exact hn
  · rw [mem_keys_iff, hr.isSome]

/-- a loop over a list, by what holds of what is left of it -/
theorem itemsRest_ind {env : Env} {target : PySem.Expr} {body : List Stmt} {Q : Flow → Shared → Prop} {I : Addr} {kp : Addr × Obj} (J : List Value → (Str → Option Value) → Led → Prop)
    (hsub : ∀ r m news, J r m news → kp ∈ news)
    (step : ∀ v r m news, J (v :: r) m news → ∀ h tk (it : Obj), it.cls = .type "list_iterator" → Fr h₀ env.locals h m → News h₀ env.locals h ((I, it) :: news) →
      wpAny (model prog w) A (assign target env v) (fun _ s₂ => wpAny (model prog w) A (execs body env) (UnrPostW h₀ env.locals { s with heap := h, toks := tk } [(I, it)] (fun m' n' => J r m' n') Q) E s₂) E { s with heap := h, toks := tk })
    (done : ∀ m news, J [] m news → ∀ h tk, Fr h₀ env.locals h m → News h₀ env.locals h news → Q .next { s with heap := h, toks := tk }) :
    ∀ (vs : List Value) (m : Str → Option Value) (news : Led), J vs m news → ItemsRest prog w A E h₀ env target body Q s [(I, "list_iterator")] [kp] (vs.map .val) m news
  | [], m, news, hj => ItemsRest.zero fun h tk F N => done m news hj h tk F N
  | v :: r, m, news, hj => ItemsRest.val fun h tk F => AllObj.cons fun it hit => AllObj.nil fun N =>
      wpAny_mono (step v r m news hj h tk it hit F N) (fun _ s₂ h₂ => wpAny_mono h₂ (fun f s₃ h₃ => by
        have conv : ∀ s₃, UnrEndW h₀ env.locals { s with heap := h, toks := tk } [(I, it)] (fun m' n' => J r m' n') s₃ →
            UnrEndW h₀ env.locals { s with heap := h, toks := tk } [(I, it)] (fun m' n' => SubL [kp] n' ∧ ItemsRest prog w A E h₀ env target body Q s [(I, "list_iterator")] [kp] (r.map .val) m' n') s₃ := by
          rintro s₃ ⟨h', tk', m', news', e, F', N', off, hj'⟩
          exact ⟨h', tk', m', news', e, F', N', off, ⟨hsub _ _ _ hj', trivial⟩, itemsRest_ind J hsub step done r m' news' hj'⟩
        cases f with
        | ret v => exact h₃
        | brk => exact h₃
        | next => exact conv _ h₃
        | cont => exact conv _ h₃) fun _ _ e => e) fun _ _ e => e
end
end Mine

namespace Mine
open PySem PySem.W PySem.Calls PyProof.Rows PyProof.V PySem.Spec

/-- the law's clock, «lambda: moment[0]», as the heap holds it (wherever it stands in the text) -/
abbrev lamObj2 (p1 p2 p3 : Pos) (qual : Str) (cl c : Addr) (pm ctv : Value) : Obj :=
  kla_obj (Str.ofString "<lambda>") qual { posonlyargs := [], args := [], vararg := none, kwonlyargs := [], kw_defaults := [], kwarg := none, defaults := [] }
    ((Expr.Name (Str.ofString "moment") p1).Subscript (Expr.Constant (Const.int 0) 0 p2) p3)
    { kind := ScopeKind.function, names := [(Str.ofString "moment", NameKind.free)], isGenerator := false, isCoroutine := false } [(Str.ofString "moment", cl)] pm c ctv
/-- the key of the search, «lambda entry: -entry.atime» -/
abbrev keyObj2 (p0 p1 p2 p3 : Pos) (qual : Str) (c : Addr) (pm ctv : Value) : Obj :=
  kla_obj (Str.ofString "<lambda>") qual { posonlyargs := [], args := [{ arg := Str.ofString "entry", annotation := none, pos := p0 }], vararg := none, kwonlyargs := [], kw_defaults := [], kwarg := none, defaults := [] }
    (Expr.UnaryOp UnaryOp.USub ((Expr.Name (Str.ofString "entry") p1).Attribute (Str.ofString "atime") p2) p3)
    { kind := ScopeKind.function, names := [(Str.ofString "entry", NameKind.local)], isGenerator := false, isCoroutine := false } [] pm c ctv
/-- the dict of an entry -/
abbrev entD (P : Params) (at' : Int) (ta : Tok) (ex : Int) (te t1 t2 : Tok) : Obj :=
  W.dictOf [{ hash := PyData.keyHash P (Str.ofString "atime"), key := .str (Str.ofString "atime") t1, val := .int at' ta }, { hash := PyData.keyHash P (Str.ofString "expiry"), key := .str (Str.ofString "expiry") t2, val := .int ex te }] 2

section
variable {w : World} {p : Program} {loose : List Str} {mean : ExcName → Option Value} {mg mb : Str → Option Value}
  {dp un : Nat} {gd : Option (List Code)} {cn : Str} {cs : Scope} {a : Addr} {ccd : Value} {cll : List (Str × Addr)} {outer : List Env} {A₀ : Around} {base h₀ : Heap} {L : Addr} {m : Str → Option Value} {news : Led} {s : Shared}
  {Q E : Value → Shared → Prop}

theorem clock2_call {f c cl ln : Addr} {p1 p2 p3 : Pos} {qual : Str} {pm ctv : Value} {oc ocl : Obj} {vs : Array Value} {t : Tok} {now : Int} {tn : Tok} {nl : Nat}
    (B : Below A₀ base outer h₀) (F : Fr h₀ L s.heap m) (X : (hd02.heap_39 w.params).In h₀) (N : News h₀ L s.heap news) (T : Top p loose mean mg mb h₀) (hk : cs.kind = .function)
    (hf : (f, lamObj2 p1 p2 p3 qual cl c pm ctv) ∈ news) (hc : (c, oc) ∈ news) (d1 : oc.data = .fields vs) (d2 : vs[1]? = some (.str qual t)) (hcl : (cl, ocl) ∈ news) (d3 : ocl.data = .cell (some (.ref ln)))
    (hln : (ln, W.listOf #[.int now tn] nl) ∈ news) (hd : dp + 1 < recursionLimit)
    (hret : ∀ h' tk', Fr h₀ L h' m → News h₀ L h' news → Q (.int now tn) { s with heap := h', toks := tk' }) :
    wpAny (model Challenge.rw_jb0019_02.row.prog w) (ktrTop dp un gd cn cs L a ccd cll outer) (call (.ref f) []) Q E s := by
  revert X; k_fill; intro X
  refine wpAny_call ?_
  k_dflt (refine' kla_code ?k1 ?k2 ?k3 ?k4 ?k5 ?kA ?kF ?kK ?k6 ?k7 ?k8 ?k9 ?kB ?_ ?c2 ?c3 ?c4 ?c5; (case kA => exact rfl); (case kF => exact rfl); (case kK => assumption); (case k1 => k_asm); (case k2 => k_asm); (case k3 => k_asm); (case k4 => k_asm); (case k5 => k_asm); (case k6 => k_mem); (case k7 => exact codeRec_news (by k_asm) (by k_mem) (by assumption) (by assumption)); (case k8 => ktr_room); (case k9 => exact rfl); (case c5 => decide); (case kB => exact locs rfl); (case c2 => exact rfl); (case c3 => exact rfl); (case c4 => exact rfl); k_whole; intro g' L' h' FG' F' N' B' X' T'; (try dsimp only); (try k_lift B'); (try k_fold))
  refine Subscript_ ?_
  refine nameX_F N' rfl hcl d3 ?_
  refine wpAny_Constant_int ?_
  refine lst_item N' hln (by decide) (by decide) rfl ?_
  k_unfold
  exact leaveK_ F' N' fun F9 N9 => hret _ _ F9 N9

theorem key2_call {f c e ed : Addr} {p0 p1 p2 p3 : Pos} {qual : Str} {pm ctv : Value} {oc : Obj} {vs : Array Value} {t : Tok} {at' ex : Int} {ta te t1 t2 : Tok}
    (B : Below A₀ base outer h₀) (F : Fr h₀ L s.heap m) (X : (hd02.heap_39 w.params).In h₀) (N : News h₀ L s.heap news) (T : Top p loose mean mg mb h₀) (hk : cs.kind = .function)
    (hf : (f, keyObj2 p0 p1 p2 p3 qual c pm ctv) ∈ news) (hc : (c, oc) ∈ news) (d1 : oc.data = .fields vs) (d2 : vs[1]? = some (.str qual t))
    (he : (e, instObj 69 ed) ∈ news) (hed : (ed, entD w.params at' ta ex te t1 t2) ∈ news) (hd : dp + 1 < recursionLimit)
    (hret : ∀ t' h' tk', Fr h₀ L h' m → News h₀ L h' news → Q (.int (-at') t') { s with heap := h', toks := tk' }) :
    wpAny (model Challenge.rw_jb0019_02.row.prog w) (ktrTop dp un gd cn cs L a ccd cll outer) (call (.ref f) [.ref e]) Q E s := by
  revert X; k_fill; intro X
  refine wpAny_call ?_
  k_dflt (refine' kla_code ?k1 ?k2 ?k3 ?k4 ?k5 ?kA ?kF ?kK ?k6 ?k7 ?k8 ?k9 ?kB ?_ ?c2 ?c3 ?c4 ?c5; (case kA => exact rfl); (case kF => exact rfl); (case kK => assumption); (case k1 => k_asm); (case k2 => k_asm); (case k3 => k_asm); (case k4 => k_asm); (case k5 => k_asm); (case k6 => k_mem); (case k7 => exact codeRec_news (by k_asm) (by k_mem) (by assumption) (by assumption)); (case k8 => ktr_room); (case k9 => exact rfl); (case c5 => decide); (case kB => exact locs rfl); (case c2 => exact rfl); (case c3 => exact rfl); (case c4 => exact rfl); k_whole; intro g' L' h' FG' F' N' B' X' T'; (try dsimp only); (try k_lift B'); (try k_fold))
  k_steps
  exact hret _ _ _ (by k_asm) (by k_asm)
end
end Mine

namespace Mine
open PySem PySem.W PySem.Calls PyProof.Rows PyProof.V PySem.Spec

/-- an entry of the store, as the ledger holds it -/
def EntOf (P : Params) (news : Led) (v : Value) (at' : Int) : Prop :=
  ∃ e ed ta ex te t1 t2, v = .ref e ∧ (e, instObj 69 ed) ∈ news ∧ (ed, entD P at' ta ex te t1 t2) ∈ news
structure EntsAre (P : Params) (news : Led) (items : Array Value) (ats : List Int) : Prop where
  size : items.size = ats.length
  ent : ∀ (i : Nat) (a : Int), ats[i]? = some a → ∃ v, items[i]? = some v ∧ EntOf P news v a
theorem EntOf.sub {P : Params} {news news' : Led} {v : Value} {a : Int} (h : EntOf P news v a) (hs : ∀ p ∈ news, p ∈ news') : EntOf P news' v a := by
  obtain ⟨e, ed, ta, ex, te, t1, t2, rfl, h1, h2⟩ := h
  exact ⟨e, ed, ta, ex, te, t1, t2, rfl, hs _ h1, hs _ h2⟩
theorem EntsAre.sub {P : Params} {news news' : Led} {items : Array Value} {ats : List Int} (h : EntsAre P news items ats) (hs : ∀ p ∈ news, p ∈ news') : EntsAre P news' items ats :=
  ⟨h.size, fun i a hi => let ⟨v, h1, h2⟩ := h.ent i a hi; ⟨v, h1, h2.sub hs⟩⟩

def Falls (ats : List Int) : Prop := ∀ (i j : Nat) (a b : Int), i ≤ j → ats[i]? = some a → ats[j]? = some b → b ≤ a
/-- how far the rows that lie below x reach -/
def Cut (ats : List Int) (x lo hi : Int) : Prop := ∀ (i : Nat) (a : Int), ats[i]? = some a → ((i : Int) < lo → -a < x) ∧ (hi ≤ (i : Int) → ¬ -a < x)

theorem map5 {k1 k2 k3 k4 k5 : Str} {v1 v2 v3 v4 v5 : Value} {m : Str → Option Value} (h1 : m k1 = some v1) (h2 : m k2 = some v2) (h3 : m k3 = some v3) (h4 : m k4 = some v4) (h5 : m k5 = some v5) :
    ∃ u : Str → Option Value, m = fun y => if y = k1 then some v1 else if y = k2 then some v2 else if y = k3 then some v3 else if y = k4 then some v4 else if y = k5 then some v5 else u y := by
  refine ⟨m, ?_⟩
  funext y
  by_cases e1 : y = k1; · simp [e1, h1]
  by_cases e2 : y = k2; · subst e2; simp [e1, h2]
  by_cases e3 : y = k3; · subst e3; simp [e1, e2, h3]
  by_cases e4 : y = k4; · subst e4; simp [e1, e2, e3, h4]
  by_cases e5 : y = k5; · subst e5; simp [e1, e2, e3, e4, h5]
  simp [e1, e2, e3, e4, e5]

def MyStop (P : Prop) : Prop := P
theorem MyStop.mk {P : Prop} (h : MyStop P) : P := h
local macro_rules | `(tactic| walk_at "exec While") => `(tactic| ((with_reducible show wpAny _ _ (exec (Stmt.While _ _ _ _) _) _ _ _); refine MyStop.mk ?_))
local macro_rules | `(tactic| walk_at "call builtin:len") => `(tactic| (k_here; (try dsimp only [List.append_nil, List.cons_append, List.nil_append]); (with_reducible show wpAny _ _ (call (Value.builtin "len") [Value.ref _]) _ _ _); k_dflt (refine len_list (by exact News.list (by k_asm) (by k_mem)) (by omega) ?_)))
local macro_rules | `(tactic| walk_at "callWith ref") => `(tactic| (k_here; (with_reducible show wpAny _ _ (callWith _ (Value.ref _) _ (backTo _ (starEach (_ :: _) _)) []) _ _ _); k_dflt (refine callWith_F (by exact FnAt.of (by k_asm) (by k_mem)) ?_; k_whole)))
local macro_rules | `(tactic| walk_at "subscriptTail") => `(tactic| (k_here; (with_reducible show wpAny _ _ (subscriptTail _ _ (Value.ref _) (Value.int _ _)) _ _ _); k_dflt (refine lst_item (by k_asm) (by k_mem) (by omega) (by omega) (by assumption) ?_ (by with_unfolding_all rfl))))
local macro_rules | `(tactic| walk_at "call ref") => `(tactic| (k_here; (try dsimp only [List.append_nil, List.cons_append, List.nil_append]); (with_reducible show wpAny _ _ (call (Value.ref _) [_] _) _ _ _); k_dflt (refine key2_call (by k_asm) (by k_asm) (by k_asm) (by k_asm) (by k_asm) (by rfl) (by k_mem) (by k_mem) (by assumption) (by assumption) (by k_mem) (by k_mem) (by ktr_room) ?_); intro t' h' tk' F' N'))
local macro_rules | `(tactic| ktr_enter) => `(tactic| (refine' code_def ?k1 ?k2 ?k3 ?k4 ?k5 ?kA ?kF ?kK ?k6 ?k7 ?k8 ?k9 ?kB ?_ ?c2 ?c3 ?c4 ?c5; (case kA => exact rfl); (case kF => exact rfl); (case kK => assumption); (case k1 => k_asm); (case k2 => k_asm); (case k3 => k_asm); (case k4 => k_asm); (case k5 => k_asm); (case k6 => k_is); (case k7 => k_is); (case k8 => ktr_room); (case k9 => first | exact BindsTo.of_eq rfl | exact binds_K (by k_in) rfl (by k_is) rfl rfl rfl); (case c5 => decide); (case kB => exact locs rfl); (case c2 => exact rfl); (case c3 => exact rfl); (case c4 => exact rfl); k_whole; intro g' L' h' FG' F' N' B' X' T'; (try dsimp only); (try k_lift B'); (try k_fold)))

section
variable {w : World} {p : Program} {loose : List Str} {mean : ExcName → Option Value} {mg mb : Str → Option Value}
  {dp un : Nat} {gd : Option (List Code)} {cn : Str} {cs : Scope} {a : Addr} {ccd : Value} {cll : List (Str × Addr)} {outer : List Env} {A₀ : Around} {base h₀ : Heap} {L : Addr} {m : Str → Option Value} {news : Led} {s : Shared}
  {Q E : Value → Shared → Prop}

theorem bisect2_call {f c rl : Addr} {p0 p1 p2 p3 : Pos} {qual : Str} {pm ctv : Value} {oc : Obj} {vs : Array Value} {t tx : Tok} {x : Int} {items : Array Value} {nl : Nat} {ats : List Int}
    (B : Below A₀ base outer h₀) (F : Fr h₀ L s.heap m) (X : (hd02.heap_39 w.params).In h₀) (N : News h₀ L s.heap news) (T : Top p loose mean mg mb h₀) (hk : cs.kind = .function)
    (hf : (f, keyObj2 p0 p1 p2 p3 qual c pm ctv) ∈ news) (hc : (c, oc) ∈ news) (d1 : oc.data = .fields vs) (d2 : vs[1]? = some (.str qual t))
    (hrl : (rl, W.listOf items nl) ∈ news) (hE : EntsAre w.params news items ats) (hS : Falls ats) (hn : ats.length < 2 ^ 30) (hd : dp + 2 < recursionLimit)
    (hret : ∀ (r : Int) t' h' tk', 0 ≤ r → r ≤ ats.length → Cut ats x r r → Fr h₀ L h' m → News h₀ L h' news → Q (.int r t') { s with heap := h', toks := tk' }) :
    wpAny (model Challenge.rw_jb0019_02.row.prog w) (ktrTop dp un gd cn cs L a ccd cll outer) (call (.ref 52) [.ref rl, .int x tx] [(Str.ofString "key", .ref f)]) Q E s := by
  revert X; k_fill; intro X
  have hsz := hE.size
  refine wpAny_call ?_
  k_dflt ktr_enter
  k_steps
  show wpAny _ _ _ _ _ _
  rename News _ _ _ _ => N1
  rename Fr _ _ _ _ => F1
  rw [hsz] at F1
  refine While_inv2 (fun n m' news' => ∃ (lo hi : Int) (tl th tx2 : Tok), news' = news ∧ 0 ≤ lo ∧ lo ≤ hi ∧ hi ≤ ats.length ∧ n = (hi - lo).toNat ∧ Cut ats x lo hi ∧
    m' (Str.ofString "rows") = some (.ref rl) ∧ m' (Str.ofString "x") = some (.int x tx2) ∧ m' (Str.ofString "key") = some (.ref f) ∧ m' (Str.ofString "lo") = some (.int lo tl) ∧ m' (Str.ofString "hi") = some (.int hi th))
    (n₀ := ats.length) F1 N1 ?_ ?_ ?_
  · refine ⟨0, ats.length, _, _, tx, rfl, by omega, by omega, by omega, by omega, ?_, rfl, rfl, rfl, rfl, rfl⟩
    exact fun i a hi => ⟨fun h => by omega, fun h => absurd (List.getElem?_eq_some_iff.mp hi).1 (by omega)⟩
  · rintro n m₁ news₁ h₁ tk₁ F2 N2 ⟨lo, hi, tl, th, tx2, rfl, b1, b2, b3, rfl, hc2, e1, e2, e3, e4, e5⟩
    obtain ⟨u, rfl⟩ := map5 e1 e2 e3 e4 e5
    clear e1 e2 e3 e4 e5 F1 N1
    by_cases hlt : lo < hi
    · have hmd : (lo + hi).fdiv 2 = (lo + hi) / 2 := Int.fdiv_eq_ediv_of_nonneg _ (by decide)
      have hm1 : lo ≤ (lo + hi).fdiv 2 := by rw [hmd]; omega
      have hm2 : (lo + hi).fdiv 2 < hi := by rw [hmd]; omega
      clear hmd
      obtain ⟨at', hat⟩ : ∃ a, ats[((lo + hi).fdiv 2).toNat]? = some a := ⟨_, List.getElem?_eq_getElem (by omega)⟩
      obtain ⟨v, hv, e, ed, ta, ex, te, q1, q2, rfl, he1, he2⟩ := hE.ent _ _ hat
      have up : -at' < x → Cut ats x ((lo + hi).fdiv 2 + 1) hi := fun hx i b hb => ⟨fun h => by
          have := hS i _ _ _ (by omega) hb hat
          omega, (hc2 i b hb).2⟩
      have down : ¬ -at' < x → Cut ats x lo ((lo + hi).fdiv 2) := fun hx i b hb => ⟨(hc2 i b hb).1, fun h => by
          have := hS _ i _ _ (by omega) hat hb
          omega⟩
      k_steps
      · exact ⟨_, _, _, _, _, rfl, by k_asm, by k_asm, by omega, _, _, _, _, tx2, rfl, by omega, by omega, by omega, rfl, up (by assumption), rfl, rfl, rfl, rfl, rfl⟩
      · exact ⟨_, _, _, _, _, rfl, by k_asm, by k_asm, by omega, _, _, _, _, tx2, rfl, by omega, by omega, by omega, rfl, down (by assumption), rfl, rfl, rfl, rfl, rfl⟩
    · k_steps
      have e : hi = lo := by omega
      subst e
      exact hret _ _ _ _ b1 b3 hc2 (by k_asm) (by k_asm)
  · passes_own
end
end Mine

namespace Mine
open PySem PySem.W PySem.Calls PyProof.Rows PyProof.V PySem.Spec

abbrev RM := Str → Option Addr
def RM.set (f : RM) (k : Str) (l : Addr) : RM := fun y => if y = k then some l else f y
def DictR (prog : Program) (w : World) (o : Obj) (f : RM) (b : Nat) : Prop :=
  ∃ kvs, o.IsDictOf (PySem.strKind prog w) kvs ∧ kvs.length ≤ b ∧ ∀ y, valueAt kvs y = (f y).map Value.ref
section
variable {prog : Program} {w : World} {A : Around} {E : Value → Shared → Prop} {s : Shared} {h₀ : Heap} {L d : Addr} {m : Str → Option Value} {news : Led} {g : Obj → Led} {o : Obj} {f : RM} {b : Nat} {k : Str} {tk : Tok} {l : Addr}

theorem dR_method_get {pl : Sem Bool} {Q : Value × List Value → Shared → Prop} (N : News h₀ L s.heap news) (hp : (d, o) ∈ news) (hd : DictR prog w o f b) (h : Q (.builtin "dict.get", [.ref d]) s) : wpAny (model prog w) A (getMethod (.ref d) "get" pl) Q E s := by
  obtain ⟨kvs, hd, _, _⟩ := hd
  exact kdg_method N hp hd h
theorem dR_method_setdefault {pl : Sem Bool} {Q : Value × List Value → Shared → Prop} (N : News h₀ L s.heap news) (hp : (d, o) ∈ news) (hd : DictR prog w o f b) (h : Q (.builtin "dict.setdefault", [.ref d]) s) : wpAny (model prog w) A (getMethod (.ref d) "setdefault" pl) Q E s := by
  obtain ⟨kvs, hd, _, _⟩ := hd
  exact kob_method PySem.F.slot_dict_setdefault PySem.F.type_dict_setdefault N hp hd h
theorem dR_get {Q : Value → Shared → Prop} {v : Value} (x : Option Addr) (N : News h₀ L s.heap news) (hp : (d, o) ∈ news) (hd : DictR prog w o f b) (lo : (d == sysModules) = false) (e : f k = x)
    (h : Q ((x.map Value.ref).getD v) { s with toks := s.toks + 1 }) :
    wpAny (model prog w) A (call (.builtin "dict.get") [.ref d, .str k tk, v]) Q E s := by
  obtain ⟨kvs, hd, _, hr⟩ := hd
  exact kdg_get2 N hp hd lo (strKind_is _ _ k tk) (x.map Value.ref) (by rw [hr, e]) h
theorem dR_item {value slice : PySem.Expr} {Q : Value → Shared → Prop} (N : News h₀ L s.heap news) (hp : (d, o) ∈ news) (hd : DictR prog w o f b) (hf : f k = some l)
    (h : Q (.ref l) { s with toks := s.toks + 1 })
    (hs : subscripted slice false (.ref d) (.str k tk) = operate [.ref d, (.str k tk)] (getItem (.ref d) (.str k tk)) := by with_unfolding_all rfl) (hg : ∀ r, letTemporaryGo value (.ref d) r = pure () := by intro _; with_unfolding_all rfl) :
    wpAny (model prog w) A (subscriptTail value slice (.ref d) (.str k tk)) Q E s := by
  obtain ⟨kvs, hd, _, hr⟩ := hd
  exact kda_item N hp hd (strKind_is _ _ k tk) (by rw [hr, hf]; rfl) h hs hg
theorem dR_rep_set {kvs : List (Str × Value)} {f : RM} (h : ∀ y, valueAt kvs y = (f y).map Value.ref) (k : Str) (l : Addr) : ∀ y, valueAt (stored kvs k (.ref l)) y = (f.set k l y).map Value.ref := by
  intro y
  rw [valueAt_stored]
  unfold RM.set
  by_cases e : y = k
  · simp [e]
  · simp only [if_neg e]; exact h y
theorem dR_set {Q : Unit → Shared → Prop} (F : Fr h₀ L s.heap m) (N : News h₀ L s.heap news) (U : UpdF d o news g) (hd : DictR prog w o f b) (hsz : b ≤ 8388608)
    (h : ∀ h' o', Fr h₀ L h' m → News h₀ L h' (g o') → DictR prog w o' (f.set k l) (b + 1) → Q () { s with heap := h', toks := s.toks + 1 }) : wpAny (model prog w) A (setItem (.ref d) (.str k tk) (.ref l)) Q E s := by
  obtain ⟨kvs, hd, hl, hr⟩ := hd
  exact kda_set F N U hd (strKind_is _ _ k tk) (by rw [sizeLine_eq]; omega) fun h' o' F' N' hd' => h h' o' F' N' ⟨_, hd', Nat.le_trans (length_stored _ _ _) (by omega), dR_rep_set hr k l⟩
theorem RM.set_same {f : RM} {k : Str} {l : Addr} (h : f k = some l) : f.set k l = f := by
  funext y; unfold RM.set; by_cases e : y = k
  · subst e; simp [h]
  · simp [e]
theorem dR_setdef {Q : Value → Shared → Prop} (F : Fr h₀ L s.heap m) (N : News h₀ L s.heap news) (U : UpdF d o news g) (hd : DictR prog w o f b) (lo : (d == sysModules) = false) (hsz : b ≤ 8388608)
    (h : ∀ h' o', Fr h₀ L h' m → News h₀ L h' (g o') → DictR prog w o' (f.set k ((f k).getD l)) (b + 1) → Q (.ref ((f k).getD l)) { s with heap := h', toks := s.toks + 1 }) :
    wpAny (model prog w) A (call (.builtin "dict.setdefault") [.ref d, .str k tk, .ref l]) Q E s := by
  obtain ⟨kvs, hd, hl, hr⟩ := hd
  cases e : f k with
  | none =>
    rw [e] at h
    exact kob_setdef_new F N U hd lo (strKind_is _ _ k tk) (PySem.F.args_dict_setdefault_3 _ _ _) (by rw [hr, e]; rfl) (by rw [sizeLine_eq]; omega)
      fun h' o' F' N' hd' => h h' o' F' N' ⟨_, hd', Nat.le_trans (length_stored _ _ _) (by omega), dR_rep_set hr k l⟩
  | some l' =>
    rw [e] at h
    have hU := U
    obtain ⟨pre, post, rfl, hg, a, b'⟩ := U.split
    refine kob_setdef_there N (List.mem_append_right _ (.head _)) hd lo (strKind_is _ _ k tk) (PySem.F.args_dict_setdefault_3 _ _ _) (v := .ref l') (by rw [hr, e]; rfl) (by rw [sizeLine_eq]; omega) ?_
    exact h s.heap o F (hg o ▸ N) ⟨kvs, hd, by omega, by
      show ∀ y, valueAt kvs y = ((f.set k l') y).map Value.ref
      rw [RM.set_same e]; exact hr⟩
end

/-- the ledger of the store: what changes ahead -/
abbrev TL (P : Params) (dS dE dV ln x dx f c cl : Addr) (oV lnO : Obj) (t1 t2 t3 t4 : Tok) (p1 p2 p3 : Pos) (qual : Str) (pm ctv : Value) (oc ocl : Obj) (ps : Array Value) (rest : Led) : Led :=
  (dV, oV) :: (ln, lnO) :: (141, tabObj ps) :: (x, instObj 192 dx) ::
      (dx, W.dictOf [{ hash := PyData.keyHash P (Str.ofString "clock"), key := .str (Str.ofString "clock") t1, val := .ref f }, { hash := PyData.keyHash P (Str.ofString "storage"), key := .str (Str.ofString "storage") t2, val := .ref dS },
        { hash := PyData.keyHash P (Str.ofString "expirations"), key := .str (Str.ofString "expirations") t3, val := .ref dE }, { hash := PyData.keyHash P (Str.ofString "events"), key := .str (Str.ofString "events") t4, val := .ref dV }] 4) ::
      (f, lamObj2 p1 p2 p3 qual cl c pm ctv) :: (c, oc) :: (cl, ocl) :: rest
structure TOk (dV ln x dx f c cl : Addr) (qual : Str) (oc ocl : Obj) : Prop where
  d12 : ∃ vs t, oc.data = .fields vs ∧ vs[1]? = some (.str qual t)
  d3 : ocl.data = .cell (some (.ref ln))
  o0 : @LT.lt Nat _ 141 cl
  o1 : @LT.lt Nat _ cl ln
  o2 : @LT.lt Nat _ ln c
  o3 : @LT.lt Nat _ c f
  o4 : @LT.lt Nat _ f dx
  o5 : @LT.lt Nat _ dx x
  o6 : @LT.lt Nat _ x dV
  lV : (dV == sysModules) = false
/-- the lists of the store, by key -/
def ListsOk (P : Params) (rest : Led) (f : RM) (M : Str → List Int) : Prop :=
  ∀ k, match f k with
    | none => M k = []
    | some l => ∃ items nl, (l, W.listOf items nl) ∈ rest ∧ EntsAre P rest items (M k)

local macro_rules | `(tactic| walk_at "getMethod ref") => `(tactic| (k_here; (with_reducible show wpAny _ _ (getMethod (Value.ref _) (Str.ofString "get") _) _ _ _); k_dflt (refine dR_method_get (by k_asm) (by k_mem) (by k_asm) ?_)))
local macro_rules | `(tactic| walk_at "call builtin:dict.get") => `(tactic| (k_here; (try dsimp only [List.append_nil, List.cons_append, List.nil_append]); k_dflt (refine dR_get _ (by k_asm) (by k_mem) (by k_asm) (by k_asm) (by assumption) ?_); try dsimp only [Option.map, Option.getD]))
local macro_rules | `(tactic| walk_at "callWith ref") => `(tactic| (k_here; (with_reducible show wpAny _ _ (callWith _ (Value.ref _) _ (backTo _ (starEach [] _)) []) _ _ _); k_dflt (refine callWith_F0 (by exact FnAt.of (by k_asm) (by k_mem)) ?_; k_whole; try dsimp only [List.nil_append, List.cons_append])))
local macro_rules | `(tactic| walk_at "call ref") => `(tactic| (k_here; (try dsimp only [List.append_nil, List.cons_append, List.nil_append]); (with_reducible show wpAny _ _ (call (Value.ref _) [] _) _ _ _); k_dflt (refine clock2_call (by k_asm) (by k_asm) (by k_asm) (by k_asm) (by k_asm) (by rfl) (by k_mem) (by k_mem) (by assumption) (by assumption) (by k_mem) (by assumption) (by k_mem) (by ktr_room) ?_); intro h' tk' F' N'))
local macro_rules | `(tactic| k_mem) => `(tactic| ((repeat' apply List.mem_cons_of_mem); with_reducible assumption))
theorem tr_list_ne {prog : Program} {w : World} {A : Around} {E : Value → Shared → Prop} {s : Shared} {h₀ : Heap} {L l : Addr} {news : Led} {items : Array Value} {nl : Nat} {Q : Bool → Shared → Prop} (N : News h₀ L s.heap news) (hm : (l, W.listOf items nl) ∈ news)
    (hz : 0 < items.size) (hf : items.size < 2 ^ 62) (h : Q true { s with toks := s.toks + 1 + 1 }) : wpAny (model prog w) A (truthy (.ref l)) Q E s := by
  refine wpAny_truthy_list (News.list N hm) (by omega) ?_
  have e : (!items.isEmpty) = true := by
    unfold Array.isEmpty
    rw [decide_eq_false (show ¬ items.size = 0 by omega)]; rfl
  rw [e]; exact h
theorem tr_list_e {prog : Program} {w : World} {A : Around} {E : Value → Shared → Prop} {s : Shared} {h₀ : Heap} {L l : Addr} {news : Led} {items : Array Value} {nl : Nat} {Q : Bool → Shared → Prop} (N : News h₀ L s.heap news) (hm : (l, W.listOf items nl) ∈ news)
    (hz : items.size = 0) (h : Q false { s with toks := s.toks + 1 + 1 }) : wpAny (model prog w) A (truthy (.ref l)) Q E s := by
  refine wpAny_truthy_list (News.list N hm) (by omega) ?_
  have e : (!items.isEmpty) = false := by
    unfold Array.isEmpty
    rw [decide_eq_true hz]; rfl
  rw [e]; exact h
theorem lst_item_neg {prog : Program} {w : World} {A : Around} {E : Value → Shared → Prop} {s : Shared} {h₀ : Heap} {L l : Addr} {news : Led} {value slice : PySem.Expr} {items : Array Value} {nl : Nat} {i : Int} {u : Tok} {v : Value} {Q : Value → Shared → Prop} (N : News h₀ L s.heap news) (hm : (l, W.listOf items nl) ∈ news)
    (h0 : i < 0) (hlo : -(2 ^ 63) ≤ i) (hj : 0 ≤ i + items.size) (hx : items[(i + items.size).toNat]? = some v) (h : Q v s)
    (hs : subscripted slice false (.ref l) (.int i u) = operate [.ref l, .int i u] (getItem (.ref l) (.int i u)) := by with_unfolding_all rfl) :
    wpAny (model prog w) A (subscriptTail value slice (.ref l) (.int i u)) Q E s :=
  tail_any (News.list N hm).typeIs slot_list_getitem.lookup (wpAny_getItem_list_neg (News.list N hm) h0 (by omega) hlo hx h) hs
theorem pickE {P : Params} {rest : Led} {items : Array Value} {ats : List Int} {r : Int} (hE : EntsAre P rest items ats) (hne : ¬ items.size = 0) (h1 : 0 ≤ r) (h2 : r ≤ ats.length) :
    (r = 0 ∧ ∃ e ed at' ta ex te t1 t2, items[(r - 1 + items.size).toNat]? = some (.ref e) ∧ (e, instObj 69 ed) ∈ rest ∧ (ed, entD P at' ta ex te t1 t2) ∈ rest) ∨
    (0 < r ∧ ∃ e ed at' ta ex te t1 t2, items[(r - 1).toNat]? = some (.ref e) ∧ ats[(r - 1).toNat]? = some at' ∧ (e, instObj 69 ed) ∈ rest ∧ (ed, entD P at' ta ex te t1 t2) ∈ rest) := by
  have hs := hE.size
  by_cases h : r = 0
  · left
    obtain ⟨v, h3, e, ed, ta, ex, te, q1, q2, rfl, h4, h5⟩ := hE.ent (r - 1 + items.size).toNat _ (List.getElem?_eq_getElem (by omega))
    exact ⟨h, e, ed, _, ta, ex, te, q1, q2, h3, h4, h5⟩
  · right
    have hl := List.getElem?_eq_getElem (l := ats) (i := (r - 1).toNat) (by omega)
    obtain ⟨v, h3, e, ed, ta, ex, te, q1, q2, rfl, h4, h5⟩ := hE.ent (r - 1).toNat _ hl
    exact ⟨by omega, e, ed, _, ta, ex, te, q1, q2, h3, hl, h4, h5⟩
/-- what the window tells -/
structure GmwRes (ats : List Int) (now len st ct : Int) : Prop where
  c0 : 0 ≤ ct
  c1 : ct ≤ ats.length
  cut : Cut ats (-(now - len)) ct ct
  st : ∀ a, 0 < ct → ats[(ct - 1).toNat]? = some a → st = a
/-- the table of the code within get_moving_window -/
def TabP (ps : Array Value) (rest : Led) : Prop := ps = #[] ∨ ∃ c' oc vs t, ps = #[rawInt ((74 : Nat) : Int), rawInt ((68 : Nat) : Int), .ref c'] ∧ (c', oc) ∈ rest ∧ oc.data = .fields vs ∧
  vs[1]? = some (.str ((Str.ofString "MemoryStorage.get_moving_window" ++ Str.ofString ".<locals>.") ++ Str.ofString "<lambda>") t)
theorem News.sub3 {h₀ h : Heap} {L : Addr} {a b : Led} {q : Addr × Obj} (N : News h₀ L h (q :: a)) (hs : ∀ p ∈ q :: b, p ∈ q :: a) : News h₀ L h (q :: b) := fun p hp => N p (hs p hp)
theorem gmw_sub {h₀ h : Heap} {L : Addr} {D F C l a1 a2 a3 a4 a5 a6 a7 a8 : Addr × Obj} {rest : Led} (N : News h₀ L h (D :: F :: C :: l :: a1 :: a2 :: a3 :: a4 :: a5 :: a6 :: a7 :: a8 :: rest)) :
    News h₀ L h (D :: a1 :: a2 :: a3 :: a4 :: a5 :: a6 :: a7 :: a8 :: C :: rest) := fun p hp => N p (by
  simp only [List.mem_cons] at hp ⊢
  rcases hp with h | h | h | h | h | h | h | h | h | h | h <;> simp only [h, true_or, or_true])
theorem gmw_sub2 {h₀ h : Heap} {L : Addr} {D F l a1 a2 a3 a4 a5 a6 a7 a8 : Addr × Obj} {rest : Led} (N : News h₀ L h (D :: F :: l :: a1 :: a2 :: a3 :: a4 :: a5 :: a6 :: a7 :: a8 :: rest)) :
    News h₀ L h (D :: a1 :: a2 :: a3 :: a4 :: a5 :: a6 :: a7 :: a8 :: rest) := fun p hp => N p (by
  simp only [List.mem_cons] at hp ⊢
  rcases hp with h | h | h | h | h | h | h | h | h | h <;> simp only [h, true_or, or_true])
theorem off_cons3 {c a1 a2 a3 : Addr} {o : Obj} {rest : Led} (off : OwnOff rest [a1, a2, a3]) (h1 : @LT.lt Nat _ a1 c) (h2 : @LT.lt Nat _ a2 c) (h3 : @LT.lt Nat _ a3 c) : OwnOff ((c, o) :: rest) [a1, a2, a3] := by
  intro p hp q hq
  rcases List.mem_cons.mp hp with rfl | hp
  · rcases List.mem_cons.mp hq with rfl | hq
    · exact Nat.ne_of_gt h1
    rcases List.mem_cons.mp hq with rfl | hq
    · exact Nat.ne_of_gt h2
    rcases List.mem_cons.mp hq with rfl | hq
    · exact Nat.ne_of_gt h3
    · cases hq
  · exact off p hp q hq
/-- how the ledger's tail, and what is owned of it, may grow -/
structure Grow (own rest own' rest' : Led) : Prop where
  a : ∀ p ∈ rest, p ∈ rest'
  b : ∀ p ∈ own, p ∈ own'
  c : ∀ p ∈ own', p ∈ rest'
  d : ∀ z, (∃ o, (z, o) ∈ rest) → (∀ p ∈ own, p.1 ≠ z) → ∀ p ∈ own', p.1 ≠ z
theorem Grow.refl {own rest : Led} (h : ∀ p ∈ own, p ∈ rest) : Grow own rest own rest := ⟨fun _ h => h, fun _ h => h, h, fun _ _ h => h⟩
theorem Grow.add {own rest own' rest' : Led} {D : Addr} {o : Obj} (g : Grow own rest own' rest') (h : AllLt D rest) : Grow own rest ((D, o) :: own') ((D, o) :: rest') :=
  ⟨fun p hp => .tail _ (g.a p hp), fun p hp => .tail _ (g.b p hp), fun p hp => by
    rcases List.mem_cons.mp hp with rfl | hp
    · exact .head _
    · exact .tail _ (g.c p hp), fun z ⟨o', ho⟩ h2 p hp => by
    rcases List.mem_cons.mp hp with rfl | hp
    · exact Nat.ne_of_gt (ktn_ltOf h _ ho)
    · exact g.d z ⟨o', ho⟩ h2 p hp⟩
def MyStop3 (P : Prop) : Prop := P
theorem MyStop3.mk {P : Prop} (h : MyStop3 P) : P := h
local macro_rules | `(tactic| walk_at "subscriptTail") => `(tactic| (k_here; (with_reducible show wpAny _ _ (subscriptTail _ _ (Value.ref _) (Value.int _ _)) _ _ _); k_dflt (first
  | (refine lst_item (by k_asm) (by k_mem) (by omega) (by omega) (by assumption) ?_ (by with_unfolding_all rfl))
  | (refine lst_item_neg (by k_asm) (by k_mem) (by omega) (by omega) (by omega) (by assumption) ?_ (by with_unfolding_all rfl)))))
local macro_rules | `(tactic| walk_at "call ref") => `(tactic| (k_here; (try dsimp only [List.append_nil, List.cons_append, List.nil_append]); (with_reducible show wpAny _ _ (call (Value.ref 52) [Value.ref _, _] _) _ _ _); k_dflt (refine bisect2_call (by k_asm) (by k_asm) (by k_asm) (by k_asm) (by k_asm) (by rfl) (by k_mem) (by k_mem) (by assumption) (by assumption) (by k_mem) (by (refine EntsAre.sub (by assumption) ?_; intro p hp; (repeat' apply List.mem_cons_of_mem); exact hp)) (by assumption) (by omega) (by ktr_room) ?_); intro r' t' h' tk' hr1 hr2 hr3 F' N'; have hpk := pickE (by assumption) (by assumption) hr1 hr2; refine MyStop3.mk ?_))
local macro_rules | `(tactic| walk_at "truthy ref") => `(tactic| (k_here; (with_reducible show wpAny _ _ (truthy (Value.ref _)) _ _ _); k_dflt (first
  | (refine tr_list_ne (by k_asm) (by k_mem) (by omega) (by omega) ?_)
  | (refine tr_list_e (by k_asm) (by k_mem) (by omega) ?_))))
local macro_rules | `(tactic| walk_at "getAttr ref") => `(tactic| (k_here; (with_reducible show wpAny _ _ (getAttr (Value.ref _) (Str.ofString "atime") _) _ _ _); k_dflt (refine get_own (by k_asm) (by k_asm) (by (refine' InstAt.of_news ?N ?h1 ?h2; (case N => k_asm); (case h1 => k_mem); (case h2 => k_mem))) (by k_is) (by k_is) (by k_is) (by k_is) (by k_get) (by k_handed) ?_; k_whole)))
local macro_rules | `(tactic| walk_at "eval Lambda") => `(tactic| (k_here; k_dflt (refine' kla_eval ?d0 ?_; (case d0 => exact rfl)); (first | (k_dflt (refine' kla_nest ?F ?N ?T ?C ?cd ?U ?t ?n ?cl ?_; (case F => k_asm); (case N => k_asm); (case T => k_asm); (case cd => exact rfl); (case C => kn_code); (case U => k_updF); (case t => kn_triples); (case n => kn_among); (case cl => exact rfl); k_whole); intro f' c' oc' vs' t' ct' h' tk' F' N' d1' d2' l1 l2; (try dsimp only at N'); (try k_lt l1); (try k_lt2 l2)) | (k_dflt (refine' kla_hit ?F ?N ?T ?C ?cd ?mem ?t ?n ?cl ?_; (case F => k_asm); (case N => k_asm); (case T => k_asm); (case cd => exact rfl); (case C => kn_code); (case mem => k_mem); (case t => kn_triples); (case n => kn_hit); (case cl => exact rfl); k_whole); intro f' ct' h' tk' F' N' l1; (try dsimp only at N'); (try k_lt l1)))))
local macro_rules | `(tactic| walk_at "allLt") => `(tactic| first
  | ((rename (@LT.lt Nat _ _ _) ∧ (@LT.lt Nat _ _ _) ∧ _ => l9); (repeat (first | exact l9 | replace l9 := l9.2)); done)
  | ((rename (@LT.lt Nat _ _ _) ∧ (@LT.lt Nat _ _ _) ∧ _ => l9); clear l9; (rename (@LT.lt Nat _ _ _) ∧ (@LT.lt Nat _ _ _) ∧ _ => l9); (repeat (first | exact l9 | replace l9 := l9.2)); done)
  | ((rename (@LT.lt Nat _ _ _) ∧ (@LT.lt Nat _ _ _) ∧ _ => l9); clear l9; (rename (@LT.lt Nat _ _ _) ∧ (@LT.lt Nat _ _ _) ∧ _ => l9); clear l9; (rename (@LT.lt Nat _ _ _) ∧ (@LT.lt Nat _ _ _) ∧ _ => l9); (repeat (first | exact l9 | replace l9 := l9.2)); done)
  | ((rename (@LT.lt Nat _ _ _) ∧ (@LT.lt Nat _ _ _) ∧ _ => l9); clear l9; (rename (@LT.lt Nat _ _ _) ∧ (@LT.lt Nat _ _ _) ∧ _ => l9); clear l9; (rename (@LT.lt Nat _ _ _) ∧ (@LT.lt Nat _ _ _) ∧ _ => l9); clear l9; (rename (@LT.lt Nat _ _ _) ∧ (@LT.lt Nat _ _ _) ∧ _ => l9); (repeat (first | exact l9 | replace l9 := l9.2)); done))
local macro_rules | `(tactic| ktr_enter) => `(tactic| (refine' code_def ?k1 ?k2 ?k3 ?k4 ?k5 ?kA ?kF ?kK ?k6 ?k7 ?k8 ?k9 ?kB ?_ ?c2 ?c3 ?c4 ?c5; (case kA => exact rfl); (case kF => exact rfl); (case kK => assumption); (case k1 => k_asm); (case k2 => k_asm); (case k3 => k_asm); (case k4 => k_asm); (case k5 => k_asm); (case k6 => k_is); (case k7 => k_is); (case k8 => ktr_room); (case k9 => first | exact BindsTo.of_eq rfl | exact binds_K (by k_in) rfl (by k_is) rfl rfl rfl); (case c5 => decide); (case kB => exact locs rfl); (case c2 => exact rfl); (case c3 => exact rfl); (case c4 => exact rfl); k_whole; intro g' L' h' FG' F' N' B' X' T'; (try dsimp only); (try k_lift B'); (try k_fold)))

section
variable {w : World} {p : Program} {loose : List Str} {mean : ExcName → Option Value} {mg mb : Str → Option Value}
  {dp un : Nat} {gd : Option (List Code)} {cn : Str} {cs : Scope} {a : Addr} {ccd : Value} {cll : List (Str × Addr)} {outer : List Env} {A₀ : Around} {base h₀ : Heap} {L : Addr} {m : Str → Option Value} {s : Shared}
  {Q E : Value → Shared → Prop} {dS dE dV ln x dx f c cl : Addr} {oV : Obj} {now : Int} {tn : Tok} {nl : Nat} {t1 t2 t3 t4 : Tok} {p1 p2 p3 : Pos}
  {qual : Str} {pm ctv : Value} {oc ocl : Obj} {ps : Array Value} {own rest : Led} {R : RM} {M : Str → List Int} {k : Str} {tk tk2 tk3 : Tok} {lim len : Int} {bV : Nat}

theorem gmw_call
    (B : Below A₀ base outer h₀) (F : Fr h₀ L s.heap m) (X : (hd02.heap_39 w.params).In h₀) (C : CodeHd base 145 141)
    (N : News h₀ L s.heap (TL w.params dS dE dV ln x dx f c cl oV (W.listOf #[.int now tn] nl) t1 t2 t3 t4 p1 p2 p3 qual pm ctv oc ocl ps rest))
    (T : Top p loose mean mg mb h₀) (hk : cs.kind = .function) (O : TOk dV ln x dx f c cl qual oc ocl) (off : OwnOff rest [dV, ln, 141])
    (hV : DictR Challenge.rw_jb0019_02.row.prog w oV R bV) (hbV : bV ≤ 8388608) (hsub : ∀ p ∈ own, p ∈ rest) (hM : ListsOk w.params own R M) (hz : (M k).length < 2 ^ 20) (hS : Falls (M k))
    (hT : TabP ps own) (hd : dp + 3 < recursionLimit)
    (hret : ∀ D' st ct tS tC ps' own' rest' h' tk', GmwRes (M k) now len st ct → Grow own rest own' rest' → OwnOff rest' [dV, ln, 141] → TabP ps' own' → Fr h₀ L h' m →
      News h₀ L h' ((D', ({ cls := .type "tuple", data := .seq #[.int st tS, .int ct tC] } : Obj)) :: TL w.params dS dE dV ln x dx f c cl oV (W.listOf #[.int now tn] nl) t1 t2 t3 t4 p1 p2 p3 qual pm ctv oc ocl ps' rest') →
      Q (.ref D') { s with heap := h', toks := tk' }) :
    wpAny (model Challenge.rw_jb0019_02.row.prog w) (ktrTop dp un gd cn cs L a ccd cll outer) (call (.ref 146) [.ref x, .str k tk, .int lim tk2, .int len tk3]) Q E s := by
  revert X; k_fill; intro X
  have O' := O
  obtain ⟨⟨vs, t, d1, d2⟩, d3, o0, o1, o2, o3, o4, o5, o6, lV⟩ := O'
  have hMk := hM k
  have empty : M k = [] → GmwRes (M k) now len now 0 := fun e => by
    rw [e]
    exact ⟨by omega, by simp, fun i a hi => by simp at hi, fun a h => by omega⟩
  cases hR : R k with
  | none =>
    rw [hR] at hMk
    refine wpAny_call ?_
    k_dflt ktr_enter
    k_steps
    rename News _ _ _ _ => N1
    refine' hret _ _ _ _ _ _ _ _ _ _ (empty hMk) (.refl hsub) off hT (by k_asm) (News.sub3 N1 ?_)
    ((try intro p hp); (rename _ ∈ _ => hp); simp only [TL, List.mem_cons] at hp ⊢; repeat' (rcases hp with hp | hp); all_goals (repeat (first | exact hp | exact Or.inl rfl | exact Or.inl hp | apply Or.inr)))
  | some l =>
    rw [hR] at hMk
    obtain ⟨items, nli, hl, hE⟩ := hMk
    have hl := hsub _ hl
    have hE := hE.sub hsub
    have hsz := hE.size
    by_cases hz0 : items.size = 0
    · refine wpAny_call ?_
      k_dflt ktr_enter
      k_steps
      rename News _ _ _ _ => N1
      refine' hret _ _ _ _ _ _ _ _ _ _ (empty (List.eq_nil_of_length_eq_zero (by omega))) (.refl hsub) off hT (by k_asm) (News.sub3 N1 ?_)
      ((try intro p hp); (rename _ ∈ _ => hp); simp only [TL, List.mem_cons] at hp ⊢; repeat' (rcases hp with hp | hp); all_goals (repeat (first | exact hp | exact Or.inl rfl | exact Or.inl hp | apply Or.inr)))
    · rcases hT with rfl | ⟨c', oc', vs', t', rfl, hc0, e1, e2⟩
      · refine wpAny_call ?_
        k_dflt ktr_enter
        k_steps
        rename _ ∨ _ => hpk
        show wpAny _ _ _ _ _ _
        rcases hpk with ⟨hr0, e, ed, at', ta, ex, te, q1, q2, hx, he, hed⟩ | ⟨hr0, e, ed, at', ta, ex, te, q1, q2, hx, hat, he, hed⟩
        · k_steps
          rename News _ _ _ _ => N1
          refine' hret _ _ _ _ _ _ _ _ _ _ ⟨by assumption, by assumption, by assumption, fun a h => absurd h (by omega)⟩ ((Grow.refl hsub).add (by walk_at "allLt")) ?off ?tab (by k_asm) (gmw_sub N1)
          case off => exact off_cons3 off (by omega) (by omega) (by omega)
          case tab => exact .inr ⟨_, _, _, _, by first | rfl | simp, .head _, by assumption, by assumption⟩
        · k_steps
          rename News _ _ _ _ => N1
          refine' hret _ _ _ _ _ _ _ _ _ _ ⟨by assumption, by assumption, by assumption, fun a h e => by rw [hat] at e; exact Option.some.inj e⟩ ((Grow.refl hsub).add (by walk_at "allLt")) ?off ?tab (by k_asm) (gmw_sub N1)
          case off => exact off_cons3 off (by omega) (by omega) (by omega)
          case tab => exact .inr ⟨_, _, _, _, by first | rfl | simp, .head _, by assumption, by assumption⟩
      · have hc' := hsub _ hc0
        refine wpAny_call ?_
        k_dflt ktr_enter
        k_steps
        rename _ ∨ _ => hpk
        show wpAny _ _ _ _ _ _
        rcases hpk with ⟨hr0, e, ed, at', ta, ex, te, q1, q2, hx, he, hed⟩ | ⟨hr0, e, ed, at', ta, ex, te, q1, q2, hx, hat, he, hed⟩
        · k_steps
          rename News _ _ _ _ => N1
          exact hret _ _ _ _ _ _ _ _ _ _ ⟨by assumption, by assumption, by assumption, fun a h => absurd h (by omega)⟩ (.refl hsub) off (.inr ⟨_, _, _, _, rfl, hc0, e1, e2⟩) (by k_asm) (gmw_sub2 N1)
        · k_steps
          rename News _ _ _ _ => N1
          exact hret _ _ _ _ _ _ _ _ _ _ ⟨by assumption, by assumption, by assumption, fun a h e => by rw [hat] at e; exact Option.some.inj e⟩ (.refl hsub) off (.inr ⟨_, _, _, _, rfl, hc0, e1, e2⟩) (by k_asm) (gmw_sub2 N1)
end
end Mine

namespace Mine
open PySem PySem.W PySem.Calls PyProof.Rows PyProof.V PySem.Spec

section
variable {M : Model} {A : Around} {E : Value → Shared → Prop} {s : Shared}
theorem noteFirst {base : Heap} {env : Env} {outer : List Env} {L e : Addr} {oe : Obj} {vs : Array Value} {a0 : Value} {Q : Unit → Shared → Prop}
    (hfr : A.frames = some (env :: outer)) (hl : s.heap.FunFrames base (env :: outer)) (hf : env.frame = some L)
    (he : s.heap.get? e = some oe) (hkb : base.StaysIn s.heap) (hen : base.get? e = none) (hd : oe.data = .fields vs) (h1 : vs[1]? = some .none) (h0 : vs[0]? = some a0)
    (h : ∀ h', Heap.NotedW base (env :: outer) e oe.cls a0 (rawInt L) s.heap h' → Q () { s with heap := h' }) : wpAny M A (noteFrame (.ref e) env) Q E s := by
  unfold noteFrame
  simp only [hf]
  refine wpAny_bind (wpAny_field he hd h1 ?_)
  rw [if_neg (by decide)]
  exact wpAny_entryW hfr hl hf he hkb hen hd (Array.getElem?_eq_some_iff.mp h1).1 h0 h
end

section
variable {prog : Program} {w : World} {A₀ : Around} {E : Value → Shared → Prop} {s' : Shared} {base g h : Heap} {outer : List Env} {L a e : Addr} {m : Str → Option Value} {name : Str} {scope : Scope} {cd : Value}
  {b₀ : Stmt} {suite : List Stmt} {pos np : Pos} {rest : List ExceptHandler} {Q : Flow → Shared → Prop} {news : List (Addr × Obj)} {KF : Frag}
  {p : Program} {loose : List Str} {mean : ExcName → Option Value} {mg mb : Str → Option Value} {x : Str} {X T' : String}
/-- an exception that was made in this very frame, with frames below it, is caught here -/
theorem caught_new (hx : Heap.NewExc h s'.heap e X) (F : Fr g L h m) (N : News g L h news) (K : Below A₀ base outer g) (XB : KF.In base) (TB : Top p loose mean mg mb base)
    (ex : nsIn KF mainGlobals x = some none) (hv : bootBuiltins x = some (.type T')) (hn' : x ≠ "__name__")
    (hexc : isSubtype (.type T') (.type "BaseException") = pure true) (hnt : isSubtype (.type ((Manifest.find? T').elim "type" fun y => y.metatype)) (.type "tuple") = pure false) (hsub : isSubtype (.type X) (.type T') = pure true)
    (k : ∀ h' g', KtsTurn (outer.filterMap (·.frame)) g g' → Fr g' L h' m → News g' L h' news → Below A₀ base outer g' → KF.In g' → Top p loose mean mg mb g' →
      wpAny (model prog w) ((A₀.deeper (envOf name scope L a cd)).mark (some (.ref e))) (execs (b₀ :: suite) (envOf name scope L a cd)) Q E { s' with heap := h' })
    (hk : scope.kind = .function := by rfl) (hx2 : (envOf name scope L a cd).kindOf x = some .globalImplicit := by rfl) (hd2 : (x == ("__debug__" : Str)) = false := by decide)
    (hE : PassesOwnAt (model prog w) ((A₀.deeper (envOf name scope L a cd)).mark (some (.ref e))) (A₀.deeper (envOf name scope L a cd)) (envOf name scope L a cd) E := by passes_own) :
    wpAny (model prog w) (A₀.deeper (envOf name scope L a cd)) (noteFrame (.ref e) (envOf name scope L a cd))
      (fun _ s₂ => wpAny (model prog w) (A₀.deeper (envOf name scope L a cd)) (setFlight (.ref e) none) (fun _ s₃ =>
        wpAny (model prog w) (A₀.deeper (envOf name scope L a cd)) (handleBy (.ref e) (envOf name scope L a cd) (.ExceptHandler (some (.Name x np)) none (b₀ :: suite) pos :: rest)) Q E s₃) E s₂) E s' := by
  have K' := K.push (name := name) (a := a) (cd := cd) F hk
  generalize hfs : (envOf name scope L a cd :: outer).filterMap (·.frame) = fs
  have hin : ∀ env ∈ (envOf name scope L a cd :: outer), ∀ b, env.frame = some b → b ∈ fs := fun env he b hb => hfs ▸ List.mem_filterMap.mpr ⟨env, he, hb⟩
  have hfr := K'.frames
  have hh : ∀ b ∈ fs, base.get? b = none := fun b hb => (hfr.mem (hfs ▸ hb)).1
  have st : base.StaysIn (hideAll h fs) := fun b o q => hideAll_get _ (K'.stays b o q) fun hm => by
    rw [hh b hm] at q; cases q
  have hmem : ∀ b, b ∈ fs → b = L ∨ b ∈ outer.filterMap (·.frame) := fun b hb => kts_mem (hfs ▸ hb)
  have hBG : ∀ b o, h.get? b = some o → b ∉ (envOf name scope L a cd :: outer).filterMap (·.frame) → (hideAll h fs).get? b = some o := fun b o q nm => hideAll_get _ q fun hm => nm (hfs.symm ▸ hm)
  have hl : ∀ q ∈ news, (hideAll h fs).get? q.1 = some q.2 := fun q hq => hideAll_get _ (N q hq).1 fun hm => by
    rcases hmem _ hm with z | z
    · exact (N q hq).2.1 z
    · obtain ⟨o, ho, _⟩ := (K.frames.mem z).2
      rw [(N q hq).2.2] at ho; cases ho
  obtain ⟨ob, tp, he, hcls, hd⟩ := hx.there
  have hen : (hideAll h fs).get? e = none := by
    cases q : (hideAll h fs).get? e with
    | none => rfl
    | some o => have := of_hideAll _ q; rw [hx.new] at this; cases this
  refine noteFirst (a0 := tp) K'.stack ((funFrames_hide hfr hin).of_keeps fun b o hb _ => ⟨o, hx.keeps b o hb, rfl⟩) rfl he (fun b o hb => hx.keeps b o (of_hideAll _ hb)) hen hd rfl rfl fun h₄ hN => ?_
  obtain ⟨k1, k2, k3, k4⟩ := hN
  generalize hideAll h fs = B at *
  have hheld₄ : Heap.HeldW B (envOf name scope L a cd :: outer) e (.type X) tp L h₄ := ⟨k1, hen, k2, by rw [← hcls]; exact k3⟩
  have hsm₄ : h.UpToSlots h₄ := (Heap.UpToSlots.of_keeps hx.keeps).trans k4
  have hL : B.get? L = none := by
    obtain ⟨_, ⟨L', _, hf, hn', _⟩, _⟩ := k2
    obtain rfl : L = L' := Option.some.inj hf
    exact hn'
  refine wpAny_landsW hheld₄ fun h₅ hheld hsm₅' => ?_
  have hsm₅ := hsm₄.trans hsm₅'
  obtain ⟨g₅, T₅, F₅, K₅⟩ := kts_ground K F hBG hheld.1 hsm₅
  have X₅ : KF.In g₅ := XB.keeps K₅.stays
  have P₅ : TopRead p loose mg mb g₅ := topRead_of (TB.keeps K₅.stays)
  obtain ⟨ob, hob, hobc⟩ := hheld.there
  refine wpAny_handleBy_builtin (X := X) (T := T') (b := true) hexc hnt hsub (name_B F₅ X₅ P₅ ex hv hn' ⟨rfl, ⟨ob, hob, hobc⟩, ?_⟩ hk hx2 hd2)
  refine lands_againW hheld fun h₆ hfl₆ hsm₆ => ?_
  obtain ⟨g₆, T₆, F₆, K₆⟩ := kts_ground K F hBG hfl₆.1 (hsm₅.trans hsm₆)
  exact wpAny_passesOwnAt hE (k h₆ g₆ T₆ F₆ (fun q hq => ⟨hfl₆.1 _ _ (hl q hq), (fun z => by have := hl q hq; rw [z, hL] at this; cases this), T₆.none_ _ (N q hq).2.2⟩) K₆ (XB.keeps K₆.stays) (TB.keeps K₆.stays))
end

section
variable {prog : Program} {w : World} {A₀ A : Around} {s : Shared} {base h₀ : Heap} {env : Env} {L : Addr} {m : Str → Option Value} {news : List (Addr × Obj)} {K : Frag} {p : Program} {loose : List Str} {mean : ExcName → Option Value} {mg mb : Str → Option Value}
    {R : Result → Shared → Prop} {name qual : Str} {params : Arguments} {body : List Stmt} {scope : Scope} {dV kV doc pm cdv ct oc : Value} {an od : Option Addr} {osl : Array (Option Value)} {f : Addr} {args : Args} {binds : List (Str × Value)}
/-- a def with a try is called from the one frame there is, which may have cells -/
theorem code_defT (B : Below A₀ base [] h₀) (F : Fr h₀ L s.heap m) (X₀ : K.In h₀) (N : News h₀ L s.heap news) (T : Top p loose mean mg mb h₀) (hA : A.frames = some [env]) (hf : env.frame = some L) (hke : env.scope.kind = .function)
    (ho : K.lookup f = some ⟨oc, od, .func (fnOf name qual params body scope dV kV doc pm an cdv ct), osl⟩) (hcd : codeIn K cdv qual = true) (hroom : A.depth < recursionLimit)
    (hbind : BindsTo s (fnOf name qual params body scope dV kV doc pm an cdv ct) args binds) (hloc : ∀ y ∈ binds, scope.names.lookup y.1 = some .local)
    (h : ∀ g L' h₁, Fr h₀ L g m → Fr g L' h₁ (fun y => binds.reverse.lookup y) → News g L' h₁ news → Below A base [env] g → K.In g → Top p loose mean mg mb g →
      wpAny (model prog w) (A.deeper (envOf qual scope L' f cdv)) (execs body (envOf qual scope L' f cdv))
        (fun fl s' => LeaveS0 ([env].filterMap (·.frame)) h₀ L m g R (match fl with | .ret v => v | _ => .none) s')
        (fun e s' => wpAny (model prog w) (A.deeper (envOf qual scope L' f cdv)) (leaving (envOf qual scope L' f cdv) e) (fun _ s'' => R (.error e) s'') (fun e' s'' => R (.error e') s'') s')
        { s with heap := h₁, toks := s.toks + binds.length })
    (hco : scope.isCoroutine = false) (hgen : scope.isGenerator = false) (hk : scope.kind = .function)
    (hcell : ∀ x ∈ scope.names, x.2 ≠ .cell) : codeAny (model prog w) A (.call (.ref f) args) R s := by
  obtain ⟨FG, BG, st, _⟩ := groundX (R := R) B F N hA hf hke
  have XH := X₀.keeps F.keep
  have only : ∀ b, b ∈ [env].filterMap (·.frame) → b = L := fun b hb => by
    obtain ⟨e, he, hb2⟩ := List.mem_filterMap.mp hb
    rw [List.mem_singleton.mp he, hf] at hb2
    exact (Option.some.inj hb2).symm
  have nL : h₀.get? L = none := kts_self F
  refine codeAny_call_def (fd := fnOf name qual params body scope dV kV doc pm an cdv ct) (body := body) (binds := binds) hroom (XH _ _ ho) rfl (T.nolimit.keeps F.keep) (codeRec_of XH hcd) rfl hbind hcell hloc (fun h₁ hns hk₁ => ?_) hco hgen hk
  refine wpAny_mono (h _ s.heap.objs.size h₁ FG ⟨hns, fun b o e => hk₁ b o (of_hideAll _ e), Nat.le_of_eq (hideAll_size _ _)⟩
    (fun p hp => ⟨hk₁ _ _ (N p hp).1, Nat.ne_of_lt (Heap.lt_size (N p hp).1), hideAll_none _ (List.mem_map_of_mem hp)⟩) BG (X₀.keeps st) (T.keeps st)) (fun fl s' hl => ?_) fun _ _ y => y
  obtain ⟨g', L', m', news', T', F', N', k⟩ := hl
  obtain ⟨oL, es, ep, hL, hLd, hLk, hLf⟩ := FG.ns
  obtain ⟨sl, hs⟩ := T'.up hL
  refine k ⟨⟨_, es, ep, F'.keep _ _ hs, hLd, hLk, hLf⟩, fun b o e => F'.keep b o (T'.other b o (st b o e) fun hb => ?_), F.above⟩ fun p hp => ⟨(N' p hp).1, fun q => ?_, ?_⟩
  · rw [only b hb, nL] at e; cases e
  · have h3 := (N' p hp).2.2
    rw [q, hs] at h3; cases h3
  · cases q : h₀.get? p.1 with
    | none => rfl
    | some o =>
      obtain ⟨sl', hs'⟩ := T'.up (st _ _ q)
      have h3 := (N' p hp).2.2
      rw [hs'] at h3; cases h3
end

local macro_rules | `(tactic| ktr_enter) => `(tactic| (refine' code_def ?k1 ?k2 ?k3 ?k4 ?k5 ?kA ?kF ?kK ?k6 ?k7 ?k8 ?k9 ?kB ?_ ?c2 ?c3 ?c4 ?c5; (case kA => exact rfl); (case kF => exact rfl); (case kK => assumption); (case k1 => k_asm); (case k2 => k_asm); (case k3 => k_asm); (case k4 => k_asm); (case k5 => k_asm); (case k6 => k_is); (case k7 => k_is); (case k8 => ktr_room); (case k9 => first | exact BindsTo.of_eq rfl | exact binds_K (by k_in) rfl (by k_is) rfl rfl rfl); (case c5 => decide); (case kB => exact locs rfl); (case c2 => exact rfl); (case c3 => exact rfl); (case c4 => exact rfl); k_whole; intro g' L' h' FG' F' N' B' X' T'; (try dsimp only); (try k_lift B'); (try k_fold)))

section
variable {w : World} {p : Program} {loose : List Str} {mean : ExcName → Option Value} {mg mb : Str → Option Value}
  {dp un : Nat} {gd : Option (List Code)} {cn : Str} {cs : Scope} {a : Addr} {ccd : Value} {cll : List (Str × Addr)} {outer : List Env} {A₀ : Around} {base h₀ : Heap} {L : Addr} {m : Str → Option Value} {news : Led} {s : Shared}
  {Q E : Value → Shared → Prop} {now len : Int} {tn tl : Tok}
theorem entry_call
    (B : Below A₀ base outer h₀) (F : Fr h₀ L s.heap m) (X : (hd02.heap_39 w.params).In h₀) (N : News h₀ L s.heap news)
    (T : Top p loose mean mg mb h₀) (hk : cs.kind = .function) (hd : dp + 2 < recursionLimit)
    (hret : ∀ e ed ta ex te q1 q2 h' tk', (∀ p ∈ news, p.1 < ed) → ed < e → Fr h₀ L h' m →
      News h₀ L h' ((e, instObj 69 ed) :: (ed, entD w.params now ta ex te q1 q2) :: news) → Q (.ref e) { s with heap := h', toks := tk' }) :
    wpAny (model Challenge.rw_jb0019_02.row.prog w) (ktrTop dp un gd cn cs L a ccd cll outer) (call (.ref 69) [.int len tl, .int now tn]) Q E s := by
  revert X; k_fill; intro X
  k_dflt (refine' call_cls ?k1 ?k2 ?k3 ?k4 ?k5 ?k6 ?_; (case k1 => k_asm); (case k2 => k_asm); (case k3 => k_asm); (case k4 => k_is); (case k5 => k_is); (case k6 => k_is); k_whole; intro x' d' h' F' N' l1 l2; (try k_lt l1); (try k_lt2 l2); ktr_enter)
  k_steps
  exact hret _ _ _ _ _ _ _ _ _ l1 l2 (by k_asm) (by k_asm)
end
end Mine

namespace Mine
open PySem PySem.W PySem.Calls PyProof.Rows PyProof.V PySem.Spec

theorem RM.set_self {f : RM} {k : Str} {l : Addr} : f.set k l k = some l := if_pos rfl
section
variable {prog : Program} {w : World} {A : Around} {E : Value → Shared → Prop} {s : Shared} {h₀ : Heap} {L d : Addr} {m : Str → Option Value} {news : Led} {g : Obj → Led} {o : Obj} {f : RM} {b : Nat} {k : Str} {tk : Tok} {l l0 : Addr}
theorem dR_setdef_some {Q : Value → Shared → Prop} (N : News h₀ L s.heap news) (hm : (d, o) ∈ news) (hd : DictR prog w o f b) (lo : (d == sysModules) = false) (hsz : b ≤ 8388608) (hf : f k = some l0) (h : Q (.ref l0) { s with toks := s.toks + 1 }) :
    wpAny (model prog w) A (call (.builtin "dict.setdefault") [.ref d, .str k tk, .ref l]) Q E s := by
  obtain ⟨kvs, hd, hl, hr⟩ := hd
  exact kob_setdef_there N hm hd lo (strKind_is _ _ k tk) (PySem.F.args_dict_setdefault_3 _ _ _) (v := .ref l0) (by rw [hr, hf]; rfl) (by rw [sizeLine_eq]; omega) h
theorem dR_setdef_none {Q : Value → Shared → Prop} (F : Fr h₀ L s.heap m) (N : News h₀ L s.heap news) (U : UpdF d o news g) (hd : DictR prog w o f b) (lo : (d == sysModules) = false) (hsz : b ≤ 8388608) (hf : f k = none)
    (h : ∀ h' o', Fr h₀ L h' m → News h₀ L h' (g o') → DictR prog w o' (f.set k l) (b + 1) → Q (.ref l) { s with heap := h', toks := s.toks + 1 }) :
    wpAny (model prog w) A (call (.builtin "dict.setdefault") [.ref d, .str k tk, .ref l]) Q E s := by
  refine dR_setdef F N U hd lo hsz (fun h' o' F' N' hd' => ?_)
  rw [hf] at hd' ⊢
  exact h h' o' F' N' hd'
end

theorem my_add {prog : Program} {w : World} {A : Around} {E : Value → Shared → Prop} {s : Shared} {h₀ : Heap} {L : Addr} {m : Str → Option Value} {news : Led} {l b : Addr} {vs ws : List Value} {n1 n2 : Nat} {Q : Value → Shared → Prop} (F : Fr h₀ L s.heap m) (N : News h₀ L s.heap news)
    (hl : (l, W.listOf vs.toArray n1) ∈ news) (hb : (b, W.listOf ws.toArray n2) ∈ news)
    (h : ∀ D h', Fr h₀ L h' m → News h₀ L h' ((D, W.listOf (vs ++ ws).toArray 0) :: news) → (∀ p ∈ news, p.1 < D) → Q (.ref D) { s with heap := h' })
    (hsz : vs.length + ws.length ≤ 16777216) :
    wpAny (model prog w) A (binaryOp .Add (.ref l) (.ref b)) Q E s :=
  add_lists F N (News.list N hl) (News.list N hb) (fun h' F' N' => h _ h' F' N' fun p hp => Heap.lt_size (N p hp).1) (by rw [sizeLine_eq]; omega)

local macro_rules | `(tactic| k_mem) => `(tactic| ((repeat' apply List.mem_cons_of_mem); with_reducible assumption))
local macro_rules | `(tactic| walk_at "getMethod ref") => `(tactic| (k_here; (with_reducible show wpAny _ _ (getMethod (Value.ref _) (Str.ofString "setdefault") _) _ _ _); k_dflt (refine dR_method_setdefault (by k_asm) (by k_mem) (by k_asm) ?_)))
local macro_rules | `(tactic| walk_at "call builtin:dict.setdefault") => `(tactic| (k_here; (try dsimp only [List.append_nil, List.cons_append, List.nil_append]); (with_reducible show wpAny _ _ (call (Value.builtin "dict.setdefault") [Value.ref _, Value.str _ _, _]) _ _ _); k_dflt (first
  | (refine dR_setdef_some (by k_asm) (by k_mem) (by k_asm) (by k_asm) (by omega) (by assumption) ?_)
  | (refine dR_setdef_none (by k_asm) (by k_asm) (by k_updF) (by k_asm) (by k_asm) (by omega) (by assumption) ?_; intro h' o' F' N' hd'; (try dsimp only at N')))))
local macro_rules | `(tactic| walk_at "setItem ref str") => `(tactic| (k_here; (with_reducible show wpAny _ _ (setItem (Value.ref _) (Value.str _ _) (Value.ref _)) _ _ _); k_dflt (refine dR_set (by k_asm) (by k_asm) (by k_updF) (by k_asm) (by omega) ?_); intro h' o' F' N' hd'; (try dsimp only at N')))
local macro_rules | `(tactic| walk_at "subscriptTail") => `(tactic| (k_here; (with_reducible show wpAny _ _ (subscriptTail _ _ (Value.ref _) (Value.str _ _)) _ _ _); k_dflt (refine dR_item (by k_asm) (by k_mem) (by k_asm) (by first | exact RM.set_self | assumption) ?_ (by with_unfolding_all rfl) (by (intro _; with_unfolding_all rfl)))))
local macro_rules | `(tactic| walk_at "subscriptTail") => `(tactic| (k_here; (with_reducible show wpAny _ _ (subscriptTail _ _ (Value.ref _) (Value.int _ _)) _ _ _); first
  | (k_dflt (refine lst_item (by k_asm) (by k_mem) (by omega) (by omega) (by assumption) ?_ (by with_unfolding_all rfl)))
  | (with_unfolding_all refine item_outK (by rfl) (by exact News.list (by k_asm) (by k_mem)) (by first | (right; omega) | (right; simp only [List.size_toArray, List.length_nil]; omega)) (by omega) (by omega) ?_ (by with_unfolding_all rfl); k_whole; intro h' tk' e' x')))
local macro_rules | `(tactic| walk_at "callWith ref") => `(tactic| (k_here; (with_reducible show wpAny _ _ (callWith _ (Value.ref _) _ (backTo _ (starEach [] _)) []) _ _ _); k_dflt (refine callWith_F0 (by exact FnAt.of (by k_asm) (by k_mem)) ?_; k_whole; try dsimp only [List.nil_append, List.cons_append])))
local macro_rules | `(tactic| walk_at "call ref") => `(tactic| (k_here; (try dsimp only [List.append_nil, List.cons_append, List.nil_append]); (with_reducible show wpAny _ _ (call (Value.ref _) [] _) _ _ _); k_dflt (refine clock2_call (by k_asm) (by k_asm) (by k_asm) (by k_asm) (by k_asm) (by rfl) (by k_mem) (by k_mem) (by assumption) (by assumption) (by k_mem) (by assumption) (by k_mem) (by ktr_room) ?_); intro h' tk' F' N'))
local macro_rules | `(tactic| walk_at "getAttr ref") => `(tactic| (k_here; (with_reducible show wpAny _ _ (getAttr (Value.ref _) (Str.ofString "atime") _) _ _ _); k_dflt (refine get_own (by k_asm) (by k_asm) (by (refine' InstAt.of_news ?N ?h1 ?h2; (case N => k_asm); (case h1 => k_mem); (case h2 => k_mem))) (by k_is) (by k_is) (by k_is) (by k_is) (by k_get) (by k_handed) ?_; k_whole)))
local macro_rules | `(tactic| walk_at "binaryOp Mult ref int") => `(tactic| (k_here; (with_reducible show wpAny _ _ (binaryOp Operator.Mult (Value.ref _) (Value.int _ _)) _ _ _); k_dflt (refine KMa.mul (by k_asm) (by k_asm) (by is_list) (by omega) (by omega) (by (simp only [List.length_cons, List.length_nil]; omega)) (by exact rfl) ?_; k_whole); intro D' h' F' N' l1; (try k_lt l1)))
local macro_rules | `(tactic| walk_at "binaryOp Add ref ref") => `(tactic| (k_here; (with_reducible show wpAny _ _ (binaryOp Operator.Add (Value.ref _) (Value.ref _)) _ _ _); k_dflt (refine my_add (by k_asm) (by k_asm) (by k_mem) (by k_mem) ?_ (by (simp only [List.length_flatten, List.map_replicate, List.sum_replicate_nat, List.length_cons, List.length_nil]; omega)); k_whole); intro D' h' F' N' l1; (try k_lt l1)))
local macro_rules | `(tactic| walk_at "allLt") => `(tactic| first
  | ((rename (@LT.lt Nat _ _ _) ∧ (@LT.lt Nat _ _ _) ∧ _ => l9); (repeat (first | exact l9 | replace l9 := l9.2)); done)
  | ((rename (@LT.lt Nat _ _ _) ∧ (@LT.lt Nat _ _ _) ∧ _ => l9); clear l9; (rename (@LT.lt Nat _ _ _) ∧ (@LT.lt Nat _ _ _) ∧ _ => l9); (repeat (first | exact l9 | replace l9 := l9.2)); done)
  | ((rename (@LT.lt Nat _ _ _) ∧ (@LT.lt Nat _ _ _) ∧ _ => l9); clear l9; (rename (@LT.lt Nat _ _ _) ∧ (@LT.lt Nat _ _ _) ∧ _ => l9); clear l9; (rename (@LT.lt Nat _ _ _) ∧ (@LT.lt Nat _ _ _) ∧ _ => l9); (repeat (first | exact l9 | replace l9 := l9.2)); done)
  | ((rename (@LT.lt Nat _ _ _) ∧ (@LT.lt Nat _ _ _) ∧ _ => l9); clear l9; (rename (@LT.lt Nat _ _ _) ∧ (@LT.lt Nat _ _ _) ∧ _ => l9); clear l9; (rename (@LT.lt Nat _ _ _) ∧ (@LT.lt Nat _ _ _) ∧ _ => l9); clear l9; (rename (@LT.lt Nat _ _ _) ∧ (@LT.lt Nat _ _ _) ∧ _ => l9); (repeat (first | exact l9 | replace l9 := l9.2)); done))
local macro_rules | `(tactic| ktr_enter) => `(tactic| (refine' code_defT ?k1 ?k2 ?k3 ?k4 ?k5 ?kA ?kF ?kK ?k6 ?k7 ?k8 ?k9 ?kB ?_ ?c2 ?c3 ?c4 ?c5; (case kA => exact rfl); (case kF => exact rfl); (case kK => assumption); (case k1 => k_asm); (case k2 => k_asm); (case k3 => k_asm); (case k4 => k_asm); (case k5 => k_asm); (case k6 => k_is); (case k7 => k_is); (case k8 => ktr_room); (case k9 => first | exact BindsTo.of_eq rfl | exact binds_K (by k_in) rfl (by k_is) rfl rfl rfl); (case c5 => decide); (case kB => exact locs rfl); (case c2 => exact rfl); (case c3 => exact rfl); (case c4 => exact rfl); k_whole; intro g' L' h' FG' F' N' B' X' T'; (try dsimp only); (try k_lift B'); (try k_fold)))

local macro_rules | `(tactic| walk_at "noteFrame ref") => `(tactic| (k_here; (with_reducible rename Heap.NewExc _ _ _ _ => nx); (with_reducible show wpAny _ _ (noteFrame _ _) (fun _ s₂ => wpAny _ _ (setFlight _ none) (fun _ s₃ => wpAny _ _ (handleBy _ _ (ExceptHandler.ExceptHandler (some (Expr.Name ("IndexError" : Str) _)) none _ _ :: _)) _ _ s₃) _ s₂) _ _); k_dflt (refine' caught_new (T' := "IndexError") nx ?F ?N ?K ?XB ?TB ?ex PyProof.Rows.Boot.«IndexError» ?hn PySem.F.isExc_IndexError PySem.F.notTuple_IndexError ?hs ?_; (case F => assumption); (case N => assumption); (case K => assumption); (case XB => assumption); (case TB => assumption); (case ex => k_is); (case hn => decide); (case hs => kts_sub); k_whole); clear nx; intro h' g' T' F' N' K' X' P'; (try k_lift K'); (try k_sweep)))
local macro_rules | `(tactic| walk_at "call ref") => `(tactic| (k_here; (try dsimp only [List.append_nil, List.cons_append, List.nil_append]); (with_reducible show wpAny _ _ (call (Value.ref 69) [_, _] _) _ _ _); k_dflt (refine entry_call (by k_asm) (by k_asm) (by k_asm) (by k_asm) (by k_asm) (by rfl) (by ktr_room) ?_); intro e' d' ta' ex' te' q1' q2' h' tk' l1 l2 F' N'; (try dsimp only at N'); (try k_lt l1); (try k_lt2 l2)))
def acqRes (E : List Int) (now len lim amt : Int) : Bool :=
  decide (amt ≤ lim) && (match E[(lim - amt).toNat]? with | some a => decide (a < now - len) | none => true)
def acqM (M : Str → List Int) (k : Str) (now amt : Int) : Str → List Int := fun y => if y = k then List.replicate amt.toNat now ++ M k else M y

theorem DictR.le {prog : Program} {w : World} {o : Obj} {f : RM} {b b' : Nat} (h : DictR prog w o f b) (hb : b ≤ b') : DictR prog w o f b' :=
  let ⟨kvs, h1, h2, h3⟩ := h; ⟨kvs, h1, Nat.le_trans h2 hb, h3⟩
theorem acq_sub {h₀ h : Heap} {L : Addr} {D D2 l e d l0 a1 a2 a3 a4 a5 a6 a7 a8 : Addr × Obj} {rest : Led} (N : News h₀ L h (D :: D2 :: l :: e :: d :: l0 :: a1 :: a2 :: a3 :: a4 :: a5 :: a6 :: a7 :: a8 :: rest)) :
    News h₀ L h (a1 :: a2 :: a3 :: a4 :: a5 :: a6 :: a7 :: a8 :: D :: e :: d :: rest) := fun p hp => N p (by
  simp only [List.mem_cons] at hp ⊢
  rcases hp with h | h | h | h | h | h | h | h | h | h | h | h <;> simp only [h, true_or, or_true])
theorem acq_tl {h₀ h : Heap} {L : Addr} {l0 a1 a2 a3 a4 a5 a6 a7 a8 : Addr × Obj} {rest : Led} (N : News h₀ L h (l0 :: a1 :: a2 :: a3 :: a4 :: a5 :: a6 :: a7 :: a8 :: rest)) :
    News h₀ L h (a1 :: a2 :: a3 :: a4 :: a5 :: a6 :: a7 :: a8 :: rest) := fun p hp => N p (.tail _ hp)
theorem ents_put {P : Params} {rest rest' : Led} {il : List Value} {ats : List Int} {n : Nat} {v : Value} {now : Int} (hE : EntsAre P rest il.toArray ats) (hs : ∀ p ∈ rest, p ∈ rest') (hv : EntOf P rest' v now) :
    EntsAre P rest' ((List.replicate n [v]).flatten ++ il).toArray (List.replicate n now ++ ats) := by
  have e : (List.replicate n [v]).flatten = List.replicate n v := by
    induction n with
    | zero => rfl
    | succ n ih => rw [List.replicate_succ, List.flatten_cons, ih]; rfl
  have hz : il.length = ats.length := hE.size
  rw [e]
  refine ⟨by simp [hz], fun i a hi => ?_⟩
  by_cases h : i < n
  · rw [List.getElem?_append_left (by simp [h]), List.getElem?_replicate_of_lt h] at hi
    obtain rfl := Option.some.inj hi
    exact ⟨v, by simp [List.getElem?_append_left, h], hv⟩
  · rw [List.getElem?_append_right (by simp; omega)] at hi
    obtain ⟨v', h1, h2⟩ := hE.ent _ _ hi
    refine ⟨v', ?_, h2.sub hs⟩
    rw [List.getElem?_toArray, List.getElem?_append_right (by simp; omega)]
    simpa using h1
theorem lists_put {P : Params} {rest : Led} {R R' : RM} {M : Str → List Int} {k : Str} {amt now : Int} {il : List Value} {D e ed : Addr} {nl : Nat} {ta : Tok} {ex : Int} {te q1 q2 : Tok} (hM : ListsOk P rest R M)
    (hE : EntsAre P rest il.toArray (M k)) (h1 : R' k = some D) (h2 : ∀ y, y ≠ k → R' y = R y) :
    ListsOk P ((D, W.listOf ((List.replicate amt.toNat [Value.ref e]).flatten ++ il).toArray nl) :: (e, instObj 69 ed) :: (ed, entD P now ta ex te q1 q2) :: rest) R' (acqM M k now amt) := by
  intro y
  by_cases h : y = k
  · subst h
    rw [h1]
    refine ⟨_, _, .head _, ?_⟩
    show EntsAre _ _ _ (if y = y then _ else _)
    rw [if_pos rfl]
    exact ents_put hE (fun p hp => .tail _ (.tail _ (.tail _ hp))) ⟨e, ed, ta, ex, te, q1, q2, rfl, .tail _ (.head _), .tail _ (.tail _ (.head _))⟩
  · have := hM y
    rw [h2 y h]
    show match R y with | none => (if y = k then _ else _) = [] | some l => ∃ items nl, _ ∧ EntsAre _ _ items (if y = k then _ else _)
    rw [if_neg h]
    cases e : R y with
    | none => rw [e] at this; exact this
    | some l =>
      rw [e] at this
      obtain ⟨items, nl, m1, m2⟩ := this
      exact ⟨items, nl, .tail _ (.tail _ (.tail _ m1)), m2.sub fun p hp => .tail _ (.tail _ (.tail _ hp))⟩

theorem allLt_lt {d e : Addr} {l : Led} (h : AllLt d l) (hde : @LT.lt Nat _ d e) : AllLt e l := by
  induction l with
  | nil => trivial
  | cons q l ih => exact ⟨Nat.lt_trans h.1 hde, ih h.2⟩
theorem grow_e {own rest own' rest' : Led} {e d : Addr} {oe od : Obj} (g : Grow own rest own' rest') (h : AllLt d rest) (hde : @LT.lt Nat _ d e) :
    Grow own rest ((e, oe) :: (d, od) :: own') ((e, oe) :: (d, od) :: rest') :=
  (g.add h).add (D := e) (allLt_lt h hde)
section
variable {w : World} {p : Program} {loose : List Str} {mean : ExcName → Option Value} {mg mb : Str → Option Value}
  {dp un : Nat} {gd : Option (List Code)} {cn : Str} {cs : Scope} {a : Addr} {ccd : Value} {cll : List (Str × Addr)} {A₀ : Around} {h₀ : Heap} {L : Addr} {m : Str → Option Value} {s : Shared}
  {Q E : Value → Shared → Prop} {dS dE dV ln x dx f c cl : Addr} {oV : Obj} {now : Int} {tn : Tok} {nl : Nat} {t1 t2 t3 t4 : Tok} {p1 p2 p3 : Pos}
  {qual : Str} {pm ctv : Value} {oc ocl : Obj} {ps : Array Value} {own rest : Led} {R : RM} {M : Str → List Int} {k : Str} {tk tk2 tk3 tk4 : Tok} {lim len amt : Int} {bV : Nat}

theorem acq_call
    (B : Below A₀ h₀ [] h₀) (F : Fr h₀ L s.heap m) (X : (hd02.heap_39 w.params).In h₀)
    (N : News h₀ L s.heap (TL w.params dS dE dV ln x dx f c cl oV (W.listOf #[.int now tn] nl) t1 t2 t3 t4 p1 p2 p3 qual pm ctv oc ocl ps rest))
    (T : Top p loose mean mg mb h₀) (hk : cs.kind = .function) (O : TOk dV ln x dx f c cl qual oc ocl) (off : OwnOff rest [dV, ln, 141])
    (hV : DictR Challenge.rw_jb0019_02.row.prog w oV R bV) (hbV : bV < 8388607) (hsub : ∀ p ∈ own, p ∈ rest) (hM : ListsOk w.params own R M) (hz : (M k).length < 2 ^ 20)
    (ha1 : 1 ≤ amt) (ha5 : amt ≤ 5) (hl0 : 0 ≤ lim) (hl5 : lim ≤ 5) (hd : dp + 4 < recursionLimit)
    (hret : ∀ oV' R' own' rest' h' tk', Grow own rest own' rest' → OwnOff rest' [dV, ln, 141] → DictR Challenge.rw_jb0019_02.row.prog w oV' R' (bV + 2) →
      ListsOk w.params own' R' (if acqRes (M k) now len lim amt then acqM M k now amt else M) → Fr h₀ L h' m →
      News h₀ L h' (TL w.params dS dE dV ln x dx f c cl oV' (W.listOf #[.int now tn] nl) t1 t2 t3 t4 p1 p2 p3 qual pm ctv oc ocl ps rest') →
      Q (.bool (acqRes (M k) now len lim amt)) { s with heap := h', toks := tk' }) :
    wpAny (model Challenge.rw_jb0019_02.row.prog w) (ktrTop dp un gd cn cs L a ccd cll []) (call (.ref 132) [.ref x, .str k tk, .int lim tk2, .int len tk3, .int amt tk4]) Q E s := by
  revert X; k_fill; intro X
  have O' := O
  obtain ⟨⟨vs, t, d1, d2⟩, d3, o0, o1, o2, o3, o4, o5, o6, lV⟩ := O'
  have hMk := hM k
  by_cases hal : lim < amt
  · have hr : acqRes (M k) now len lim amt = false := by unfold acqRes; rw [decide_eq_false (by omega)]; rfl
    simp only [hr, Bool.false_eq_true, ↓reduceIte] at hret
    refine wpAny_call ?_
    k_dflt ktr_enter
    k_steps
    rename News _ _ _ _ => N1
    exact hret _ _ _ _ _ _ (.refl hsub) off (hV.le (by omega)) hM (by k_asm) N1
  cases hR : R k with
  | none =>
    rw [hR] at hMk
    have hr : acqRes (M k) now len lim amt = true := by unfold acqRes; rw [decide_eq_true (by omega), hMk]; rfl
    simp only [hr, ↓reduceIte] at hret
    have hE : EntsAre w.params own ([] : List Value).toArray (M k) := by rw [hMk]; exact ⟨rfl, fun i a hi => by simp at hi⟩
    refine wpAny_call ?_
    k_dflt ktr_enter
    k_steps
    rename News _ _ _ _ => N1
    refine' hret _ _ _ _ _ _ ((grow_e (Grow.refl hsub) (by walk_at "allLt") (by omega)).add (by walk_at "allLt")) ?off ?dict ?lists ?fr (acq_sub N1)
    case off => exact off_cons3 (off_cons3 (off_cons3 off (by omega) (by omega) (by omega)) (by omega) (by omega) (by omega)) (by omega) (by omega) (by omega)
    case dict => exact DictR.le (by assumption) (by omega)
    case fr => k_asm
    case lists => exact lists_put hM hE (if_pos rfl) (fun y hy => by simp [RM.set, hy])
  | some l =>
    rw [hR] at hMk
    obtain ⟨items, nli, hl, hE0⟩ := hMk
    have hl := hsub _ hl
    obtain ⟨il, rfl⟩ : ∃ il : List Value, items = il.toArray := ⟨items.toList, by simp⟩
    have hE := hE0.sub hsub
    have hsz : il.toArray.size = (M k).length := hE.size
    have hsz2 : il.length = (M k).length := hE.size
    by_cases hin : (M k).length ≤ lim - amt
    · have hr : acqRes (M k) now len lim amt = true := by unfold acqRes; rw [decide_eq_true (by omega), List.getElem?_eq_none (by omega)]; rfl
      simp only [hr, ↓reduceIte] at hret
      refine wpAny_call ?_
      k_dflt ktr_enter
      k_steps
      rename News _ _ _ _ => N1
      refine' hret _ _ _ _ _ _ ((grow_e (Grow.refl hsub) (by walk_at "allLt") (by omega)).add (by walk_at "allLt")) ?off ?dict ?lists ?fr (acq_sub N1)
      case off => exact off_cons3 (off_cons3 (off_cons3 off (by omega) (by omega) (by omega)) (by omega) (by omega) (by omega)) (by omega) (by omega) (by omega)
      case dict => exact DictR.le (by assumption) (by omega)
      case fr => k_asm
      case lists => exact lists_put hM hE0 (if_pos rfl) (fun y hy => by simp [RM.set, hy])
    · have hat := List.getElem?_eq_getElem (l := M k) (i := (lim - amt).toNat) (by omega)
      generalize (M k)[(lim - amt).toNat]'_ = at' at hat
      obtain ⟨v, hx, e, ed, ta, ex, te, q1, q2, rfl, he, hed⟩ := hE.ent (lim - amt).toNat _ hat
      by_cases hge : now - len ≤ at'
      · have hr : acqRes (M k) now len lim amt = false := by unfold acqRes; rw [decide_eq_true (by omega), hat]; exact decide_eq_false (by omega)
        simp only [hr, Bool.false_eq_true, ↓reduceIte] at hret
        refine wpAny_call ?_
        k_dflt ktr_enter
        k_steps
        rename News _ _ _ _ => N1
        exact hret _ _ _ _ _ _ (.refl hsub) off (hV.le (by omega)) hM (by k_asm) (acq_tl N1)
      · have hr : acqRes (M k) now len lim amt = true := by unfold acqRes; rw [decide_eq_true (by omega), hat]; exact decide_eq_true (by omega)
        simp only [hr, ↓reduceIte] at hret
        refine wpAny_call ?_
        k_dflt ktr_enter
        k_steps
        rename News _ _ _ _ => N1
        refine' hret _ _ _ _ _ _ ((grow_e (Grow.refl hsub) (by walk_at "allLt") (by omega)).add (by walk_at "allLt")) ?off ?dict ?lists ?fr (acq_sub N1)
        case off => exact off_cons3 (off_cons3 (off_cons3 off (by omega) (by omega) (by omega)) (by omega) (by omega) (by omega)) (by omega) (by omega) (by omega)
        case dict => exact DictR.le (by assumption) (by omega)
        case fr => k_asm
        case lists => exact lists_put hM hE0 (if_pos rfl) (fun y hy => by simp [RM.set, hy])
end
end Mine

namespace Mine
open PySem PySem.W PySem.Calls PyProof.Rows PyProof.V PySem.Spec

abbrev rowObj (k : Str) (m : Int) (tk tm : Tok) : Obj := { cls := .type "tuple", data := .seq #[.str k tk, .int m tm] }
/-- the rows that the law kept, as the ledger holds them -/
def RowOf (news : Led) (v : Value) (r : Str × Int) : Prop := ∃ t tk tm, v = .ref t ∧ (t, rowObj r.1 r.2 tk tm) ∈ news
inductive RowsAre (news : Led) : List Value → List (Str × Int) → Prop
  | nil : RowsAre news [] []
  | cons {v r vs rs} : RowOf news v r → RowsAre news vs rs → RowsAre news (v :: vs) (r :: rs)
theorem RowsAre.length {news : Led} {vs : List Value} {rs : List (Str × Int)} (h : RowsAre news vs rs) : vs.length = rs.length := by
  induction h with
  | nil => rfl
  | cons _ _ ih => simp [ih]
theorem RowOf.sub {news news' : Led} {v : Value} {r : Str × Int} (h : RowOf news v r) (hs : ∀ p ∈ news, p ∈ news') : RowOf news' v r := by
  obtain ⟨t, tk, tm, rfl, h1⟩ := h
  exact ⟨t, tk, tm, rfl, hs _ h1⟩
theorem RowsAre.sub {news news' : Led} {vs : List Value} {rs : List (Str × Int)} (h : RowsAre news vs rs) (hs : ∀ p ∈ news, p ∈ news') : RowsAre news' vs rs := by
  induction h with
  | nil => exact .nil
  | cons h1 _ ih => exact .cons (h1.sub hs) ih
theorem RowsAre.at {news : Led} {vs : List Value} {rs : List (Str × Int)} (h : RowsAre news vs rs) {i : Nat} {v : Value} (hv : vs[i]? = some v) : ∃ r, rs[i]? = some r ∧ RowOf news v r := by
  induction h generalizing i with
  | nil => simp at hv
  | @cons v0 r0 vs rs h1 _ ih =>
    cases i with
    | zero => simp at hv; subst hv; exact ⟨r0, rfl, h1⟩
    | succ i => exact ih (by simpa using hv)

/-- the moments of a key that are younger than «since», in the order of the rows -/
def younger (rows : List (Str × Int)) (k : Str) (since : Int) : List Int := (rows.filter fun r => decide (r.1 = k) && decide (since < r.2)).map (·.2)
theorem younger_snoc (rows : List (Str × Int)) (r : Str × Int) (k : Str) (since : Int) :
    younger (rows ++ [r]) k since = if r.1 = k ∧ since < r.2 then younger rows k since ++ [r.2] else younger rows k since := by
  unfold younger
  rw [List.filter_append, List.map_append]
  by_cases h : r.1 = k ∧ since < r.2
  · rw [if_pos h]; simp [h.1, h.2]
  · rw [if_neg h]
    have : (decide (r.1 = k) && decide (since < r.2)) = false := by
      rw [← Bool.not_eq_true, Bool.and_eq_true]; simpa using h
    simp [List.filter, this]

section
variable {prog : Program} {w : World} {A : Around} {E : Value → Shared → Prop} {s : Shared} {h₀ : Heap} {L t : Addr} {news : Led} {value slice : PySem.Expr} {k : Str} {m : Int} {tk tm u : Tok} {Q : Value → Shared → Prop}
theorem row_item0 (N : News h₀ L s.heap news) (hm : (t, rowObj k m tk tm) ∈ news) (h : Q (.str k tk) s)
    (hs : subscripted slice false (.ref t) (.int 0 u) = operate [.ref t, .int 0 u] (getItem (.ref t) (.int 0 u)) := by with_unfolding_all rfl) (hg : ∀ r, letTemporaryGo value (.ref t) r = pure () := by intro _; with_unfolding_all rfl) :
    wpAny (model prog w) A (subscriptTail value slice (.ref t) (.int 0 u)) Q E s :=
  item_tuple ⟨_, (N _ hm).1, rfl, _, rfl⟩ (by decide) (by decide) (j := 0) rfl rfl h hs hg
theorem row_item1 (N : News h₀ L s.heap news) (hm : (t, rowObj k m tk tm) ∈ news) (h : Q (.int m tm) s)
    (hs : subscripted slice false (.ref t) (.int 1 u) = operate [.ref t, .int 1 u] (getItem (.ref t) (.int 1 u)) := by with_unfolding_all rfl) (hg : ∀ r, letTemporaryGo value (.ref t) r = pure () := by intro _; with_unfolding_all rfl) :
    wpAny (model prog w) A (subscriptTail value slice (.ref t) (.int 1 u)) Q E s :=
  item_tuple ⟨_, (N _ hm).1, rfl, _, rfl⟩ (by decide) (by decide) (j := 1) rfl rfl h hs hg
end

theorem off1_mem {D : Addr} {l : Led} (h : LCg.Off1 D l) : ∀ p ∈ l, p.1 ≠ D := by
  induction l with
  | nil => intro p hp; cases hp
  | cons q l ih =>
    intro p hp
    rcases List.mem_cons.mp hp with e | hp
    · rw [e]; exact h.1
    · exact ih h.2 p hp
def YEl (news : Led) (r : Str × Int) (k : Str) (since : Int) (y : Value) (news' : Led) : Prop := news' = news ∧ (∃ tt, y = .int r.2 tt) ∧ r.1 = k ∧ since < r.2
def YNo (news : Led) (r : Str × Int) (k : Str) (since : Int) (news' : Led) : Prop := news' = news ∧ ¬ (r.1 = k ∧ since < r.2)
section
variable {prog : Program} {w : World} {A : Around} {h₀ : Heap} {L : Addr} {m : Str → Option Value} {env : Env} {ct elt : PySem.Expr} {x : Str} {scope : Scope} {cl : List (Str × Addr)} {s : Shared} {S : Led → Prop} {Fin : List Value → Led → Prop} {news : Led}
theorem yng_rest {vs : List Value} {rows : List (Str × Int)} {k : Str} {since : Int} {news0 : Led} (hr : RowsAre news0 vs rows)
    (turn : ∀ r t tk tm I oI C oC D m₂ ys h tk' (E' : Value → Shared → Prop), (t, rowObj r.1 r.2 tk tm) ∈ news0 → LCg.NsObj oC m₂ → m₂ x = some (.ref t) → Fr h₀ L h m → News h₀ L h ((I, oI) :: (C, oC) :: (D, LCg.lst ys) :: news) →
      LCg.Off3 I C D news → ((@Ne Nat I C) ∧ (@Ne Nat I D) ∧ (@Ne Nat C D)) →
      wpAny (model prog w) A (isTrue ct (compEnvC scope cl C env) (eval ct (compEnvC scope cl C env))) (fun b s' => if b = true then wpAny (model prog w) A (eval elt (compEnvC scope cl C env)) (LCg.CompEnd h₀ L m { s with heap := h, toks := tk' } I oI C oC D (LCg.lst ys) S (fun y news' => YEl news r k since y news')) E' s'
        else LCg.CompEnd h₀ L m { s with heap := h, toks := tk' } I oI C oC D (LCg.lst ys) S (fun _ news' => YNo news r k since news') Value.none s') E' { s with heap := h, toks := tk' })
    (fin : ∀ ys, IntsAre ys (younger rows k since) → Fin ys news) : LCt.CompRestT prog w A h₀ L m env ct elt x scope cl s S (fun i v => vs.toArray[i]? = some v) Fin vs.toArray.size 0 [] news := by
  have hz : vs.toArray.size = rows.length := by rw [List.size_toArray]; exact hr.length
  have key : ∀ (j i : Nat) (ys : List Value), i + j = rows.length → IntsAre ys (younger (rows.take i) k since) → LCt.CompRestT prog w A h₀ L m env ct elt x scope cl s S (fun i v => vs.toArray[i]? = some v) Fin j i ys news := by
    intro j
    induction j with
    | zero =>
      intro i ys hi hy
      obtain rfl : i = rows.length := by omega
      rw [List.take_length] at hy
      exact LCt.CompRestT.zero (fin ys hy)
    | succ j ih =>
      intro i ys hi hy
      refine LCt.CompRestT.succ fun v I oI C oC D m₂ h tk E' hv hC hx F N off ne => ?_
      obtain ⟨r, hri, t, tk1, tm1, rfl, ht⟩ := hr.at (i := i) (v := v) (by simpa using hv)
      have hs : rows.take (i + 1) = rows.take i ++ [r] := by rw [List.take_add_one, hri]; rfl
      refine wpAny_mono (turn r t tk1 tm1 I oI C oC D m₂ ys h tk E' ht hC hx F N off ne) (fun b s₂ hq => ?_) fun _ _ e => e
      cases b with
      | true =>
        simp only [if_true] at hq ⊢
        refine wpAny_mono hq (fun y s₃ q => ?_) fun _ _ e => e
        obtain ⟨h', tk', nw, e, F', N', off', hS, rfl, ⟨tt, rfl⟩, q1, q2⟩ := q
        refine ⟨h', tk', _, e, F', N', off', hS, ih (i + 1) _ (by omega) ?_⟩
        rw [hs, younger_snoc, if_pos ⟨q1, q2⟩]
        exact IntsAre.append hy (.cons _ _ .nil)
      | false =>
        simp only [Bool.false_eq_true, if_false] at hq ⊢
        obtain ⟨h', tk', nw, e, F', N', off', hS, rfl, q⟩ := hq
        refine ⟨h', tk', _, e, F', N', off', hS, ih (i + 1) _ (by omega) ?_⟩
        rw [hs, younger_snoc, if_neg q]
        exact hy
  rw [hz]
  exact key rows.length 0 [] (by omega) (by simp only [List.take_zero]; exact .nil)
end

local macro_rules | `(tactic| walk_at "eval ListComp") => `(tactic| (k_here; k_dflt (refine LCt.ListComp_T (F₀ := by k_asm) (by with_unfolding_all rfl) (by decide) (by rfl) (by decide) (by rfl) ?_)))
local macro_rules | `(tactic| k_mem) => `(tactic| ((repeat' apply List.mem_cons_of_mem); with_reducible assumption))
local macro_rules | `(tactic| walk_at "subscriptTail") => `(tactic| (k_here; (with_reducible show wpAny _ _ (subscriptTail _ _ (Value.ref _) (Value.int 0 _)) _ _ _); k_dflt (refine row_item0 (by k_asm) (by k_mem) ?_ (by with_unfolding_all rfl) (by (intro _; with_unfolding_all rfl)))))
local macro_rules | `(tactic| walk_at "subscriptTail") => `(tactic| (k_here; (with_reducible show wpAny _ _ (subscriptTail _ _ (Value.ref _) (Value.int 1 _)) _ _ _); k_dflt (refine row_item1 (by k_asm) (by k_mem) ?_ (by with_unfolding_all rfl) (by (intro _; with_unfolding_all rfl)))))
local macro_rules | `(tactic| ktr_enter) => `(tactic| (refine' code_defC ?k1 ?k2 ?k3 ?k4 ?k5 ?kA ?kF ?kK ?k6 ?k7 ?k8 ?k9 ?kB ?kD ?_ ?c2 ?c3 ?c4; (case kA => exact rfl); (case kF => exact rfl); (case kK => assumption); (case k1 => k_asm); (case k2 => k_asm); (case k3 => k_asm); (case k4 => k_asm); (case k5 => k_asm); (case k6 => k_is); (case k7 => k_is); (case k8 => ktr_room); (case k9 => first | exact BindsTo.of_eq rfl | exact binds_K (by k_in) rfl (by k_is) rfl rfl rfl); (case kB => exact rfl); (case kD => decide +kernel); (case c2 => exact rfl); (case c3 => exact rfl); (case c4 => exact rfl); k_whole; intro g' L' h' tk' cells' FG' F' N' Y' B' X' T' l1; (try k_lt l1); k_cells Y'; (try simp only [List.cons_append, List.nil_append] at N'); (try dsimp only); (try k_lift B'); (try k_fold)))

section
variable {w : World} {p : Program} {loose : List Str} {mean : ExcName → Option Value} {mg mb : Str → Option Value}
  {dp un : Nat} {gd : Option (List Code)} {cn : Str} {cs : Scope} {a : Addr} {ccd : Value} {cll : List (Str × Addr)} {outer : List Env} {A₀ : Around} {base h₀ : Heap} {L : Addr} {m : Str → Option Value} {s : Shared}
  {Q E : Value → Shared → Prop} {news : Led} {k : Str} {tk t2 : Tok} {since : Int} {kl : Addr} {vs : List Value} {nk : Nat} {rows : List (Str × Int)}

theorem younger_call
    (B : Below A₀ base outer h₀) (F : Fr h₀ L s.heap m) (X : (hd02.heap_39 w.params).In h₀)
    (N : News h₀ L s.heap news) (T : Top p loose mean mg mb h₀) (hk : cs.kind = .function)
    (hl : (kl, W.listOf vs.toArray nk) ∈ news) (hr : RowsAre news vs rows) (hz : vs.toArray.size < 2 ^ 20) (hd : dp + 2 < recursionLimit)
    (hret : ∀ D ys ny h' tk', IntsAre ys (younger rows k since) → (∀ p ∈ news, p.1 ≠ D) → Fr h₀ L h' m → News h₀ L h' ((D, W.listOf ys.toArray ny) :: news) → Q (.ref D) { s with heap := h', toks := tk' }) :
    wpAny (model Challenge.rw_jb0019_02.row.prog w) (ktrTop dp un gd cn cs L a ccd cll outer) (call (.ref 201) [.ref kl, .str k tk, .int since t2]) Q E s := by
  revert X; k_fill; intro X
  refine wpAny_call ?_
  k_dflt ktr_enter
  k_steps
  refine LCt.CompSrcT.ledger rfl (by k_asm) (by k_asm) (.tail _ (.tail _ hl)) (by rw [sizeLine_eq]; omega) ?_
  intro g2
  refine' yng_rest (k := k) (since := since) hr ?turn ?fin
  case turn =>
    rintro ⟨rk, rm⟩ t tk1 tm1 I oI C oC D m₂ ys h tk' E' ht hC hx F1 N1 off1 ne1
    k_steps
    all_goals refine LCg.CompEnd.intro (by k_asm) (by k_asm) _ (fun p hp => hp) off1 (.inr ⟨_, .tail _ (.tail _ hl), rfl, _, rfl⟩) ?_
    · exact ⟨rfl, ⟨_, rfl⟩, eq_of_beq (by assumption), by assumption⟩
    · exact ⟨rfl, fun h => absurd h.2 (by first | assumption | omega)⟩
    · exact ⟨rfl, fun h => by rename _ = false => hb; rw [beq_iff_eq.mpr h.1] at hb; cases hb⟩
  case fin =>
    intro ys hy
    k_steps
    with_reducible rename _ ∧ _ ∧ LCg.Off1 _ _ => o9
    with_reducible rename News h₀ L _ _ => N9
    refine hret _ _ ys.length _ _ hy (off1_mem o9.2.2) (by k_asm) (fun p hp => N9 p ?_)
    rcases List.mem_cons.mp hp with rfl | hp
    · exact .head _
    · exact .tail _ (.tail _ (.tail _ hp))
end
end Mine

namespace Mine
open PySem PySem.W PySem.Calls PyProof.Rows PyProof.V PySem.Spec

/-- the moments of a key, newest first -/
def ats (rows : List (Str × Int)) (k : Str) : List Int := ((rows.filter fun r => decide (r.1 = k)).map (·.2)).reverse
structure PI2 (rows : List (Str × Int)) (M : Str → List Int) (now : Int) : Prop where
  key : ∀ k, M k = ats rows k
  asc : rows.Pairwise fun a b => a.2 ≤ b.2
  le : ∀ r ∈ rows, r.2 ≤ now
  m7 : ∀ r ∈ rows, r.2 % 7 = 0
  n7 : now % 7 = 0

theorem younger_ats (rows : List (Str × Int)) (k : Str) (since : Int) : younger rows k since = ((ats rows k).filter fun a => decide (since < a)).reverse := by
  unfold younger ats
  rw [List.filter_reverse, List.reverse_reverse, List.filter_map]
  rw [List.filter_filter]
  congr 1
  apply List.filter_congr
  intro r _
  simp [Bool.and_comm]
theorem ats_mem {rows : List (Str × Int)} {k : Str} {a : Int} (h : a ∈ ats rows k) : ∃ r ∈ rows, r.2 = a := by
  unfold ats at h
  rw [List.mem_reverse, List.mem_map] at h
  obtain ⟨r, hr, e⟩ := h
  exact ⟨r, (List.mem_filter.mp hr).1, e⟩
theorem PI2.desc {rows : List (Str × Int)} {M : Str → List Int} {now : Int} (P : PI2 rows M now) (k : Str) : (M k).Pairwise fun a b => b ≤ a := by
  rw [P.key]
  unfold ats
  rw [List.pairwise_reverse, List.pairwise_map]
  exact P.asc.filter _
theorem PI2.falls {rows : List (Str × Int)} {M : Str → List Int} {now : Int} (P : PI2 rows M now) (k : Str) : Falls (M k) := by
  intro i j a b hij ha hb
  rcases Nat.lt_or_eq_of_le hij with h | rfl
  · obtain ⟨hi, rfl⟩ := List.getElem?_eq_some_iff.mp ha
    obtain ⟨hj, rfl⟩ := List.getElem?_eq_some_iff.mp hb
    exact List.pairwise_iff_getElem.mp (P.desc k) i j hi hj h
  · rw [ha] at hb; obtain rfl := Option.some.inj hb; exact Int.le_refl _
theorem PI2.len {rows : List (Str × Int)} {M : Str → List Int} {now : Int} (P : PI2 rows M now) (k : Str) : (M k).length ≤ rows.length := by
  rw [P.key]
  unfold ats
  rw [List.length_reverse, List.length_map]
  exact List.length_filter_le _ _

theorem filter_cut {E : List Int} {since : Int} {c : Nat} (h1 : ∀ i a, E[i]? = some a → i < c → since < a) (h2 : ∀ i a, E[i]? = some a → c ≤ i → ¬ since < a) :
    (E.filter fun a => decide (since < a)) = E.take c := by
  conv => lhs; rw [← List.take_append_drop c E]
  rw [List.filter_append]
  have e1 : (E.take c).filter (fun a => decide (since < a)) = E.take c := by
    apply List.filter_eq_self.mpr
    intro a ha
    obtain ⟨i, hi, rfl⟩ := List.mem_iff_getElem.mp ha
    rw [List.length_take] at hi
    rw [List.getElem_take]
    exact decide_eq_true (h1 i _ (List.getElem?_eq_getElem (by omega)) (by omega))
  have e2 : (E.drop c).filter (fun a => decide (since < a)) = [] := by
    apply List.filter_eq_nil_iff.mpr
    intro a ha
    obtain ⟨i, hi, rfl⟩ := List.mem_iff_getElem.mp ha
    rw [List.length_drop] at hi
    rw [List.getElem_drop]
    simpa using h2 (c + i) _ (List.getElem?_eq_getElem (by omega)) (by omega)
  rw [e1, e2, List.append_nil]

theorem gmw_told {rows : List (Str × Int)} {M : Str → List Int} {now len st ct : Int} {k : Str} (P : PI2 rows M now) (G : GmwRes (M k) now len st ct) :
    ct = (younger rows k (now - len)).length ∧ ∀ a, (younger rows k (now - len))[0]? = some a → st = a := by
  have hc : (younger rows k (now - len)) = ((M k).take ct.toNat).reverse := by
    rw [younger_ats, ← P.key, filter_cut (c := ct.toNat)]
    · intro i a hi hl
      have := (G.cut i a hi).1 (by have := G.c0; omega)
      omega
    · intro i a hi hl
      have := (G.cut i a hi).2 (by have := G.c0; omega)
      omega
  have h0 := G.c0
  have h1 := G.c1
  have hz : (younger rows k (now - len)).length = ct.toNat := by rw [hc, List.length_reverse, List.length_take]; omega
  refine ⟨by omega, fun a ha => ?_⟩
  have hp : 0 < ct := by
    have := (List.getElem?_eq_some_iff.mp ha).1
    omega
  apply G.st a hp
  rw [hc, List.getElem?_reverse (by rw [List.length_take]; omega), List.length_take] at ha
  rw [List.getElem?_take] at ha
  have e : min ct.toNat (M k).length - 1 - 0 = (ct - 1).toNat := by omega
  rw [e, if_pos (by omega)] at ha
  exact ha

theorem acq_told {rows : List (Str × Int)} {M : Str → List Int} {now len lim amt : Int} {k : Str} (P : PI2 rows M now) (hl : len % 7 ≠ 0) (ha : 1 ≤ amt) (hl0 : 0 ≤ lim) :
    acqRes (M k) now len lim amt = decide (((younger rows k (now - len)).length : Int) + amt ≤ lim) := by
  have hz : (younger rows k (now - len)).length = ((M k).filter fun a => decide (now - len < a)).length := by
    rw [younger_ats, List.length_reverse, ← P.key]
  rw [hz]
  generalize hE : M k = E
  have hF : Falls E := hE ▸ P.falls k
  have h7 : ∀ a ∈ E, a % 7 = 0 := fun a h => by
    rw [← hE, P.key] at h
    obtain ⟨r, hr, rfl⟩ := ats_mem h
    exact P.m7 r hr
  have hn := P.n7
  have hle : (E.filter fun a => decide (now - len < a)).length ≤ E.length := List.length_filter_le _ _
  unfold acqRes
  by_cases h : amt ≤ lim
  · rw [decide_eq_true h, Bool.true_and]
    cases hj : E[(lim - amt).toNat]? with
    | none =>
      have := List.getElem?_eq_none_iff.mp hj
      exact (decide_eq_true (by omega)).symm
    | some a =>
      have hmem := List.mem_of_getElem? hj
      have ha7 := h7 a hmem
      have hlt := (List.getElem?_eq_some_iff.mp hj).1
      have key : a < now - len ↔ ((E.filter fun a => decide (now - len < a)).length : Int) + amt ≤ lim := by
        constructor
        · intro hlt2
          have e : (E.filter fun a => decide (now - len < a)) = (E.take (lim - amt).toNat).filter fun a => decide (now - len < a) := by
            conv => lhs; rw [← List.take_append_drop (lim - amt).toNat E]
            rw [List.filter_append]
            have e2 : (E.drop (lim - amt).toNat).filter (fun a => decide (now - len < a)) = [] := by
              apply List.filter_eq_nil_iff.mpr
              intro b hb
              obtain ⟨i, hi, rfl⟩ := List.mem_iff_getElem.mp hb
              rw [List.length_drop] at hi
              rw [List.getElem_drop]
              have := hF _ _ _ _ (Nat.le_add_right _ i) hj (List.getElem?_eq_getElem (by omega))
              simp only [decide_eq_true_eq]
              omega
            rw [e2, List.append_nil]
          have : ((E.take (lim - amt).toNat).filter fun a => decide (now - len < a)).length ≤ (E.take (lim - amt).toNat).length := List.length_filter_le _ _
          rw [List.length_take] at this
          rw [e]
          omega
        · intro hcnt
          apply Classical.byContradiction
          intro hge
          have hgt : now - len < a := by omega
          have e : (E.take ((lim - amt).toNat + 1)).filter (fun a => decide (now - len < a)) = E.take ((lim - amt).toNat + 1) := by
            apply List.filter_eq_self.mpr
            intro b hb
            obtain ⟨i, hi, rfl⟩ := List.mem_iff_getElem.mp hb
            rw [List.length_take] at hi
            rw [List.getElem_take]
            have := hF i _ _ _ (by omega) (List.getElem?_eq_getElem (by omega)) hj
            exact decide_eq_true (by omega)
          have hs : ((E.take ((lim - amt).toNat + 1)).filter (fun a => decide (now - len < a))).length ≤ (E.filter (fun a => decide (now - len < a))).length :=
            ((List.take_sublist _ E).filter _).length_le
          rw [e, List.length_take] at hs
          omega
      exact decide_eq_decide.mpr key
  · rw [decide_eq_false h, Bool.false_and]
    exact (decide_eq_false (by omega)).symm

theorem PI2.later {rows : List (Str × Int)} {M : Str → List Int} {now d : Int} (P : PI2 rows M now) (h0 : 0 ≤ d) (h7 : d % 7 = 0) : PI2 rows M (now + d) :=
  ⟨P.key, P.asc, fun r hr => by have := P.le r hr; omega, P.m7, by have := P.n7; omega⟩
theorem PI2.put {rows : List (Str × Int)} {M : Str → List Int} {now : Int} (P : PI2 rows M now) (k : Str) (amt : Int) :
    PI2 (rows ++ List.replicate amt.toNat (k, now)) (acqM M k now amt) now := by
  refine ⟨fun y => ?_, ?_, fun r hr => ?_, fun r hr => ?_, P.n7⟩
  · unfold acqM ats
    rw [List.filter_append, List.map_append, List.reverse_append]
    by_cases h : y = k
    · subst h
      rw [if_pos rfl, P.key]
      have e : (List.replicate amt.toNat (y, now)).filter (fun r => decide (r.1 = y)) = List.replicate amt.toNat (y, now) := by
        apply List.filter_eq_self.mpr
        intro r hr
        rw [(List.mem_replicate.mp hr).2]
        simp
      rw [e, List.map_replicate, List.reverse_replicate]
      rfl
    · rw [if_neg h, P.key]
      have e : (List.replicate amt.toNat (k, now)).filter (fun r => decide (r.1 = y)) = [] := by
        apply List.filter_eq_nil_iff.mpr
        intro r hr
        rw [(List.mem_replicate.mp hr).2]
        simpa using fun q => h q.symm
      rw [e]
      rfl
  · refine List.pairwise_append.mpr ⟨P.asc, List.pairwise_replicate.mpr (.inr (Int.le_refl _)), fun a ha b hb => ?_⟩
    rw [(List.mem_replicate.mp hb).2]
    exact P.le a ha
  · rcases List.mem_append.mp hr with h | h
    · exact P.le r h
    · rw [(List.mem_replicate.mp h).2]; exact Int.le_refl _
  · rcases List.mem_append.mp hr with h | h
    · exact P.m7 r h
    · rw [(List.mem_replicate.mp h).2]; exact P.n7
end Mine

namespace Mine
open PySem PySem.W PySem.Calls PyProof.Rows PyProof.V PySem.Spec

def lawDef : Stmt := (Challenge.pw_jb0019_02.main.body.getLast?).getD (.Pass ⟨0, 0, 0, 0⟩)
def lawB : List Stmt := match lawDef with | .FunctionDef _ _ b _ _ _ _ _ _ _ => b | _ => []
def lawScope : Scope := match lawDef with | .FunctionDef _ _ _ _ _ _ sc _ _ _ => sc | _ => { kind := .module, names := [], isGenerator := false, isCoroutine := false }
def turnB : List Stmt := match lawB with | _ :: _ :: _ :: _ :: _ :: .For _ _ b _ _ :: _ => b | _ => []
/-- the first eight statements of a turn, the «if let», the loop over two lengths -/
def headB : List Stmt := turnB.take 8
def ifS : Stmt := match turnB.drop 8 with | s :: _ => s | _ => .Pass ⟨0, 0, 0, 0⟩
def forS : Stmt := match turnB.drop 9 with | s :: _ => s | _ => .Pass ⟨0, 0, 0, 0⟩
def innerB : List Stmt := match forS with | .For _ _ b _ _ => b | _ => []

structure C2 where
  (dS dE dV ln x dx f c cl : Addr)
  (t1 t2 t3 t4 : Tok)
  (p1 p2 p3 : Pos)
  (qual : Str)
  (pm ctv : Value)
  (oc ocl : Obj)
structure V2 where
  (kl : Addr)
  (kv : List Value)
  (nk : Nat)
  (rows : List (Str × Int))
  (M : Str → List Int)
  (R : RM)
  (oV : Obj)
  (ps : Array Value)
  (own : Led)
abbrev LT (P : Params) (C : C2) (V : V2) (lnO : Obj) (rest : Led) : Led := TL P C.dS C.dE C.dV C.ln C.x C.dx C.f C.c C.cl V.oV lnO C.t1 C.t2 C.t3 C.t4 C.p1 C.p2 C.p3 C.qual C.pm C.ctv C.oc C.ocl V.ps rest
abbrev C2.Ok (C : C2) : Prop := TOk C.dV C.ln C.x C.dx C.f C.c C.cl C.qual C.oc C.ocl
structure V2.Ok (w : World) (C : C2) (V : V2) (rest : Led) (b : Nat) : Prop where
  hV : DictR Challenge.rw_jb0019_02.row.prog w V.oV V.R (2 * b)
  hM : ListsOk w.params V.own V.R V.M
  hT : TabP V.ps V.own
  hk : (V.kl, W.listOf V.kv.toArray V.nk) ∈ V.own
  hr : RowsAre V.own V.kv V.rows
  hs : ∀ p ∈ V.own, p ∈ rest
  off : OwnOff rest [C.dV, C.ln, 141]
  hz : V.rows.length ≤ 5 * b

theorem pull1 {h₀ h : Heap} {L : Addr} {e a1 a2 a3 a4 a5 a6 a7 a8 : Addr × Obj} {rest : Led} (N : News h₀ L h (e :: a1 :: a2 :: a3 :: a4 :: a5 :: a6 :: a7 :: a8 :: rest)) :
    News h₀ L h (a1 :: a2 :: a3 :: a4 :: a5 :: a6 :: a7 :: a8 :: e :: rest) := fun p hp => N p (by
  simp only [List.mem_cons] at hp ⊢
  rcases hp with h | h | h | h | h | h | h | h | h | h <;> simp only [h, true_or, or_true])
theorem pull2 {h₀ h : Heap} {L : Addr} {e d a1 a2 a3 a4 a5 a6 a7 a8 : Addr × Obj} {rest : Led} (N : News h₀ L h (e :: d :: a1 :: a2 :: a3 :: a4 :: a5 :: a6 :: a7 :: a8 :: rest)) :
    News h₀ L h (a1 :: a2 :: a3 :: a4 :: a5 :: a6 :: a7 :: a8 :: e :: d :: rest) := fun p hp => N p (by
  simp only [List.mem_cons] at hp ⊢
  rcases hp with h | h | h | h | h | h | h | h | h | h | h <;> simp only [h, true_or, or_true])
theorem pull4 {h₀ h : Heap} {L : Addr} {b d e g a1 a2 a3 a4 a5 a6 a7 a8 : Addr × Obj} {rest : Led} (N : News h₀ L h (b :: d :: e :: g :: a1 :: a2 :: a3 :: a4 :: a5 :: a6 :: a7 :: a8 :: rest)) :
    News h₀ L h (a1 :: a2 :: a3 :: a4 :: a5 :: a6 :: a7 :: a8 :: b :: d :: e :: g :: rest) := fun p hp => N p (by
  simp only [List.mem_cons] at hp ⊢
  rcases hp with h | h | h | h | h | h | h | h | h | h | h | h | h <;> simp only [h, true_or, or_true])

section
variable {w : World} {C : C2} {V : V2} {rest : Led} {b : Nat}
theorem V2.Ok.cons {q : Addr × Obj} (K : V.Ok w C rest b) (h : q.1 ≠ C.dV ∧ q.1 ≠ C.ln ∧ q.1 ≠ 141) : V.Ok w C (q :: rest) b :=
  ⟨K.hV, K.hM, K.hT, K.hk, K.hr, fun p hp => .tail _ (K.hs p hp), fun p hp z hz => by
    rcases List.mem_cons.mp hp with rfl | hp
    · rcases List.mem_cons.mp hz with rfl | hz
      · exact h.1
      rcases List.mem_cons.mp hz with rfl | hz
      · exact h.2.1
      rcases List.mem_cons.mp hz with rfl | hz
      · exact h.2.2
      · cases hz
    · exact K.off p hp z hz, K.hz⟩
theorem TabP.grow {ps : Array Value} {own own' : Led} (h : TabP ps own) (hs : ∀ p ∈ own, p ∈ own') : TabP ps own' := by
  rcases h with h | ⟨c', oc, vs, t, e, hm, r⟩
  · exact .inl h
  · exact .inr ⟨c', oc, vs, t, e, hs _ hm, r⟩
theorem ListsOk.grow {P : Params} {own own' : Led} {R : RM} {M : Str → List Int} (h : ListsOk P own R M) (hs : ∀ p ∈ own, p ∈ own') : ListsOk P own' R M := by
  intro k
  have := h k
  cases e : R k with
  | none => rw [e] at this; exact this
  | some l =>
    rw [e] at this
    obtain ⟨items, nl, h1, h2⟩ := this
    exact ⟨items, nl, hs _ h1, h2.sub hs⟩
end

section
variable {w : World} {p : Program} {loose : List Str} {mean : ExcName → Option Value} {mg mb : Str → Option Value}
  {dp un : Nat} {gd : Option (List Code)} {cn : Str} {cs : Scope} {a : Addr} {ccd : Value} {cll : List (Str × Addr)} {A₀ : Around} {h₀ : Heap} {L : Addr} {m : Str → Option Value} {s : Shared}
  {Q E : Value → Shared → Prop} {C : C2} {V : V2} {rest : Led} {b : Nat} {now : Int} {tn : Tok} {nl : Nat} {k : Str} {tk t2 t3 t4 : Tok} {since lim len amt : Int}

theorem yng_L (B : Below A₀ h₀ [] h₀) (X : (hd02.heap_39 w.params).In h₀) (T : Top p loose mean mg mb h₀) (F : Fr h₀ L s.heap m) (N : News h₀ L s.heap (LT w.params C V (W.listOf #[.int now tn] nl) rest))
    (K : V.Ok w C rest b) (hk : cs.kind = .function) (hd : dp + 5 < recursionLimit) (hb : b ≤ 64)
    (hret : ∀ D ys ny rest' h' tk', IntsAre ys (younger V.rows k since) → (D, W.listOf ys.toArray ny) ∈ rest' → (∀ q ∈ rest, q ∈ rest') → V.Ok w C rest' b → Fr h₀ L h' m →
      News h₀ L h' (LT w.params C V (W.listOf #[.int now tn] nl) rest') → Q (.ref D) { s with heap := h', toks := tk' }) :
    wpAny (model Challenge.rw_jb0019_02.row.prog w) (ktrTop dp un gd cn cs L a ccd cll []) (call (.ref 201) [.ref V.kl, .str k tk, .int since t2]) Q E s := by
  have hz := K.hz
  have hl := K.hr.length
  have inall : ∀ q ∈ V.own, q ∈ LT w.params C V (W.listOf #[.int now tn] nl) rest := fun q hq => by
    (repeat' apply List.mem_cons_of_mem)
    exact K.hs q hq
  refine younger_call B F X N T hk (inall _ K.hk) (K.hr.sub inall) (by rw [List.size_toArray]; omega) (by omega) ?_
  intro D ys ny h' tk' hy hD F' N'
  refine hret D ys ny _ h' tk' hy (.head _) (fun q hq => .tail _ hq) (K.cons ⟨?_, ?_, ?_⟩) F' (pull1 N')
  · exact (hD _ (.head _)).symm
  · exact (hD _ (.tail _ (.head _))).symm
  · exact (hD _ (.tail _ (.tail _ (.head _)))).symm

theorem gmw_L (B : Below A₀ h₀ [] h₀) (X : (hd02.heap_39 w.params).In h₀) (CH : CodeHd h₀ 145 141) (T : Top p loose mean mg mb h₀) (F : Fr h₀ L s.heap m) (N : News h₀ L s.heap (LT w.params C V (W.listOf #[.int now tn] nl) rest))
    (K : V.Ok w C rest b) (O : C.Ok) (P : PI2 V.rows V.M now) (hk : cs.kind = .function) (hd : dp + 5 < recursionLimit) (hb : b ≤ 64)
    (hret : ∀ D' st tS tC (V' : V2) rest' h' tk', (∀ a, (younger V.rows k (now - len))[0]? = some a → st = a) → V'.kl = V.kl → V'.rows = V.rows → V'.M = V.M → (∀ q ∈ rest, q ∈ rest') →
      Grow V.own rest V'.own rest' → V'.Ok w C rest' b → Fr h₀ L h' m →
      News h₀ L h' ((D', ({ cls := .type "tuple", data := .seq #[.int st tS, .int ((younger V.rows k (now - len)).length : Int) tC] } : Obj)) :: LT w.params C V' (W.listOf #[.int now tn] nl) rest') → Q (.ref D') { s with heap := h', toks := tk' }) :
    wpAny (model Challenge.rw_jb0019_02.row.prog w) (ktrTop dp un gd cn cs L a ccd cll []) (call (.ref 146) [.ref C.x, .str k tk, .int lim t2, .int len t3]) Q E s := by
  have hz := K.hz
  have hl := P.len k
  refine gmw_call B F X CH N T hk O K.off K.hV (by omega) K.hs K.hM (by omega) (P.falls k) K.hT (by omega) ?_
  intro D' st ct tS tC ps' own' rest' h' tk' hG g off' hT' F' N'
  obtain ⟨rfl, h1⟩ := gmw_told P hG
  exact hret D' st tS tC { V with ps := ps', own := own' } rest' h' tk' h1 rfl rfl rfl g.a g ⟨K.hV, K.hM.grow g.b, hT', g.b _ K.hk, K.hr.sub g.b, g.c, off', K.hz⟩ F' N'

theorem acq_L (B : Below A₀ h₀ [] h₀) (X : (hd02.heap_39 w.params).In h₀) (T : Top p loose mean mg mb h₀) (F : Fr h₀ L s.heap m) (N : News h₀ L s.heap (LT w.params C V (W.listOf #[.int now tn] nl) rest))
    (K : V.Ok w C rest b) (O : C.Ok) (P : PI2 V.rows V.M now) (hk : cs.kind = .function) (hd : dp + 5 < recursionLimit) (hb : b ≤ 64)
    (ha1 : 1 ≤ amt) (ha5 : amt ≤ 5) (hl0 : 0 ≤ lim) (hl5 : lim ≤ 5) (h7 : len % 7 ≠ 0)
    (hret : ∀ (V' : V2) rest' h' tk', V'.kl = V.kl → V'.kv = V.kv → V'.nk = V.nk → V'.rows = V.rows → V'.M = (if ((younger V.rows k (now - len)).length : Int) + amt ≤ lim then acqM V.M k now amt else V.M) → (∀ q ∈ rest, q ∈ rest') →
      Grow V.own rest V'.own rest' → V'.Ok w C rest' (b + 1) → Fr h₀ L h' m →
      News h₀ L h' (LT w.params C V' (W.listOf #[.int now tn] nl) rest') → Q (.bool (decide (((younger V.rows k (now - len)).length : Int) + amt ≤ lim))) { s with heap := h', toks := tk' }) :
    wpAny (model Challenge.rw_jb0019_02.row.prog w) (ktrTop dp un gd cn cs L a ccd cll []) (call (.ref 132) [.ref C.x, .str k tk, .int lim t2, .int len t3, .int amt t4]) Q E s := by
  have hz := K.hz
  have hl := P.len k
  have hR := acq_told (lim := lim) (k := k) P h7 ha1 hl0
  refine acq_call B F X N T hk O K.off K.hV (by omega) K.hs K.hM (by omega) ha1 ha5 hl0 hl5 (by omega) ?_
  intro oV' R' own' rest' h' tk' g off' hV' hM' F' N'
  rw [hR] at hM' ⊢
  refine hret { V with oV := oV', R := R', own := own', M := (if ((younger V.rows k (now - len)).length : Int) + amt ≤ lim then acqM V.M k now amt else V.M) } rest' h' tk' rfl rfl rfl rfl rfl g.a g
    ⟨hV', ?_, K.hT.grow g.b, g.b _ K.hk, K.hr.sub g.b, g.c, off', by show V.rows.length ≤ _; omega⟩ F' N'
  simpa only [decide_eq_true_eq] using hM'
end
end Mine

namespace Mine
open PySem PySem.W PySem.Calls PyProof.Rows PyProof.V PySem.Spec

theorem map6 {k1 k2 k3 k4 k5 k6 : Str} {v1 v2 v3 v4 v5 v6 : Value} {m : Str → Option Value} (h1 : m k1 = some v1) (h2 : m k2 = some v2) (h3 : m k3 = some v3) (h4 : m k4 = some v4) (h5 : m k5 = some v5) (h6 : m k6 = some v6) :
    m = fun y => if y = k1 then some v1 else if y = k2 then some v2 else if y = k3 then some v3 else if y = k4 then some v4 else if y = k5 then some v5 else if y = k6 then some v6 else m y := by
  funext y
  by_cases e1 : y = k1; · simp [e1, h1]
  by_cases e2 : y = k2; · subst e2; simp [e1, h2]
  by_cases e3 : y = k3; · subst e3; simp [e1, e2, h3]
  by_cases e4 : y = k4; · subst e4; simp [e1, e2, e3, h4]
  by_cases e5 : y = k5; · subst e5; simp [e1, e2, e3, e4, h5]
  by_cases e6 : y = k6; · subst e6; simp [e1, e2, e3, e4, e5, h6]
  simp [e1, e2, e3, e4, e5, e6]
theorem tr_ints {prog : Program} {w : World} {A : Around} {E : Value → Shared → Prop} {s : Shared} {h₀ : Heap} {L l : Addr} {news : Led} {ys : List Value} {zs : List Int} {nl : Nat} {Q : Bool → Shared → Prop} (N : News h₀ L s.heap news) (hm : (l, W.listOf ys.toArray nl) ∈ news) (hy : IntsAre ys zs)
    (hz : zs.length < 2 ^ 60) (h0 : zs = [] → Q false { s with toks := s.toks + 1 + 1 }) (h1 : ∀ z t vs zs', ys = .int z t :: vs → zs = z :: zs' → Q true { s with toks := s.toks + 1 + 1 }) : wpAny (model prog w) A (truthy (.ref l)) Q E s := by
  cases hy with
  | nil => exact tr_list_e N hm rfl (h0 rfl)
  | cons z t hy =>
    have := hy.length
    exact tr_list_ne N hm (by simp) (by simp at hz ⊢; omega) (h1 z t _ _ rfl rfl)
theorem yng_le {ys : List Value} {rows : List (Str × Int)} {k : Str} {since : Int} (h : IntsAre ys (younger rows k since)) : ys.length ≤ rows.length := by
  rw [h.length]; unfold younger; rw [List.length_map]; exact List.length_filter_le _ _
theorem lst_item0 {prog : Program} {w : World} {A : Around} {E : Value → Shared → Prop} {s : Shared} {h₀ : Heap} {L l : Addr} {news : Led} {value slice : PySem.Expr} {v : Value} {vs : List Value} {nl : Nat} {u : Tok} {Q : Value → Shared → Prop} (N : News h₀ L s.heap news) (hm : (l, W.listOf (v :: vs).toArray nl) ∈ news)
    (h : Q v s) (hs : subscripted slice false (.ref l) (.int 0 u) = operate [.ref l, .int 0 u] (getItem (.ref l) (.int 0 u)) := by with_unfolding_all rfl) :
    wpAny (model prog w) A (subscriptTail value slice (.ref l) (.int 0 u)) Q E s := lst_item N hm (by decide) (by decide) rfl h hs
local macro_rules | `(tactic| k_mem) => `(tactic| ((repeat' apply List.mem_cons_of_mem); with_reducible assumption))
local macro_rules | `(tactic| walk_at "call ref") => `(tactic| (k_here; (try dsimp only [List.append_nil, List.cons_append, List.nil_append]); (with_reducible show wpAny _ _ (call (Value.ref 201) [_, _, _] _) _ _ _); k_dflt (refine yng_L (by assumption) (by k_asm) (by k_asm) (by k_asm) (by assumption) (by assumption) (by rfl) (by omega) (by omega) ?_); intro D' ys' ny' rest' h' tk' hy' hD' hr' K' F' N'; have hyl' := hy'.length; have hyl2' := yng_le hy'))
local macro_rules | `(tactic| walk_at "call ref") => `(tactic| (k_here; (try dsimp only [List.append_nil, List.cons_append, List.nil_append]); (with_reducible show wpAny _ _ (call (Value.ref 146) [_, _, _, _] _) _ _ _); k_dflt (refine gmw_L (by assumption) (by k_asm) (by assumption) (by k_asm) (by k_asm) (by assumption) (by assumption) (by assumption) (by assumption) (by rfl) (by omega) (by omega) ?_); intro D' st' tS' tC' V' rest' h' tk' hst' e1' e2' e3' hr' g' K' F' N'; (have hD9 := hr' _ (by assumption))))
local macro_rules | `(tactic| walk_at "call builtin:len") => `(tactic| (k_here; (try dsimp only [List.append_nil, List.cons_append, List.nil_append]); (with_reducible show wpAny _ _ (call (Value.builtin "len") [Value.ref _]) _ _ _); k_dflt (refine len_list (by exact News.list (by k_asm) (by k_mem)) (by (rw [List.size_toArray]; omega)) ?_)))
local macro_rules | `(tactic| walk_at "subscriptTail Name Constant ref int") => `(tactic| (k_here; (with_reducible show wpAny _ _ (subscriptTail _ _ (Value.ref _) (Value.int 0 _)) _ _ _); k_dflt (refine lst_item0 (by k_asm) (by k_mem) ?_ (by with_unfolding_all rfl))))
section
variable {w : World} {p : Program} {loose : List Str} {mean : ExcName → Option Value} {mg mb : Str → Option Value}
  {dp un : Nat} {gd : Option (List Code)} {a : Addr} {A₀ : Around} {h₀ : Heap} {L : Addr} {m : Str → Option Value} {s : Shared}
  {C : C2} {V : V2} {rest : Led} {b : Nat} {now : Int} {tn : Tok} {nl : Nat} {k : Str} {tk t2 t3 : Tok} {lim len : Int}
def InnerPost (w : World) (C : C2) (V : V2) (h₀ : Heap) (L : Addr) (m : Str → Option Value) (rest : Led) (b : Nat) (now : Int) (tn : Tok) (nl : Nat) (s : Shared) (fl : Flow) (s' : Shared) : Prop :=
  fl = .next ∧ ∃ (V' : V2) (rest' : Led) (h' : Heap) (tk' : Nat) (m' : Str → Option Value), s' = { s with heap := h', toks := tk' } ∧ Fr h₀ L h' m' ∧ m' (Str.ofString "right") = some (.bool true) ∧
    (∀ y, y ≠ Str.ofString "right" → y ≠ Str.ofString "young" → y ≠ Str.ofString "start" → y ≠ Str.ofString "count" → m' y = m y) ∧
    News h₀ L h' (LT w.params C V' (W.listOf #[.int now tn] nl) rest') ∧ V'.Ok w C rest' b ∧ V'.kl = V.kl ∧ V'.rows = V.rows ∧ V'.M = V.M ∧ (∀ q ∈ rest, q ∈ rest') ∧ Grow V.own rest V'.own rest'

theorem Grow.pre {own rest rest1 own' rest' : Led} (g : Grow own rest1 own' rest') (h : ∀ q ∈ rest, q ∈ rest1) : Grow own rest own' rest' :=
  ⟨fun q hq => g.a q (h q hq), g.b, g.c, fun z ⟨o, ho⟩ h2 => g.d z ⟨o, h _ ho⟩ h2⟩
theorem inner_walk
    (B : Below A₀ h₀ [] h₀) (X : (hd02.heap_39 w.params).In h₀) (CH : CodeHd h₀ 145 141) (T : Top p loose mean mg mb h₀) (F : Fr h₀ L s.heap m)
    (m1 : m (Str.ofString "other") = some (.int len t3)) (m2 : m (Str.ofString "right") = some (.bool true)) (m3 : m (Str.ofString "key") = some (.str k tk)) (m4 : m (Str.ofString "kept") = some (.ref V.kl))
    (m5 : m (Str.ofString "store") = some (.ref C.x)) (m6 : m (Str.ofString "limit") = some (.int lim t2))
    (N : News h₀ L s.heap (LT w.params C V (W.listOf #[.int now tn] nl) rest))
    (K : V.Ok w C rest b) (O : C.Ok) (P : PI2 V.rows V.M now) (hb : b ≤ 64) (hd : dp + 6 < recursionLimit) :
    wpAny (model Challenge.rw_jb0019_02.row.prog w) (ktrTop dp un gd (Str.ofString "law") lawScope L a (.ref 205) [(Str.ofString "moment", C.cl)] []) (execs innerB (envX (Str.ofString "law") lawScope L a (.ref 205) [(Str.ofString "moment", C.cl)])) (InnerPost w C V h₀ L m rest b now tn nl s) (fun _ _ => False) s := by
  revert X; k_fill; intro X
  have hz := K.hz
  have d3 := O.d3
  have hyz : ∀ since, (younger V.rows k since).length ≤ V.rows.length := fun since => by unfold younger; rw [List.length_map]; exact List.length_filter_le _ _
  rw [map6 m1 m2 m3 m4 m5 m6] at F
  conv in innerB => whnf
  conv in (occs := *) lawScope => all_goals whnf
  (try k_fold)
  k_steps
  refine' tr_ints ?mN ?mm ?my ?mz ?m0 ?m1
  case mN => k_asm
  case mm => k_mem
  case my => assumption
  case mz => omega
  case m0 =>
    intro hze'
    k_steps
    rename News _ _ _ _ => N9
    rename Grow _ _ _ _ => g9
    rename IntsAre _ _ => hy9
    refine ⟨rfl, _, _, _, _, _, rfl, (by k_asm), ?_, (by intro y h1 h2 h3 h4; simp only [h1, h2, h3, h4, if_false]; (have q := congrFun (map6 m1 m2 m3 m4 m5 m6).symm y); simp only [h1, if_false] at q; exact q), fun p hp => N9 p (.tail _ hp), by assumption, by assumption, by assumption, by assumption, fun q hq => g9.a q ((by assumption : ∀ q ∈ rest, q ∈ _) q hq), g9.pre (by assumption)⟩
    show some (Value.bool _) = some (Value.bool true)
    rw [List.size_toArray, hy9.length]; simp
  case m1 =>
    intro z' t' vs' zs' hys' hzs'
    subst hys'
    have hsz := (by assumption : ∀ a, _ → _ = a) z' (by rw [hzs']; rfl)
    rename IntsAre _ _ => hy9
    have hlen := hy9.length
    k_steps
    · rename News _ _ _ _ => N9
      rename Grow _ _ _ _ => g9
      refine ⟨rfl, _, _, _, _, _, rfl, (by k_asm), ?_, (by intro y h1 h2 h3 h4; simp only [h1, h2, h3, h4, if_false]; (have q := congrFun (map6 m1 m2 m3 m4 m5 m6).symm y); simp only [h1, if_false] at q; exact q), fun p hp => N9 p (.tail _ hp), by assumption, by assumption, by assumption, by assumption, fun q hq => g9.a q ((by assumption : ∀ q ∈ rest, q ∈ _) q hq), g9.pre (by assumption)⟩
      show some (Value.bool _) = some (Value.bool true)
      rw [hsz]; simp
    · exfalso
      rename @Ne Int _ _ => hne
      exact hne (by rw [List.size_toArray, hlen])
end
end Mine

namespace Mine
open PySem PySem.W PySem.Calls PyProof.Rows PyProof.V PySem.Spec

section
variable {prog : Program} {w : World} {A : Around} {E : Value → Shared → Prop} {s : Shared} {h₀ : Heap}
theorem itemsRest_indG {ic : String} {env : Env} {target : PySem.Expr} {body : List Stmt} {Q : Flow → Shared → Prop} {I : Addr} {kp : Addr × Obj} (J : List Value → (Str → Option Value) → Led → Prop)
    (hsub : ∀ r m news, J r m news → kp ∈ news)
    (step : ∀ v r m news, J (v :: r) m news → ∀ h tk (it : Obj), it.cls = .type ic → Fr h₀ env.locals h m → News h₀ env.locals h ((I, it) :: news) →
      wpAny (model prog w) A (assign target env v) (fun _ s₂ => wpAny (model prog w) A (execs body env) (UnrPostW h₀ env.locals { s with heap := h, toks := tk } [(I, it)] (fun m' n' => J r m' n') Q) E s₂) E { s with heap := h, toks := tk })
    (done : ∀ m news, J [] m news → ∀ h tk, Fr h₀ env.locals h m → News h₀ env.locals h news → Q .next { s with heap := h, toks := tk }) :
    ∀ (vs : List Value) (m : Str → Option Value) (news : Led), J vs m news → ItemsRest prog w A E h₀ env target body Q s [(I, ic)] [kp] (vs.map .val) m news
  | [], m, news, hj => ItemsRest.zero fun h tk F N => done m news hj h tk F N
  | v :: r, m, news, hj => ItemsRest.val fun h tk F => AllObj.cons fun it hit => AllObj.nil fun N =>
      wpAny_mono (step v r m news hj h tk it hit F N) (fun _ s₂ h₂ => wpAny_mono h₂ (fun f s₃ h₃ => by
        have conv : ∀ s₃, UnrEndW h₀ env.locals { s with heap := h, toks := tk } [(I, it)] (fun m' n' => J r m' n') s₃ →
            UnrEndW h₀ env.locals { s with heap := h, toks := tk } [(I, it)] (fun m' n' => SubL [kp] n' ∧ ItemsRest prog w A E h₀ env target body Q s [(I, ic)] [kp] (r.map .val) m' n') s₃ := by
          rintro s₃ ⟨h', tk', m', news', e, F', N', off, hj'⟩
          exact ⟨h', tk', m', news', e, F', N', off, ⟨hsub _ _ _ hj', trivial⟩, itemsRest_indG J hsub step done r m' news' hj'⟩
        cases f with
        | ret v => exact h₃
        | brk => exact h₃
        | next => exact conv _ h₃
        | cont => exact conv _ h₃) fun _ _ e => e) fun _ _ e => e
end

theorem V2.Ok.shrink {w : World} {C : C2} {V : V2} {rest rest2 : Led} {b : Nat} (K : V.Ok w C rest b) (h1 : ∀ p ∈ V.own, p ∈ rest2) (h2 : ∀ p ∈ rest2, p ∈ rest) : V.Ok w C rest2 b :=
  ⟨K.hV, K.hM, K.hT, K.hk, K.hr, h1, fun p hp => K.off p (h2 p hp), K.hz⟩
/-- the eight of the store lie apart from an address that came later -/
def Apart8 (C : C2) (z : Addr) : Prop := C.dV ≠ z ∧ C.ln ≠ z ∧ 141 ≠ z ∧ C.x ≠ z ∧ C.dx ≠ z ∧ C.f ≠ z ∧ C.c ≠ z ∧ C.cl ≠ z
theorem lt_apart {P : Params} {C : C2} {V : V2} {lnO : Obj} {rest : Led} {z : Addr} (h : Apart8 C z) (hr : ∀ p ∈ rest, p.1 ≠ z) : ∀ p ∈ LT P C V lnO rest, p.1 ≠ z := by
  obtain ⟨h1, h2, h3, h4, h5, h6, h7, h8⟩ := h
  (repeat (refine List.forall_mem_cons.mpr ⟨by assumption, ?_⟩))
  exact hr
theorem apart8_of {P : Params} {C : C2} {V : V2} {lnO : Obj} {rest : Led} {z : Addr} (h : ∀ p ∈ LT P C V lnO rest, p.1 < z) : Apart8 C z := by
  refine ⟨?_, ?_, ?_, ?_, ?_, ?_, ?_, ?_⟩
  · exact Nat.ne_of_lt (h _ (.head _))
  · exact Nat.ne_of_lt (h _ (.tail _ (.head _)))
  · exact Nat.ne_of_lt (h _ (.tail _ (.tail _ (.head _))))
  · exact Nat.ne_of_lt (h _ (.tail _ (.tail _ (.tail _ (.head _)))))
  · exact Nat.ne_of_lt (h _ (.tail _ (.tail _ (.tail _ (.tail _ (.head _))))))
  · exact Nat.ne_of_lt (h _ (.tail _ (.tail _ (.tail _ (.tail _ (.tail _ (.head _)))))))
  · exact Nat.ne_of_lt (h _ (.tail _ (.tail _ (.tail _ (.tail _ (.tail _ (.tail _ (.head _))))))))
  · exact Nat.ne_of_lt (h _ (.tail _ (.tail _ (.tail _ (.tail _ (.tail _ (.tail _ (.tail _ (.head _)))))))))
theorem lt_sub {P : Params} {C : C2} {V : V2} {lnO : Obj} {rest rest2 : Led} {h₀ h : Heap} {L : Addr} (N : News h₀ L h (LT P C V lnO rest)) (hs : ∀ p ∈ rest2, p ∈ rest) : News h₀ L h (LT P C V lnO rest2) := fun p hp => N p (by
  simp only [LT, TL, List.mem_cons] at hp ⊢
  rcases hp with h | h | h | h | h | h | h | h | h
  all_goals first | (simp only [h, true_or, or_true]; done) | exact .inr (.inr (.inr (.inr (.inr (.inr (.inr (.inr (hs _ h))))))))) 
theorem lt_rest {P : Params} {C : C2} {V : V2} {lnO : Obj} {rest : Led} {p : Addr × Obj} (h : p ∈ rest) : p ∈ LT P C V lnO rest := by
  (repeat' apply List.mem_cons_of_mem); exact h

/-- what a stretch of the turn leaves: the store's side -/
structure Went (V V' : V2) (anc : Led) : Prop where
  sub : ∀ p ∈ V.own, p ∈ V'.own
  apart : ∀ z, (∃ o, (z, o) ∈ anc) → (∀ p ∈ V.own, p.1 ≠ z) → ∀ p ∈ V'.own, p.1 ≠ z
theorem Went.refl {V : V2} {anc : Led} : Went V V anc := ⟨fun _ h => h, fun _ _ h => h⟩
theorem Went.trans {V V1 V2' : V2} {anc : Led} (a : Went V V1 anc) (b : Went V1 V2' anc) : Went V V2' anc := ⟨fun p h => b.sub p (a.sub p h), fun z hz h => b.apart z hz (a.apart z hz h)⟩
theorem Went.of {V V' : V2} {anc rest rest' : Led} (g : Grow V.own rest V'.own rest') (h : ∀ p ∈ anc, p ∈ rest) : Went V V' anc := ⟨g.b, fun z ⟨o, ho⟩ h2 => g.d z ⟨o, h _ ho⟩ h2⟩

section
variable {w : World} {p : Program} {loose : List Str} {mean : ExcName → Option Value} {mg mb : Str → Option Value}
  {dp un : Nat} {gd : Option (List Code)} {a : Addr} {A₀ : Around} {h₀ : Heap} {L : Addr} {m : Str → Option Value} {s : Shared} {E : Value → Shared → Prop} {Q : Flow → Shared → Prop}
  {C : C2} {V : V2} {anc : Led} {b : Nat} {now : Int} {tn : Tok} {nl : Nat} {k : Str} {tk t2 : Tok} {lim : Int} {ax : Addr} {vs : List Value} {ls : List Int} {n0 : Nat} {lo : Obj} {pn : Pos}

theorem for_iter
    (B : Below A₀ h₀ [] h₀) (X : (hd02.heap_39 w.params).In h₀) (CH : CodeHd h₀ 145 141) (T : Top p loose mean mg mb h₀) (F : Fr h₀ L s.heap m)
    (m2 : m (Str.ofString "right") = some (.bool true)) (m3 : m (Str.ofString "key") = some (.str k tk)) (m4 : m (Str.ofString "kept") = some (.ref V.kl))
    (m5 : m (Str.ofString "store") = some (.ref C.x)) (m6 : m (Str.ofString "limit") = some (.int lim t2))
    (N : News h₀ L s.heap (LT w.params C V (W.listOf #[.int now tn] nl) ((ax, lo) :: (anc ++ V.own)))) (hc : lo.cls = .type "tuple") (hdt : lo.data = .seq vs.toArray n0) (hi : IntsAre vs ls)
    (K : V.Ok w C ((ax, lo) :: (anc ++ V.own)) b) (O : C.Ok) (P : PI2 V.rows V.M now) (hb : b ≤ 64) (hd : dp + 6 < recursionLimit)
    (done : ∀ (V' : V2) h' tk' m', Fr h₀ L h' m' → m' (Str.ofString "right") = some (.bool true) →
      (∀ y, y ≠ Str.ofString "right" → y ≠ Str.ofString "young" → y ≠ Str.ofString "start" → y ≠ Str.ofString "count" → y ≠ Str.ofString "other" → m' y = m y) →
      News h₀ L h' (LT w.params C V' (W.listOf #[.int now tn] nl) (anc ++ V'.own)) → V'.Ok w C (anc ++ V'.own) b → V'.kl = V.kl → V'.rows = V.rows → V'.M = V.M → Went V V' anc → Q .next { s with heap := h', toks := tk' }) :
    wpAny (model Challenge.rw_jb0019_02.row.prog w) (ktrTop dp un gd (Str.ofString "law") lawScope L a (.ref 205) [(Str.ofString "moment", C.cl)] []) (pyIter (.ref ax))
      (fun i9 s₂ => TurnsAt Challenge.rw_jb0019_02.row.prog w (ktrTop dp un gd (Str.ofString "law") lawScope L a (.ref 205) [(Str.ofString "moment", C.cl)] []) h₀ (envX (Str.ofString "law") lawScope L a (.ref 205) [(Str.ofString "moment", C.cl)]) (.Name (Str.ofString "other") pn) innerB Q E i9 s₂) E s := by
  refine iter_tupTurns rfl F N (lt_rest (.head _)) hc hdt (fun I hI => ?_)
  have ap := apart8_of hI
  have ax0 : ax ≠ I := Nat.ne_of_lt (hI _ (lt_rest (.head _)))
  have an0 : ∀ p ∈ anc, p.1 ≠ I := fun p hp => Nat.ne_of_lt (hI _ (lt_rest (.tail _ (List.mem_append_left _ hp))))
  have ow0 : ∀ p ∈ V.own, p.1 ≠ I := fun p hp => Nat.ne_of_lt (hI _ (lt_rest (.tail _ (List.mem_append_right _ hp))))
  refine itemsRest_indG (ic := "tuple_iterator") (fun r m' news => ∃ (V' : V2) (ls' : List Int), IntsAre r ls' ∧ news = LT w.params C V' (W.listOf #[.int now tn] nl) ((ax, lo) :: (anc ++ V'.own)) ∧ V'.Ok w C ((ax, lo) :: (anc ++ V'.own)) b ∧ (∀ p ∈ V'.own, p.1 ≠ I) ∧
    V'.kl = V.kl ∧ V'.rows = V.rows ∧ V'.M = V.M ∧ Went V V' anc ∧ m' (Str.ofString "right") = some (.bool true) ∧
    (∀ y, y ≠ Str.ofString "right" → y ≠ Str.ofString "young" → y ≠ Str.ofString "start" → y ≠ Str.ofString "count" → y ≠ Str.ofString "other" → m' y = m y)) ?_ ?_ ?_ _ _ _ ?_
  · rintro r m' news ⟨V', ls', _, rfl, _⟩
    exact lt_rest (.head _)
  · rintro v r m' news ⟨V', ls', hr, rfl, K1, ow1, e1, e2, e3, W1, r1, u1⟩ h tk1 it hit F1 N1
    cases hr with
    | @cons i t vs3 ns3 hr =>
    refine wpAny_assign_Name (storeX_L F1 N1 (fun h' F2 N2 => ?_) rfl rfl)
    have N3 := pull1 N2
    have K2 : V'.Ok w C ((I, it) :: (ax, lo) :: (anc ++ V'.own)) b := K1.cons ⟨ap.1.symm, ap.2.1.symm, ap.2.2.1.symm⟩
    refine wpAny_noRaise (wpAny_mono (inner_walk B X CH T F2 rfl (by exact r1) ((u1 _ (by decide) (by decide) (by decide) (by decide) (by decide)).trans m3) (by rw [e1]; exact (u1 _ (by decide) (by decide) (by decide) (by decide) (by decide)).trans m4)
      ((u1 _ (by decide) (by decide) (by decide) (by decide) (by decide)).trans m5) ((u1 _ (by decide) (by decide) (by decide) (by decide) (by decide)).trans m6) N3 K2 O (by rw [e2, e3]; exact P) hb hd) (fun f s' hp => ?_) fun _ _ h => h)
    obtain ⟨rfl, V3, rest3, h3, tk3, m3', rfl, F3, r3, u3, N4, K3, e4, e5, e6, hq, g3⟩ := hp
    have W3 : Went V' V3 ((I, it) :: anc) := .of g3 (fun q hq => by
      rcases List.mem_cons.mp hq with rfl | hq
      · exact .head _
      · exact .tail _ (.tail _ (List.mem_append_left _ hq)))
    have hsub : ∀ q ∈ ((ax, lo) :: (anc ++ V3.own)), q ∈ rest3 := fun q hq' => by
      rcases List.mem_cons.mp hq' with rfl | hq'
      · exact hq _ (.tail _ (.head _))
      rcases List.mem_append.mp hq' with h | h
      · exact hq _ (.tail _ (.tail _ (List.mem_append_left _ h)))
      · exact g3.c _ h
    have ow3 : ∀ p ∈ V3.own, p.1 ≠ I := W3.apart I ⟨it, .head _⟩ ow1
    refine ⟨h3, tk3, m3', LT w.params C V3 (W.listOf #[.int now tn] nl) ((ax, lo) :: (anc ++ V3.own)), rfl, F3, ?_, ?_, V3, ns3, hr, rfl, K3.shrink (fun p hp => .tail _ (List.mem_append_right _ hp)) hsub, ow3, e4.trans e1, e5.trans e2, e6.trans e3,
      W1.trans ⟨W3.sub, fun z ⟨o, ho⟩ h => W3.apart z ⟨o, .tail _ ho⟩ h⟩, r3, fun y y1 y2 y3 y4 y5 => ?_⟩
    · intro q hq'
      rcases List.mem_cons.mp hq' with rfl | hq'
      · exact N4 _ (lt_rest (hq _ (.head _)))
      · exact lt_sub N4 hsub q hq'
    · intro q hq' z hz
      rw [List.mem_singleton.mp hz]
      refine lt_apart ap ?_ q hq'
      intro p hp
      rcases List.mem_cons.mp hp with rfl | hp
      · exact ax0
      rcases List.mem_append.mp hp with h | h
      · exact an0 _ h
      · exact ow3 _ h
    · rw [u3 y y1 y2 y3 y4]
      show (if y = Str.ofString "other" then _ else _) = _
      rw [if_neg y5]
      exact u1 y y1 y2 y3 y4 y5
  · rintro m' news ⟨V', ls', hr, rfl, K1, ow1, e1, e2, e3, W1, r1, u1⟩ h tk1 F1 N1
    exact done V' h tk1 m' F1 r1 u1 (lt_sub N1 fun p hp => .tail _ hp) (K1.shrink (fun p hp => List.mem_append_right _ hp) fun p hp => .tail _ hp) e1 e2 e3 W1
  · exact ⟨V, ls, hi, rfl, K, ow0, rfl, rfl, rfl, .refl, m2, fun _ _ _ _ _ _ => rfl⟩
end
end Mine

namespace Mine
open PySem PySem.W PySem.Calls PyProof.Rows PyProof.V PySem.Spec

local macro_rules | `(tactic| k_mem) => `(tactic| ((repeat' apply List.mem_cons_of_mem); with_reducible assumption))
local macro_rules | `(tactic| walk_at "call builtin:len") => `(tactic| (k_here; (with_reducible show wpAny _ _ (call (Value.builtin "len") [Value.ref _]) _ _ _); k_dflt (refine len_list (by exact News.list (by k_asm) (by k_mem)) (by (rw [List.size_toArray]; omega)) ?_)))
local macro_rules | `(tactic| walk_at "subscriptTail Name Constant ref int") => `(tactic| (k_here; (with_reducible show wpAny _ _ (subscriptTail _ _ (Value.ref _) (Value.int 0 _)) _ _ _); k_dflt (refine lst_item0 (by k_asm) (by k_mem) ?_ (by with_unfolding_all rfl))))
local macro_rules | `(tactic| walk_at "binaryOp Mult ref int") => `(tactic| (k_here; (with_reducible show wpAny _ _ (binaryOp Operator.Mult (Value.ref _) (Value.int _ _)) _ _ _); k_dflt (refine KMa.mul (by k_asm) (by k_asm) (by is_list) (by omega) (by omega) (by (simp only [List.length_cons, List.length_nil]; omega)) (by exact rfl) ?_; k_whole); intro D' h' F' N' l1; (try k_lt l1)))
local macro_rules | `(tactic| walk_at "binaryOp Add ref ref") => `(tactic| (k_here; (with_reducible show wpAny _ _ (binaryOp Operator.Add (Value.ref _) (Value.ref _)) _ _ _); k_dflt (refine my_add (by k_asm) (by k_asm) (by k_mem) (by k_mem) ?_ (by (simp only [List.length_flatten, List.map_replicate, List.sum_replicate_nat, List.length_cons, List.length_nil]; omega)); k_whole); intro D' h' F' N' l1; (try k_lt l1)))
local macro_rules | `(tactic| walk_at "allLt") => `(tactic| first
  | ((rename (@LT.lt Nat _ _ _) ∧ (@LT.lt Nat _ _ _) ∧ _ => l9); (repeat (first | exact l9 | replace l9 := l9.2)); done)
  | ((rename (@LT.lt Nat _ _ _) ∧ (@LT.lt Nat _ _ _) ∧ _ => l9); clear l9; (rename (@LT.lt Nat _ _ _) ∧ (@LT.lt Nat _ _ _) ∧ _ => l9); (repeat (first | exact l9 | replace l9 := l9.2)); done)
  | ((rename (@LT.lt Nat _ _ _) ∧ (@LT.lt Nat _ _ _) ∧ _ => l9); clear l9; (rename (@LT.lt Nat _ _ _) ∧ (@LT.lt Nat _ _ _) ∧ _ => l9); clear l9; (rename (@LT.lt Nat _ _ _) ∧ (@LT.lt Nat _ _ _) ∧ _ => l9); (repeat (first | exact l9 | replace l9 := l9.2)); done)
  | ((rename (@LT.lt Nat _ _ _) ∧ (@LT.lt Nat _ _ _) ∧ _ => l9); clear l9; (rename (@LT.lt Nat _ _ _) ∧ (@LT.lt Nat _ _ _) ∧ _ => l9); clear l9; (rename (@LT.lt Nat _ _ _) ∧ (@LT.lt Nat _ _ _) ∧ _ => l9); clear l9; (rename (@LT.lt Nat _ _ _) ∧ (@LT.lt Nat _ _ _) ∧ _ => l9); (repeat (first | exact l9 | replace l9 := l9.2)); done))

theorem map4 {k1 k2 k3 k4 : Str} {v1 v2 v3 v4 : Value} {m : Str → Option Value} (h1 : m k1 = some v1) (h2 : m k2 = some v2) (h3 : m k3 = some v3) (h4 : m k4 = some v4) :
    m = fun y => if y = k1 then some v1 else if y = k2 then some v2 else if y = k3 then some v3 else if y = k4 then some v4 else m y := by
  funext y
  by_cases e1 : y = k1; · simp [e1, h1]
  by_cases e2 : y = k2; · subst e2; simp [e1, h2]
  by_cases e3 : y = k3; · subst e3; simp [e1, e2, h3]
  by_cases e4 : y = k4; · subst e4; simp [e1, e2, e3, h4]
  simp [e1, e2, e3, e4]
theorem RowsAre.append {news : Led} {vs vs2 : List Value} {rs rs2 : List (Str × Int)} (h : RowsAre news vs rs) (h2 : RowsAre news vs2 rs2) : RowsAre news (vs ++ vs2) (rs ++ rs2) := by
  induction h with
  | nil => exact h2
  | cons h1 _ ih => exact .cons h1 ih
theorem rows_rep {news : Led} {v : Value} {r : Str × Int} (h : RowOf news v r) (n : Nat) : RowsAre news (List.replicate n [v]).flatten (List.replicate n r) := by
  induction n with
  | zero => exact .nil
  | succ n ih => rw [List.replicate_succ, List.flatten_cons, List.replicate_succ]; exact .cons h ih
theorem if_sub {h₀ h : Heap} {L : Addr} {D D2 l t a1 a2 a3 a4 a5 a6 a7 a8 : Addr × Obj} {rest : Led} (N : News h₀ L h (D :: D2 :: l :: t :: a1 :: a2 :: a3 :: a4 :: a5 :: a6 :: a7 :: a8 :: rest)) :
    News h₀ L h (a1 :: a2 :: a3 :: a4 :: a5 :: a6 :: a7 :: a8 :: D :: t :: rest) := fun p hp => N p (by
  simp only [List.mem_cons] at hp ⊢
  rcases hp with h | h | h | h | h | h | h | h | h | h | h <;> simp only [h, true_or, or_true])

section
variable {w : World} {p : Program} {loose : List Str} {mean : ExcName → Option Value} {mg mb : Str → Option Value}
  {dp un : Nat} {gd : Option (List Code)} {a : Addr} {A₀ : Around} {h₀ : Heap} {L : Addr} {m : Str → Option Value} {s : Shared}
  {C : C2} {V : V2} {anc rest : Led} {b : Nat} {now : Int} {tn tk ta : Tok} {nl : Nat} {k : Str} {amt : Int} {c : Bool} {M0 : Str → List Int}
def IfPost (w : World) (C : C2) (V : V2) (h₀ : Heap) (L : Addr) (m : Str → Option Value) (anc : Led) (b : Nat) (now : Int) (tn : Tok) (nl : Nat) (s : Shared) (fl : Flow) (s' : Shared) : Prop :=
  fl = .next ∧ ∃ (V' : V2) (h' : Heap) (tk' : Nat) (m' : Str → Option Value), s' = { s with heap := h', toks := tk' } ∧ Fr h₀ L h' m' ∧ m' (Str.ofString "kept") = some (.ref V'.kl) ∧ (∀ y, y ≠ Str.ofString "kept" → m' y = m y) ∧
    News h₀ L h' (LT w.params C V' (W.listOf #[.int now tn] nl) (anc ++ V'.own)) ∧ V'.Ok w C (anc ++ V'.own) b ∧ PI2 V'.rows V'.M now ∧ Went V V' anc

theorem if_close {D t : Addr} {nd : Nat} {tk1 tn1 : Tok} {D2 l1 : Addr × Obj} {lnO : Obj} {h' : Heap} (K : V.Ok w C rest (b + 1)) (hz0 : V.rows.length ≤ 5 * b) (ha1 : 1 ≤ amt) (ha5 : amt ≤ 5) (hanc : ∀ q ∈ anc, q ∈ rest) (P0 : PI2 V.rows M0 now) (hM : V.M = acqM M0 k now amt)
    (N9 : News h₀ L h' ((D, W.listOf (V.kv ++ (List.replicate amt.toNat [Value.ref t]).flatten).toArray nd) :: D2 :: l1 :: (t, rowObj k now tk1 tn1) :: LT w.params C V lnO rest))
    (gt : AllLt t rest) (gD : AllLt D rest) (ht : t ≠ C.dV ∧ t ≠ C.ln ∧ t ≠ 141) (hD : D ≠ C.dV ∧ D ≠ C.ln ∧ D ≠ 141) :
    ∃ V' : V2, V'.kl = D ∧ News h₀ L h' (LT w.params C V' lnO (anc ++ V'.own)) ∧ V'.Ok w C (anc ++ V'.own) (b + 1) ∧ PI2 V'.rows V'.M now ∧ Went V V' anc := by
  have g : Grow V.own rest ((D, W.listOf (V.kv ++ (List.replicate amt.toNat [Value.ref t]).flatten).toArray nd) :: (t, rowObj k now tk1 tn1) :: V.own) ((D, W.listOf (V.kv ++ (List.replicate amt.toNat [Value.ref t]).flatten).toArray nd) :: (t, rowObj k now tk1 tn1) :: rest) :=
    ((Grow.refl K.hs).add gt).add gD
  let V' : V2 := { V with kl := D, kv := V.kv ++ (List.replicate amt.toNat [Value.ref t]).flatten, nk := nd, rows := V.rows ++ List.replicate amt.toNat (k, now), own := (D, W.listOf (V.kv ++ (List.replicate amt.toNat [Value.ref t]).flatten).toArray nd) :: (t, rowObj k now tk1 tn1) :: V.own }
  have K2 : V'.Ok w C ((D, W.listOf (V.kv ++ (List.replicate amt.toNat [Value.ref t]).flatten).toArray nd) :: (t, rowObj k now tk1 tn1) :: rest) (b + 1) := by
    have K1 := (K.cons (q := (t, rowObj k now tk1 tn1)) ht).cons (q := (D, W.listOf (V.kv ++ (List.replicate amt.toNat [Value.ref t]).flatten).toArray nd)) hD
    refine ⟨K.hV, K.hM.grow g.b, K.hT.grow g.b, .head _, (K.hr.sub g.b).append (rows_rep (r := (k, now)) ⟨t, tk1, tn1, rfl, .tail _ (.head _)⟩ _), g.c, K1.off, ?_⟩
    show (V.rows ++ List.replicate amt.toNat (k, now)).length ≤ _
    rw [List.length_append, List.length_replicate]
    omega
  have hown : ∀ q ∈ anc ++ V'.own, q ∈ ((D, W.listOf (V.kv ++ (List.replicate amt.toNat [Value.ref t]).flatten).toArray nd) :: (t, rowObj k now tk1 tn1) :: rest) := fun q hq =>
    (List.mem_append.mp hq).elim (fun h => g.a q (hanc q h)) (g.c q)
  refine ⟨V', rfl, lt_sub (V := V') (if_sub N9) hown, K2.shrink (fun q hq => List.mem_append_right _ hq) hown, ?_, .of g hanc⟩
  show PI2 (V.rows ++ List.replicate amt.toNat (k, now)) V.M now
  rw [hM]
  exact P0.put k amt

theorem if_walk
    (B : Below A₀ h₀ [] h₀) (X : (hd02.heap_39 w.params).In h₀) (T : Top p loose mean mg mb h₀) (F : Fr h₀ L s.heap m)
    (m1 : m (Str.ofString "let") = some (.bool c)) (m2 : m (Str.ofString "kept") = some (.ref V.kl)) (m3 : m (Str.ofString "key") = some (.str k tk)) (m4 : m (Str.ofString "amount") = some (.int amt ta))
    (N : News h₀ L s.heap (LT w.params C V (W.listOf #[.int now tn] nl) rest))
    (K : V.Ok w C rest (b + 1)) (O : C.Ok) (hz0 : V.rows.length ≤ 5 * b) (ha1 : 1 ≤ amt) (ha5 : amt ≤ 5) (hanc : ∀ q ∈ anc, q ∈ rest) (P0 : PI2 V.rows M0 now) (hM : V.M = if c = true then acqM M0 k now amt else M0) (hb : b ≤ 60) :
    wpAny (model Challenge.rw_jb0019_02.row.prog w) (ktrTop dp un gd (Str.ofString "law") lawScope L a (.ref 205) [(Str.ofString "moment", C.cl)] []) (exec ifS (envX (Str.ofString "law") lawScope L a (.ref 205) [(Str.ofString "moment", C.cl)])) (IfPost w C V h₀ L m anc (b + 1) now tn nl s) (fun _ _ => False) s := by
  revert X; k_fill; intro X
  have d3 := O.d3
  have off := K.off
  have hkr := K.hs _ K.hk
  have hkz := K.hr.length
  obtain ⟨_, _, o0, o1, o2, o3, o4, o5, o6, lV⟩ := id O
  have hown : ∀ q ∈ anc ++ V.own, q ∈ rest := fun q hq => (List.mem_append.mp hq).elim (hanc q) (K.hs q)
  cases c with
  | false =>
    rw [map4 m1 m2 m3 m4] at F
    conv in ifS => whnf
    conv in (occs := *) lawScope => all_goals whnf
    (try k_fold)
    k_steps
    rename News _ _ _ _ => N9
    refine ⟨rfl, V, _, _, _, rfl, (by k_asm), rfl, fun y _ => congrFun (map4 m1 m2 m3 m4).symm y, lt_sub N9 hown, K.shrink (fun q hq => List.mem_append_right _ hq) hown, ?_, .refl⟩
    rw [hM]; exact P0
  | true =>
    rw [map4 m1 m2 m3 m4] at F
    conv in ifS => whnf
    conv in (occs := *) lawScope => all_goals whnf
    (try k_fold)
    k_steps
    rename News _ _ _ _ => N9
    obtain ⟨V', e1, N2, K2, P2, W2⟩ := if_close K hz0 ha1 ha5 hanc P0 (by rw [hM]; rfl) N9 (by walk_at "allLt") (by walk_at "allLt") ⟨Nat.ne_of_gt (by omega), Nat.ne_of_gt (by omega), Nat.ne_of_gt (by omega)⟩ ⟨Nat.ne_of_gt (by omega), Nat.ne_of_gt (by omega), Nat.ne_of_gt (by omega)⟩
    refine ⟨rfl, V', _, _, _, rfl, (by k_asm), by rw [e1]; rfl, fun y hy => ?_, N2, K2, P2, W2⟩
    have q := congrFun (map4 m1 m2 m3 m4).symm y
    simp only [hy, if_false] at q ⊢
    exact q
end
end Mine

namespace Mine
open PySem PySem.W PySem.Calls PyProof.Rows PyProof.V PySem.Spec

local macro_rules | `(tactic| k_mem) => `(tactic| ((repeat' apply List.mem_cons_of_mem); with_reducible assumption))
local macro_rules | `(tactic| walk_at "call ref") => `(tactic| (k_here; (try dsimp only [List.append_nil, List.cons_append, List.nil_append]); (with_reducible show wpAny _ _ (call (Value.ref 201) [_, _, _] _) _ _ _); k_dflt (refine yng_L (by assumption) (by k_asm) (by k_asm) (by k_asm) (by assumption) (by assumption) (by rfl) (by omega) (by omega) ?_); intro D' ys' ny' rest' h' tk' hy' hD' hr' K' F' N'; have hyl' := hy'.length; have hyl2' := yng_le hy'))
local macro_rules | `(tactic| walk_at "call ref") => `(tactic| (k_here; (try dsimp only [List.append_nil, List.cons_append, List.nil_append]); (with_reducible show wpAny _ _ (call (Value.ref 146) [_, _, _, _] _) _ _ _); k_dflt (refine gmw_L (by assumption) (by k_asm) (by assumption) (by k_asm) (by k_asm) (by assumption) (by assumption) (by assumption) (by assumption) (by rfl) (by omega) (by omega) ?_); intro D' st' tS' tC' V' rest' h' tk' hst' e1' e2' e3' hr' g' K' F' N'; (have hD9 := hr' _ (by assumption))))
local macro_rules | `(tactic| walk_at "call builtin:len") => `(tactic| (k_here; (try dsimp only [List.append_nil, List.cons_append, List.nil_append]); (with_reducible show wpAny _ _ (call (Value.builtin "len") [Value.ref _]) _ _ _); k_dflt (refine len_list (by exact News.list (by k_asm) (by k_mem)) (by (rw [List.size_toArray]; omega)) ?_)))
local macro_rules | `(tactic| walk_at "subscriptTail Name Constant ref int") => `(tactic| (k_here; (with_reducible show wpAny _ _ (subscriptTail _ _ (Value.ref _) (Value.int 0 _)) _ _ _); k_dflt (refine lst_item0 (by k_asm) (by k_mem) ?_ (by with_unfolding_all rfl))))
local macro_rules | `(tactic| walk_at "binaryOp Mult ref int") => `(tactic| (k_here; (with_reducible show wpAny _ _ (binaryOp Operator.Mult (Value.ref _) (Value.int _ _)) _ _ _); k_dflt (refine KMa.mul (by k_asm) (by k_asm) (by is_list) (by omega) (by omega) (by (simp only [List.length_cons, List.length_nil]; omega)) (by exact rfl) ?_; k_whole); intro D' h' F' N' l1; (try k_lt l1)))
local macro_rules | `(tactic| walk_at "binaryOp Add ref ref") => `(tactic| (k_here; (with_reducible show wpAny _ _ (binaryOp Operator.Add (Value.ref _) (Value.ref _)) _ _ _); k_dflt (refine my_add (by k_asm) (by k_asm) (by k_mem) (by k_mem) ?_ (by (simp only [List.length_flatten, List.map_replicate, List.sum_replicate_nat, List.length_cons, List.length_nil]; omega)); k_whole); intro D' h' F' N' l1; (try k_lt l1)))
local macro_rules | `(tactic| walk_at "allLt") => `(tactic| first
  | ((rename (@LT.lt Nat _ _ _) ∧ (@LT.lt Nat _ _ _) ∧ _ => l9); (repeat (first | exact l9 | replace l9 := l9.2)); done)
  | ((rename (@LT.lt Nat _ _ _) ∧ (@LT.lt Nat _ _ _) ∧ _ => l9); clear l9; (rename (@LT.lt Nat _ _ _) ∧ (@LT.lt Nat _ _ _) ∧ _ => l9); (repeat (first | exact l9 | replace l9 := l9.2)); done)
  | ((rename (@LT.lt Nat _ _ _) ∧ (@LT.lt Nat _ _ _) ∧ _ => l9); clear l9; (rename (@LT.lt Nat _ _ _) ∧ (@LT.lt Nat _ _ _) ∧ _ => l9); clear l9; (rename (@LT.lt Nat _ _ _) ∧ (@LT.lt Nat _ _ _) ∧ _ => l9); (repeat (first | exact l9 | replace l9 := l9.2)); done)
  | ((rename (@LT.lt Nat _ _ _) ∧ (@LT.lt Nat _ _ _) ∧ _ => l9); clear l9; (rename (@LT.lt Nat _ _ _) ∧ (@LT.lt Nat _ _ _) ∧ _ => l9); clear l9; (rename (@LT.lt Nat _ _ _) ∧ (@LT.lt Nat _ _ _) ∧ _ => l9); clear l9; (rename (@LT.lt Nat _ _ _) ∧ (@LT.lt Nat _ _ _) ∧ _ => l9); (repeat (first | exact l9 | replace l9 := l9.2)); done))
local macro_rules | `(tactic| walk_at "call ref") => `(tactic| (k_here; (try dsimp only [List.append_nil, List.cons_append, List.nil_append]); (with_reducible show wpAny _ _ (call (Value.ref 132) [_, _, _, _, _] _) _ _ _); k_dflt (refine' acq_L ?mB ?mX ?mT ?mF ?mN ?mK ?mO ?mP ?mk ?md ?mb ?ma1 ?ma5 ?ml0 ?ml5 ?m7 ?_; (case mN => assumption); (case mK => assumption); (case mO => assumption); (case mP => assumption); (case mB => assumption); (case mX => k_asm); (case mT => k_asm); (case mF => k_asm); (case mk => rfl); (case md => omega); (case mb => omega); (case ma1 => omega); (case ma5 => omega); (case ml0 => omega); (case ml5 => omega); (case m7 => assumption)); intro V' rest' h' tk' e1' e2' e3' e4' e5' hr' g' K' F' N'))
def MyStopA (P : Prop) : Prop := P
theorem MyStopA.mk {P : Prop} (h : MyStopA P) : P := h
local macro_rules | `(tactic| walk_at "exec If") => `(tactic| ((with_reducible show wpAny _ _ (exec (Stmt.If (Expr.Name (Str.ofString "let") _) _ _ _) _) _ _ _); refine MyStopA.mk ?_))

theorem fmod8_in (n : Int) : 0 ≤ n.fmod 8 ∧ n.fmod 8 < 8 := ⟨Int.fmod_nonneg_of_pos n (by decide), Int.fmod_lt_of_pos n (by decide)⟩
theorem fmod6_in (n : Int) : 0 ≤ n.fmod 6 ∧ n.fmod 6 < 6 := ⟨Int.fmod_nonneg_of_pos n (by decide), Int.fmod_lt_of_pos n (by decide)⟩
theorem fmod5_in (n : Int) : 0 ≤ n.fmod 5 ∧ n.fmod 5 < 5 := ⟨Int.fmod_nonneg_of_pos n (by decide), Int.fmod_lt_of_pos n (by decide)⟩
theorem menu_steps (n : Int) : (0 : Int) ≤ ([0, 0, 7, 7, 14, 21, 35, 63] : List Int).getD (n.fmod 8).toNat 0 ∧ (([0, 0, 7, 7, 14, 21, 35, 63] : List Int).getD (n.fmod 8).toNat 0) % 7 = 0 := by
  have h := fmod8_in n
  have h1 : (n.fmod 8).toNat < 8 := by omega
  generalize (n.fmod 8).toNat = k at h1 ⊢
  rcases k with _ | _ | _ | _ | _ | _ | _ | _ | k <;> first | decide | omega
theorem menu_lens (n : Int) : (([5, 10, 20, 33, 60, 120] : List Int).getD (n.fmod 6).toNat 0) % 7 ≠ 0 := by
  have h := fmod6_in n
  have h1 : (n.fmod 6).toNat < 6 := by omega
  generalize (n.fmod 6).toNat = k at h1 ⊢
  rcases k with _ | _ | _ | _ | _ | _ | k <;> first | decide | omega

def TurnPost (w : World) (C : C2) (V : V2) (h₀ : Heap) (L : Addr) (anc : Led) (b : Nat) (s : Shared) (fl : Flow) (s' : Shared) : Prop :=
  fl = .next ∧ ∃ (V' : V2) (h' : Heap) (tk' : Nat) (m' : Str → Option Value) (now' : Int) (tn' : Tok) (nl' : Nat), s' = { s with heap := h', toks := tk' } ∧ Fr h₀ L h' m' ∧ m' (Str.ofString "right") = some (.bool true) ∧ m' (Str.ofString "kept") = some (.ref V'.kl) ∧
    m' (Str.ofString "store") = some (.ref C.x) ∧ News h₀ L h' (LT w.params C V' (W.listOf #[.int now' tn'] nl') (anc ++ V'.own)) ∧ V'.Ok w C (anc ++ V'.own) b ∧ PI2 V'.rows V'.M now' ∧ Went V V' anc

section
variable {w : World} {p : Program} {loose : List Str} {mean : ExcName → Option Value} {mg mb : Str → Option Value}
  {dp un : Nat} {gd : Option (List Code)} {a : Addr} {A₀ : Around} {h₀ : Heap} {L : Addr} {m u : Str → Option Value} {s : Shared}
  {C : C2} {V : V2} {anc : Led} {b : Nat} {now : Int} {tn tN : Tok} {nl : Nat} {n : Int}

theorem map2 {k1 k2 : Str} {v1 v2 : Value} {m : Str → Option Value} (h1 : m k1 = some v1) (h2 : m k2 = some v2) : m = fun y => if y = k1 then some v1 else if y = k2 then some v2 else m y := by
  funext y
  by_cases e1 : y = k1; · simp [e1, h1]
  by_cases e2 : y = k2; · subst e2; simp [e1, h2]
  simp [e1, e2]
local macro_rules | `(tactic| walk_at "exec For Name Tuple cons nil") => `(tactic| (k_here; (rename Fr _ _ _ _ => lF'); (with_unfolding_all refine' For_turns lF' ?_ ?hs ?hE; (case hs => (intro _; rfl)); (case hE => exact PassesOwn.never)); k_whole))
theorem for_walk {k : Str} {tk t2 t3 : Tok} {lim len : Int}
    (B : Below A₀ h₀ [] h₀) (X : (hd02.heap_39 w.params).In h₀) (CH : CodeHd h₀ 145 141) (T : Top p loose mean mg mb h₀) (F : Fr h₀ L s.heap m)
    (m0 : m (Str.ofString "length") = some (.int len t3)) (m1 : m (Str.ofString "n") = some (.int n tN))
    (m2 : m (Str.ofString "right") = some (.bool true)) (m3 : m (Str.ofString "key") = some (.str k tk)) (m4 : m (Str.ofString "kept") = some (.ref V.kl))
    (m5 : m (Str.ofString "store") = some (.ref C.x)) (m6 : m (Str.ofString "limit") = some (.int lim t2))
    (N : News h₀ L s.heap (LT w.params C V (W.listOf #[.int now tn] nl) (anc ++ V.own)))
    (K : V.Ok w C (anc ++ V.own) b) (O : C.Ok) (P : PI2 V.rows V.M now) (hb : b ≤ 64) (hd : dp + 7 < recursionLimit) :
    wpAny (model Challenge.rw_jb0019_02.row.prog w) (ktrTop dp un gd (Str.ofString "law") lawScope L a (.ref 205) [(Str.ofString "moment", C.cl)] []) (execs [forS] (envX (Str.ofString "law") lawScope L a (.ref 205) [(Str.ofString "moment", C.cl)])) (TurnPost w C V h₀ L anc b s) (fun _ _ => False) s := by
  revert X; k_fill; intro X
  have em := map2 m0 m1
  rw [em] at F
  conv in forS => whnf
  conv in (occs := *) lawScope => all_goals whnf
  (try k_fold)
  k_steps
  rename Fr _ _ _ _ => F9
  rename News _ _ _ _ => N9
  rw [← em] at F9
  refine for_iter (V := V) (anc := anc) (k := k) (lim := lim) B X CH T F9 m2 m3 m4 m5 m6 (pull1 N9) rfl rfl (.cons _ _ (.cons _ _ .nil)) (K.cons ⟨Nat.ne_of_gt (by omega), Nat.ne_of_gt (by omega), Nat.ne_of_gt (by omega)⟩) O P hb (by omega) ?_
  intro V' h' tk' m' F' r' u' N' K' e1 e2 e3 W'
  clear F9 N9
  k_steps
  rename News _ _ _ _ => N9
  exact ⟨rfl, V', _, _, _, now, tn, nl, rfl, by k_asm, r', by rw [e1]; exact (u' _ (by decide) (by decide) (by decide) (by decide) (by decide)).trans m4, (u' _ (by decide) (by decide) (by decide) (by decide) (by decide)).trans m5, N9, K', by rw [e2, e3]; exact P, W'⟩

theorem turn_walk
    (B : Below A₀ h₀ [] h₀) (X : (hd02.heap_39 w.params).In h₀) (CH : CodeHd h₀ 145 141) (T : Top p loose mean mg mb h₀)
    (F : Fr h₀ L s.heap (fun y => if y = Str.ofString "n" then some (.int n tN) else if y = Str.ofString "right" then some (.bool true) else if y = Str.ofString "kept" then some (.ref V.kl) else if y = Str.ofString "store" then some (.ref C.x) else u y))
    (N : News h₀ L s.heap (LT w.params C V (W.listOf #[.int now tn] nl) (anc ++ V.own)))
    (K : V.Ok w C (anc ++ V.own) b) (O : C.Ok) (P : PI2 V.rows V.M now) (hb : b ≤ 60) (hd : dp + 7 < recursionLimit) :
    wpAny (model Challenge.rw_jb0019_02.row.prog w) (ktrTop dp un gd (Str.ofString "law") lawScope L a (.ref 205) [(Str.ofString "moment", C.cl)] []) (execs turnB (envX (Str.ofString "law") lawScope L a (.ref 205) [(Str.ofString "moment", C.cl)])) (TurnPost w C V h₀ L anc (b + 1) s) (fun _ _ => False) s := by
  revert X; k_fill; intro X
  have hz := K.hz
  have d3 := O.d3
  have off := K.off
  obtain ⟨_, _, o0, o1, o2, o3, o4, o5, o6, lV⟩ := id O
  have hst := menu_steps n
  have P1 := P.later hst.1 hst.2
  have h7 := menu_lens (n.fdiv 16)
  have f1 := fmod6_in (n.fdiv 96)
  have f2 := fmod5_in (n.fdiv 576)
  generalize hrest : anc ++ V.own = rest at N K off
  conv in turnB => whnf
  conv in (occs := *) lawScope => all_goals whnf
  (try k_fold)
  k_steps
  show wpAny _ _ _ _ _ _
  rename Fr _ _ _ _ => F9
  rename News _ _ _ _ => N9
  rename V2 => V1
  rename Grow _ _ _ _ => g1
  rename V2.Ok _ _ V1 _ _ => K1
  with_reducible rename V2.kl _ = V2.kl _ => e1
  with_reducible rename V2.rows _ = V2.rows _ => e4
  with_reducible rename V2.M _ = _ => eM
  with_reducible rename ∀ q ∈ rest, q ∈ _ => hr1
  with_reducible rename ∀ q ∈ _, q ∈ _ => hr9
  with_reducible rename List.length _ = List.length (younger _ _ _) => hyl
  simp only [List.size_toArray, hyl] at F9
  refine wpAny_mono (if_walk (anc := anc) (b := b) (V := V1) (M0 := V.M) B X T F9 rfl (by rw [e1]; rfl) rfl rfl N9 K1 O (by rw [e4]; exact hz) (by omega) (by omega) (fun q hq => hr9 q (hr1 q (hrest ▸ List.mem_append_left _ hq))) (by rw [e4]; exact P1) (by rw [eM]; simp only [decide_eq_true_eq]) hb) (fun fl s' hp => ?_) (fun _ _ h => h)
  obtain ⟨rfl, V3, h3', tk3, m3, rfl, F3, k3, u3, N3, K3, P3, W3⟩ := hp
  have right3 : m3 (Str.ofString "right") = some (.bool true) := (u3 _ (by decide)).trans (by show some (Value.bool _) = some (Value.bool true); rw [beq_self_eq_true])
  obtain ⟨tk3', key3⟩ : ∃ t, m3 (Str.ofString "key") = some (.str (Txt.item (Str.ofString "ab") ((n.fdiv 8).fmod 2)) t) := ⟨_, (u3 _ (by decide)).trans rfl⟩
  have store3 : m3 (Str.ofString "store") = some (.ref C.x) := (u3 _ (by decide)).trans rfl
  obtain ⟨lim3, tl3, limit3⟩ : ∃ z t, m3 (Str.ofString "limit") = some (.int z t) := ⟨_, _, (u3 _ (by decide)).trans rfl⟩
  obtain ⟨le3, te3, len3⟩ : ∃ z t, m3 (Str.ofString "length") = some (.int z t) := ⟨_, _, (u3 _ (by decide)).trans rfl⟩
  have n3 : m3 (Str.ofString "n") = some (.int n tN) := (u3 _ (by decide)).trans rfl
  clear u3 F9 N9 K1 eM hyl
  have W13 : Went V V3 anc := (Went.of (g1.pre hr1) (fun q hq => hrest ▸ List.mem_append_left _ hq)).trans W3
  clear W3 g1
  refine wpAny_mono (for_walk B X CH T F3 len3 n3 right3 key3 k3 store3 limit3 N3 K3 O P3 (by omega) hd) (fun fl s' hp => ?_) (fun _ _ h => h)
  obtain ⟨rfl, V4, h4', tk4, m4, now4, tn4, nl4, rfl, F4, r4, k4, s4, N4, K4, P4, W4⟩ := hp
  exact ⟨rfl, V4, h4', tk4, m4, now4, tn4, nl4, rfl, F4, r4, k4, s4, N4, K4, P4, W13.trans W4⟩
end
end Mine

namespace Mine
open PySem PySem.W PySem.Calls PyProof.Rows PyProof.V PySem.Spec

theorem map4n {k0 k1 k2 k3 : Str} {v0 v1 v2 v3 : Value} {m : Str → Option Value} (h1 : m k1 = some v1) (h2 : m k2 = some v2) (h3 : m k3 = some v3) :
    (fun y => if y = k0 then some v0 else m y) = fun y => if y = k0 then some v0 else if y = k1 then some v1 else if y = k2 then some v2 else if y = k3 then some v3 else m y := by
  funext y
  by_cases e0 : y = k0; · simp [e0]
  by_cases e1 : y = k1; · subst e1; simp [e0, h1]
  by_cases e2 : y = k2; · subst e2; simp [e0, e1, h2]
  by_cases e3 : y = k3; · subst e3; simp [e0, e1, e2, h3]
  simp [e0, e1, e2, e3]
section
variable {w : World} {p : Program} {loose : List Str} {mean : ExcName → Option Value} {mg mb : Str → Option Value}
  {dp un : Nat} {gd : Option (List Code)} {a : Addr} {A₀ : Around} {h₀ : Heap} {L : Addr} {m : Str → Option Value} {s : Shared} {E : Value → Shared → Prop} {Q : Flow → Shared → Prop}
  {C : C2} {V : V2} {now : Int} {tn : Tok} {nl : Nat} {D : Addr} {ws : List Value} {ns : List Int} {nD : Nat} {pn : Pos}

theorem law_iter
    (B : Below A₀ h₀ [] h₀) (X : (hd02.heap_39 w.params).In h₀) (CH : CodeHd h₀ 145 141) (T : Top p loose mean mg mb h₀) (F : Fr h₀ L s.heap m)
    (m2 : m (Str.ofString "right") = some (.bool true)) (m4 : m (Str.ofString "kept") = some (.ref V.kl)) (m5 : m (Str.ofString "store") = some (.ref C.x))
    (N : News h₀ L s.heap (LT w.params C V (W.listOf #[.int now tn] nl) ((D, W.listOf ws.toArray nD) :: V.own))) (hi : IntsAre ws ns) (hlen : ns.length ≤ 60)
    (K : V.Ok w C ((D, W.listOf ws.toArray nD) :: V.own) 0) (O : C.Ok) (P : PI2 V.rows V.M now) (hd : dp + 7 < recursionLimit)
    (done : ∀ (V' : V2) h' tk' m' now' tn' nl', Fr h₀ L h' m' → m' (Str.ofString "right") = some (.bool true) →
      News h₀ L h' (LT w.params C V' (W.listOf #[.int now' tn'] nl') ((D, W.listOf ws.toArray nD) :: V'.own)) → (∀ q ∈ V.own, q ∈ V'.own) → Q .next { s with heap := h', toks := tk' }) :
    wpAny (model Challenge.rw_jb0019_02.row.prog w) (ktrTop dp un gd (Str.ofString "law") lawScope L a (.ref 205) [(Str.ofString "moment", C.cl)] []) (pyIter (.ref D))
      (fun i9 s₂ => TurnsAt Challenge.rw_jb0019_02.row.prog w (ktrTop dp un gd (Str.ofString "law") lawScope L a (.ref 205) [(Str.ofString "moment", C.cl)] []) h₀ (envX (Str.ofString "law") lawScope L a (.ref 205) [(Str.ofString "moment", C.cl)]) (.Name (Str.ofString "n") pn) turnB Q E i9 s₂) E s := by
  refine iter_listTurns rfl F N (lt_rest (.head _)) rfl rfl (fun I hI => ?_)
  have ap := apart8_of hI
  have ax0 : D ≠ I := Nat.ne_of_lt (hI _ (lt_rest (.head _)))
  have ow0 : ∀ p ∈ V.own, p.1 ≠ I := fun p hp => Nat.ne_of_lt (hI _ (lt_rest (.tail _ hp)))
  refine itemsRest_indG (ic := "list_iterator") (fun r m' news => ∃ (V' : V2) (b' : Nat) (ns' : List Int) (now' : Int) (tn' : Tok) (nl' : Nat), IntsAre r ns' ∧ b' + ns'.length ≤ 60 ∧ news = LT w.params C V' (W.listOf #[.int now' tn'] nl') ((D, W.listOf ws.toArray nD) :: V'.own) ∧
    V'.Ok w C ((D, W.listOf ws.toArray nD) :: V'.own) b' ∧ (∀ p ∈ V'.own, p.1 ≠ I) ∧ PI2 V'.rows V'.M now' ∧ m' (Str.ofString "right") = some (.bool true) ∧ m' (Str.ofString "kept") = some (.ref V'.kl) ∧ m' (Str.ofString "store") = some (.ref C.x) ∧ (∀ q ∈ V.own, q ∈ V'.own)) ?_ ?_ ?_ _ _ _ ?_
  · rintro r m' news ⟨V', b', ns', now', tn', nl', _, _, rfl, _⟩
    exact lt_rest (.head _)
  · rintro v r m' news ⟨V', b', ns', now', tn', nl', hr, hb, rfl, K1, ow1, P1, r1, k1, s1, o1⟩ h tk1 it hit F1 N1
    cases hr with
    | @cons i t vs3 ns3 hr =>
    simp only [List.length_cons] at hb
    refine wpAny_assign_Name (storeX_L F1 N1 (fun h' F2 N2 => ?_) rfl rfl)
    rw [map4n r1 k1 s1] at F2
    have N3 := pull1 N2
    have K2 : V'.Ok w C ([(I, it), (D, W.listOf ws.toArray nD)] ++ V'.own) b' := K1.cons (q := (I, it)) ⟨ap.1.symm, ap.2.1.symm, ap.2.2.1.symm⟩
    refine wpAny_noRaise (wpAny_mono (turn_walk (anc := [(I, it), (D, W.listOf ws.toArray nD)]) B X CH T F2 N3 K2 O P1 (by omega) hd) (fun f s' hp => ?_) fun _ _ h => h)
    obtain ⟨rfl, V3, h3, tk3, m3', now3, tn3, nl3, rfl, F3, r3, k3, s3, N4, K3, P3, W3⟩ := hp
    have ow3 : ∀ p ∈ V3.own, p.1 ≠ I := W3.apart I ⟨it, .head _⟩ ow1
    refine ⟨h3, tk3, m3', LT w.params C V3 (W.listOf #[.int now3 tn3] nl3) ((D, W.listOf ws.toArray nD) :: V3.own), rfl, F3, ?_, ?_, V3, b' + 1, ns3, now3, tn3, nl3, hr, by omega, rfl,
      K3.shrink (fun p hp => .tail _ hp) (fun p hp => .tail _ hp), ow3, P3, r3, k3, s3, fun q hq => W3.sub q (o1 q hq)⟩
    · intro q hq'
      rcases List.mem_cons.mp hq' with rfl | hq'
      · exact N4 _ (lt_rest (.head _))
      · exact lt_sub N4 (fun p hp => .tail _ hp) q hq'
    · intro q hq' z hz
      rw [List.mem_singleton.mp hz]
      refine lt_apart ap ?_ q hq'
      intro p hp
      rcases List.mem_cons.mp hp with rfl | hp
      · exact ax0
      · exact ow3 _ hp
  · rintro m' news ⟨V', b', ns', now', tn', nl', hr, hb, rfl, K1, ow1, P1, r1, k1, s1, o1⟩ h tk1 F1 N1
    exact done V' h tk1 m' now' tn' nl' F1 r1 N1 o1
  · exact ⟨V, 0, ns, now, tn, nl, hi, by omega, rfl, K, ow0, P, m2, m4, m5, fun _ h => h⟩
end
end Mine

namespace Mine
open PySem PySem.W PySem.Calls PyProof.Rows PyProof.V PySem.Spec

theorem map1 {k1 : Str} {v1 : Value} {m : Str → Option Value} (h1 : m k1 = some v1) : m = fun y => if y = k1 then some v1 else m y := by
  funext y
  by_cases e1 : y = k1
  · simp [e1, h1]
  · simp [e1]
theorem take_len (l : List Int) (f : Int → Int) : ((l.take 16).map f ++ [0, 2311, 100]).length ≤ 60 := by
  have h := List.length_take_le 16 l
  rw [List.length_append, List.length_map]
  simp only [List.length_cons, List.length_nil]
  omega
theorem pi2_start : PI2 [] (fun _ => []) 700000 := ⟨fun _ => rfl, .nil, fun _ h => (nomatch h), fun _ h => (nomatch h), by decide⟩
section
variable {w : World} {p : Program} {loose : List Str} {mean : ExcName → Option Value} {mg mb : Str → Option Value}
  {dp un : Nat} {gd : Option (List Code)} {a : Addr} {A₀ : Around} {h₀ : Heap} {L : Addr} {m : Str → Option Value} {s : Shared} {E : Value → Shared → Prop} {Q : Flow → Shared → Prop}
  {tn : Tok} {nl nD nk : Nat} {D kl : Addr} {ws : List Value} {ns : List Int} {pn : Pos} {dS dE dV ln x dx f c cl : Addr} {t1 t2 t3 t4 t : Tok} {p1 p2 p3 : Pos} {qual : Str} {pm ctv : Value} {oc ocl oV : Obj} {vs : Array Value} {e1 e2 e3 e5 e6 : Addr × Obj} {ps3 : Array Value}
theorem law_start
    (B : Below A₀ h₀ [] h₀) (X : (hd02.heap_39 w.params).In h₀) (CH : CodeHd h₀ 145 141) (T : Top p loose mean mg mb h₀) (F : Fr h₀ L s.heap m)
    (m2 : m (Str.ofString "right") = some (.bool true)) (m4 : m (Str.ofString "kept") = some (.ref kl)) (m5 : m (Str.ofString "store") = some (.ref x))
    (N : News h₀ L s.heap [(kl, W.listOf #[] nk), (dV, oV), e5, e6, (x, instObj 192 dx),
      (dx, W.dictOf [{ hash := PyData.keyHash w.params (Str.ofString "clock"), key := .str (Str.ofString "clock") t1, val := .ref f }, { hash := PyData.keyHash w.params (Str.ofString "storage"), key := .str (Str.ofString "storage") t2, val := .ref dS },
        { hash := PyData.keyHash w.params (Str.ofString "expirations"), key := .str (Str.ofString "expirations") t3, val := .ref dE }, { hash := PyData.keyHash w.params (Str.ofString "events"), key := .str (Str.ofString "events") t4, val := .ref dV }] 4),
      (f, lamObj2 p1 p2 p3 qual cl c pm ctv), (c, oc), (ln, W.listOf #[.int 700000 tn] nl), (D, W.listOf ws.toArray nD), e1, e2, e3, (cl, ocl), (141, tabObj #[]), (203, tabObj ps3)])
    (d1 : oc.data = .fields vs) (d2 : vs[1]? = some (.str qual t)) (d3 : ocl.data = .cell (some (.ref ln)))
    (o00 : @LT.lt Nat _ 203 cl) (o0 : @LT.lt Nat _ 141 cl) (o1 : @LT.lt Nat _ cl ln) (o2 : @LT.lt Nat _ ln c) (o3 : @LT.lt Nat _ c f) (o4 : @LT.lt Nat _ f dx) (o5 : @LT.lt Nat _ dx x) (o6 : @LT.lt Nat _ x dV) (q1 : @LT.lt Nat _ dV kl) (q2 : @LT.lt Nat _ cl D) (q3 : @LT.lt Nat _ D ln)
    (lV : (dV == sysModules) = false) (hV : oV.IsDictOf (PySem.strKind Challenge.rw_jb0019_02.row.prog w) []) (hi : IntsAre ws ns) (hlen : ns.length ≤ 60) (hd : dp + 7 < recursionLimit)
    (done : ∀ h' tk' (m' : Str → Option Value) (ps1 : Array Value), Fr h₀ L h' (fun y => if y = Str.ofString "right" then some (.bool true) else m' y) → News h₀ L h' [(141, tabObj ps1), (203, tabObj ps3)] → Q .next { s with heap := h', toks := tk' }) :
    wpAny (model Challenge.rw_jb0019_02.row.prog w) (ktrTop dp un gd (Str.ofString "law") lawScope L a (.ref 205) [(Str.ofString "moment", cl)] []) (pyIter (.ref D))
      (fun i9 s₂ => TurnsAt Challenge.rw_jb0019_02.row.prog w (ktrTop dp un gd (Str.ofString "law") lawScope L a (.ref 205) [(Str.ofString "moment", cl)] []) h₀ (envX (Str.ofString "law") lawScope L a (.ref 205) [(Str.ofString "moment", cl)]) (.Name (Str.ofString "n") pn) turnB Q E i9 s₂) E s := by
  refine law_iter (C := ⟨dS, dE, dV, ln, x, dx, f, c, cl, t1, t2, t3, t4, p1, p2, p3, qual, pm, ctv, oc, ocl⟩) (V := ⟨kl, [], nk, [], fun _ => [], fun _ => none, oV, #[], [(kl, W.listOf #[] nk), (203, tabObj ps3)]⟩) (now := 700000) (tn := tn) (nl := nl) (nD := nD)
    B X CH T F m2 m4 m5 ?_ hi hlen ?_ ⟨⟨vs, t, d1, d2⟩, d3, o0, o1, o2, o3, o4, o5, o6, lV⟩ pi2_start hd ?_
  · (repeat (refine List.forall_mem_cons.mpr ⟨N _ (by k_memK), ?_⟩))
    exact List.forall_mem_nil _
  · refine ⟨⟨[], hV, Nat.le_refl _, fun y => rfl⟩, fun k => rfl, .inl rfl, .head _, .nil, fun p hp => .tail _ hp, ?_, Nat.le_refl _⟩
    intro p hp z hz
    rcases List.mem_cons.mp hp with rfl | hp
    · rcases List.mem_cons.mp hz with rfl | hz
      · exact Nat.ne_of_lt (by omega)
      rcases List.mem_cons.mp hz with rfl | hz
      · exact Nat.ne_of_lt q3
      · rw [List.mem_singleton.mp hz]; exact Nat.ne_of_gt (by omega)
    rcases List.mem_cons.mp hp with rfl | hp
    · rcases List.mem_cons.mp hz with rfl | hz
      · exact Nat.ne_of_gt q1
      rcases List.mem_cons.mp hz with rfl | hz
      · exact Nat.ne_of_gt (by omega)
      · rw [List.mem_singleton.mp hz]; exact Nat.ne_of_gt (by omega)
    · rw [List.mem_singleton.mp hp]
      rcases List.mem_cons.mp hz with rfl | hz
      · exact Nat.ne_of_lt (by omega)
      rcases List.mem_cons.mp hz with rfl | hz
      · exact Nat.ne_of_lt (by omega)
      · rw [List.mem_singleton.mp hz]; exact Nat.ne_of_gt (show @LT.lt Nat _ 141 203 by decide)
  · intro V' h' tk' m' now' tn' nl' F' r' N' o'
    rw [map1 r'] at F'
    exact done h' tk' m' V'.ps F' (List.forall_mem_cons.mpr ⟨N' _ (.tail _ (.tail _ (.head _))), List.forall_mem_cons.mpr ⟨N' _ (lt_rest (.tail _ (o' _ (.tail _ (.head _))))), List.forall_mem_nil _⟩⟩)
end
local macro_rules | `(tactic| walk_at "exec For Name Name cons nil") => `(tactic| (k_here; (rename Fr _ _ _ _ => lF'); (with_unfolding_all refine' For_turns lF' ?_ ?hs ?hE; (case hs => (intro _; rfl)); (case hE => passes_own)); k_whole))
theorem lawHolds : PySem.Challenge.rw_jb0019_02.Holds := hd02 (by
  w_strict (k_go0; (all_goals try k_fold); k_steps)
  all_goals
    refine' law_start ?B ?X ?CH ?T ?F ?m2 ?m4 ?m5 ?N ?d1 ?d2 ?d3 ?o00 ?o0 ?o1 ?o2 ?o3 ?o4 ?o5 ?o6 ?q1 ?q2 ?q3 ?lV ?hV ?hi ?hlen ?hd ?done
    case N => k_asm
    case F => k_asm
    case m2 => rfl
    case m4 => rfl
    case m5 => rfl
    case B => k_asm
    case X => k_asm
    case CH => assumption
    case T => k_asm
    case d1 => assumption
    case d2 => assumption
    case d3 => assumption
    case o00 => omega
    case o0 => omega
    case o1 => omega
    case o2 => omega
    case o3 => omega
    case o4 => omega
    case o5 => omega
    case o6 => omega
    case q1 => omega
    case q2 => omega
    case q3 => omega
    case lV => assumption
    case hV => assumption
    case hi => assumption
    case hlen => exact take_len _ _
    case hd => ktr_room
    case done =>
      intro h9 tk9 m9 ps9 F9 N9
      k_steps)
end Mine

theorem PySem.Challenge.cw_jb0019_02_holds : PySem.Challenge.rw_jb0019_02.Holds := by
  exact Mine.lawHolds
