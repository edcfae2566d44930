import PyProof.Rows.All
import Wide.All
import OpenK.AllK
import Wide.FinOn
import PySem.Challenge.RW_jb0019_01
open PySem PySem.W PyProof.Rows
set_option Elab.async false
set_option maxRecDepth 100000
set_option linter.unusedVariables false
set_option compiler.extract_closed false
set_option genSizeOf false
set_option genInjectivity false
set_option maxHeartbeats 8000000
namespace Mine
open_top hd01 for PySem.Challenge.rw_jb0019_01
end Mine

namespace Mine
open PySem PySem.W PySem.Calls PyProof.Rows PyProof.V PySem.Spec

abbrev Led := List (Addr × Obj)
abbrev FM := Str → Option Int
def FM.set (f : FM) (k : Str) (n : Int) : FM := fun y => if y = k then some n else f y
def FM.del (f : FM) (k : Str) : FM := fun y => if y = k then none else f y
def FM.nil : FM := fun _ => none

/-- the pairs of a dict, told as a partial function to ints -/
def RepI (kvs : List (Str × Value)) (f : FM) : Prop :=
  ∀ k, match f k with
    | none => valueAt kvs k = none
    | some n => ∃ t, valueAt kvs k = some (.int n t)
def DictI (prog : Program) (w : World) (o : Obj) (f : FM) (b : Nat) : Prop :=
  ∃ kvs, o.IsDictOf (PySem.strKind prog w) kvs ∧ kvs.length ≤ b ∧ RepI kvs f

theorem RepI.none {kvs : List (Str × Value)} {f : FM} {k : Str} (h : RepI kvs f) (e : f k = none) : valueAt kvs k = none := by
  have := h k; rw [e] at this; exact this
theorem RepI.some {kvs : List (Str × Value)} {f : FM} {k : Str} {n : Int} (h : RepI kvs f) (e : f k = some n) : ∃ t, valueAt kvs k = some (.int n t) := by
  have := h k; rw [e] at this; exact this
theorem RepI.nil : RepI [] FM.nil := fun _ => rfl

theorem valueAt_cons (p : Str × Value) (r : List (Str × Value)) (k : Str) : valueAt (p :: r) k = if p.1 = k then some p.2 else valueAt r k := by
  simp only [valueAt, List.find?_cons]
  by_cases h : p.1 = k
  · simp [h]
  · simp [h]
theorem valueAt_without (kvs : List (Str × Value)) (k y : Str) : valueAt (without kvs k) y = if y = k then none else valueAt kvs y := by
  induction kvs with
  | nil => simp [without, valueAt]
  | cons p r ih =>
    unfold without at ih ⊢
    rw [List.filter_cons]
    by_cases hp : p.1 = k
    · rw [if_neg (by simp [hp]), ih, valueAt_cons]
      by_cases hy : y = k
      · simp [hy]
      · have h2 : ¬ p.1 = y := fun e => hy (e.symm.trans hp)
        simp [hy, h2]
    · rw [if_pos (by simp [hp]), valueAt_cons, ih, valueAt_cons]
      by_cases hy : y = k
      · subst hy; simp [hp]
      · simp [hy]
theorem valueAt_append (a b : List (Str × Value)) (y : Str) : valueAt (a ++ b) y = (valueAt a y).or (valueAt b y) := by
  induction a with
  | nil => simp [valueAt]
  | cons p r ih =>
    rw [List.cons_append, valueAt_cons, valueAt_cons, ih]
    by_cases h : p.1 = y <;> simp [h]
theorem valueAt_mapset (kvs : List (Str × Value)) (k : Str) (v : Value) (y : Str) :
    valueAt (kvs.map fun kv => if kv.1 = k then (kv.1, v) else kv) y = if y = k then (if (valueAt kvs k).isSome = true then some v else none) else valueAt kvs y := by
  induction kvs with
  | nil => simp [valueAt]
  | cons p r ih =>
    rw [List.map_cons, valueAt_cons, ih, valueAt_cons, valueAt_cons]
    by_cases hp : p.1 = k
    · subst hp
      by_cases hy : y = p.1
      · subst hy; simp
      · simp [hy, Ne.symm hy]
    · by_cases hy : y = k
      · subst hy; simp [hp]
      · simp [hy, hp]
theorem valueAt_stored (kvs : List (Str × Value)) (k : Str) (v : Value) (y : Str) : valueAt (stored kvs k v) y = if y = k then some v else valueAt kvs y := by
  have hany : (kvs.any fun kv => decide (kv.1 = k)) = (valueAt kvs k).isSome := by
    induction kvs with
    | nil => rfl
    | cons p r ih => rw [List.any_cons, ih, valueAt_cons]; by_cases h : p.1 = k <;> simp [h]
  unfold stored
  by_cases h : (kvs.any fun kv => decide (kv.1 = k)) = true
  · rw [if_pos h, valueAt_mapset]
    rw [hany] at h
    by_cases hy : y = k
    · simp [hy, h]
    · simp [hy]
  · rw [if_neg h, valueAt_append]
    rw [hany] at h
    by_cases hy : y = k
    · subst hy
      have h' : valueAt kvs y = none := by cases q : valueAt kvs y with
        | none => rfl
        | some _ => rw [q] at h; simp at h
      rw [h']; simp [valueAt]
    · have : valueAt [(k, v)] y = none := by simp [valueAt, Ne.symm hy]
      rw [this, if_neg hy]; simp
theorem length_without (kvs : List (Str × Value)) (k : Str) : (without kvs k).length ≤ kvs.length := List.length_filter_le _ _
theorem length_stored (kvs : List (Str × Value)) (k : Str) (v : Value) : (stored kvs k v).length ≤ kvs.length + 1 := by
  unfold stored; split
  · rw [List.length_map]; omega
  · rw [List.length_append]; simp
theorem RepI.set {kvs : List (Str × Value)} {f : FM} (h : RepI kvs f) (k : Str) (n : Int) (t : Tok) : RepI (stored kvs k (.int n t)) (f.set k n) := by
  intro y
  rw [valueAt_stored]
  unfold FM.set
  by_cases hy : y = k
  · simp only [if_pos hy]; exact ⟨t, rfl⟩
  · simp only [if_neg hy]; exact h y
theorem RepI.del {kvs : List (Str × Value)} {f : FM} (h : RepI kvs f) (k : Str) : RepI (without kvs k) (f.del k) := by
  intro y
  rw [valueAt_without]
  unfold FM.del
  by_cases hy : y = k
  · simp only [if_pos hy]
  · simp only [if_neg hy]; exact h y
theorem FM.set_self {f : FM} {k : Str} {n : Int} : f.set k n k = some n := if_pos rfl
theorem FM.set_get {f : FM} {k : Str} {n : Int} {d : Int} : (f.set k n k).getD d = n := by rw [FM.set_self]; rfl
theorem FM.del_none {f : FM} {k : Str} (h : f k = none) : f.del k = f := by
  funext y; unfold FM.del; by_cases e : y = k
  · subst e; simp [h]
  · simp [e]

section
variable {prog : Program} {w : World} {A : Around} {E : Value → Shared → Prop} {s : Shared} {h₀ : Heap} {L d : Addr} {m : Str → Option Value} {news : Led} {g : Obj → Led} {o : Obj} {f : FM} {b : Nat} {k : Str} {tk : Tok}

theorem dI_method_get {pl : Sem Bool} {Q : Value × List Value → Shared → Prop} (N : News h₀ L s.heap news) (hp : (d, o) ∈ news) (hd : DictI prog w o f b) (h : Q (.builtin "dict.get", [.ref d]) s) : wpAny (model prog w) A (getMethod (.ref d) "get" pl) Q E s := by
  obtain ⟨kvs, hd, _, _⟩ := hd
  exact kdg_method N hp hd h
theorem dI_method_pop {pl : Sem Bool} {Q : Value × List Value → Shared → Prop} (N : News h₀ L s.heap news) (hp : (d, o) ∈ news) (hd : DictI prog w o f b) (h : Q (.builtin "dict.pop", [.ref d]) s) : wpAny (model prog w) A (getMethod (.ref d) "pop" pl) Q E s := by
  obtain ⟨kvs, hd, _, _⟩ := hd
  have hD := kda_dict N hp hd
  exact getMethod_builtin hD.typeIs PySem.F.plainAttrs_dict PySem.F.slot_dict_pop PySem.F.type_dict_pop hD.mapOf.noDict h
theorem dI_method_clear {pl : Sem Bool} {Q : Value × List Value → Shared → Prop} (N : News h₀ L s.heap news) (hp : (d, o) ∈ news) (hd : DictI prog w o f b) (h : Q (.builtin "dict.clear", [.ref d]) s) : wpAny (model prog w) A (getMethod (.ref d) "clear" pl) Q E s := by
  obtain ⟨kvs, hd, _, _⟩ := hd
  have hD := kda_dict N hp hd
  exact getMethod_builtin hD.typeIs PySem.F.plainAttrs_dict PySem.F.slot_dict_clear PySem.F.type_dict_clear hD.mapOf.noDict h
theorem dI_method_keys {pl : Sem Bool} {Q : Value × List Value → Shared → Prop} (N : News h₀ L s.heap news) (hp : (d, o) ∈ news) (hd : DictI prog w o f b) (h : Q (.builtin "dict.keys", [.ref d]) s) : wpAny (model prog w) A (getMethod (.ref d) "keys" pl) Q E s := by
  obtain ⟨kvs, hd, _, _⟩ := hd
  have hD := kda_dict N hp hd
  exact getMethod_builtin hD.typeIs PySem.F.plainAttrs_dict PySem.F.slot_dict_keys PySem.F.type_dict_keys hD.mapOf.noDict h

theorem dI_get {Q : Value → Shared → Prop} {n : Int} {tn : Tok} (N : News h₀ L s.heap news) (hp : (d, o) ∈ news) (hd : DictI prog w o f b) (lo : (d == sysModules) = false)
    (h : ∀ t, Q (.int ((f k).getD n) t) { s with toks := s.toks + 1 }) :
    wpAny (model prog w) A (call (.builtin "dict.get") [.ref d, .str k tk, .int n tn]) Q E s := by
  obtain ⟨kvs, hd, _, hr⟩ := hd
  refine kdg_get2 N hp hd lo (strKind_is _ _ k tk) (valueAt kvs k) rfl ?_
  cases e : f k with
  | none => rw [hr.none e]; simpa [e] using h tn
  | some x => obtain ⟨t, ht⟩ := hr.some e; rw [ht]; simpa [e] using h t

theorem dI_item {value slice : PySem.Expr} {Q : Value → Shared → Prop} {n : Int} (N : News h₀ L s.heap news) (hp : (d, o) ∈ news) (hd : DictI prog w o f b) (hf : f k = some n)
    (h : ∀ t, Q (.int n t) { s with toks := s.toks + 1 })
    (hs : subscripted slice false (.ref d) (.str k tk) = operate [.ref d, (.str k tk)] (getItem (.ref d) (.str k tk)) := by with_unfolding_all rfl) (hg : ∀ r, letTemporaryGo value (.ref d) r = pure () := by intro _; with_unfolding_all rfl) :
    wpAny (model prog w) A (subscriptTail value slice (.ref d) (.str k tk)) Q E s := by
  obtain ⟨kvs, hd, _, hr⟩ := hd
  obtain ⟨t, ht⟩ := hr.some hf
  exact kda_item N hp hd (strKind_is _ _ k tk) ht (h t) hs hg

theorem dI_set {Q : Unit → Shared → Prop} {n : Int} {tn : Tok} (F : Fr h₀ L s.heap m) (N : News h₀ L s.heap news) (U : UpdF d o news g) (hd : DictI prog w o f b) (hsz : b ≤ 8388608)
    (h : ∀ h' o', Fr h₀ L h' m → News h₀ L h' (g o') → DictI prog w o' (f.set k n) (b + 1) → Q () { s with heap := h', toks := s.toks + 1 }) : wpAny (model prog w) A (setItem (.ref d) (.str k tk) (.int n tn)) Q E s := by
  obtain ⟨kvs, hd, hl, hr⟩ := hd
  exact kda_set F N U hd (strKind_is _ _ k tk) (by rw [sizeLine_eq]; omega) fun h' o' F' N' hd' => h h' o' F' N' ⟨_, hd', Nat.le_trans (length_stored _ _ _) (by omega), hr.set k n tn⟩

theorem UpdF.same {o : Obj} (U : UpdF d o news g) : g o = news := by
  obtain ⟨pre, post, rfl, hg, _, _⟩ := U.split
  exact hg o

theorem dI_pop {Q : Value → Shared → Prop} {dflt : Value} (F : Fr h₀ L s.heap m) (N : News h₀ L s.heap news) (U : UpdF d o news g) (hd : DictI prog w o f b) (lo : (d == sysModules) = false) (hsz : b ≤ 8388608)
    (h : ∀ v h' o', (v = dflt ∨ ∃ n t, v = .int n t) → Fr h₀ L h' m → News h₀ L h' (g o') → DictI prog w o' (f.del k) b → Q v { s with heap := h', toks := s.toks + 1 }) :
    wpAny (model prog w) A (call (.builtin "dict.pop") [.ref d, .str k tk, dflt]) Q E s := by
  obtain ⟨kvs, hd, hl, hr⟩ := hd
  have hU := U
  obtain ⟨pre, post, rfl, hg, a, b'⟩ := U.split
  have hm := N (d, o) (List.mem_append_right _ (.head _))
  have hD : s.heap.DictOf (PySem.strKind prog w) d kvs := Heap.dictOf_iff.mpr ⟨o, hm.1, hd⟩
  cases e : f k with
  | none =>
    refine call_meetsIn PySem.F.slot_dict_pop hD.typeIs PySem.F.entry_dict_pop (PySem.F.args_dict_pop_3 _ _ _) (meets_dict_pop_default (PySem.strKind prog w) d (strKind_is _ _ k tk) lo rfl dflt) ⟨kvs, hD, hr.none e, ?_⟩
    exact h dflt s.heap o (.inl rfl) F (hg o ▸ N) ⟨kvs, hd, hl, by rw [FM.del_none e]; exact hr⟩
  | some n =>
    obtain ⟨t, ht⟩ := hr.some e
    refine call_meetsIn PySem.F.slot_dict_pop hD.typeIs PySem.F.entry_dict_pop (PySem.F.args_dict_pop_3 _ _ _) (meets_dict_pop_there (PySem.strKind prog w) d (strKind_is _ _ k tk) [dflt] (.inr ⟨dflt, rfl⟩) rfl)
      ⟨kvs, .int n t, hD, by rw [sizeLine_eq]; omega, ht, fun h' hmm hs => ?_⟩
    obtain ⟨o', ho', hd'⟩ := Heap.dictOf_iff.mp hmm
    exact h _ h' o' (.inr ⟨n, t, rfl⟩) (F.change hs hm.2.1 hm.2.2) (hg o' ▸ N.setIn a b' hs ho') ⟨_, hd', Nat.le_trans (length_without _ _) hl, hr.del k⟩

theorem dI_clear {Q : Value → Shared → Prop} (F : Fr h₀ L s.heap m) (N : News h₀ L s.heap news) (U : UpdF d o news g) (hd : DictI prog w o f b) (hsz : b ≤ 8388608)
    (h : ∀ h' o', Fr h₀ L h' m → News h₀ L h' (g o') → DictI prog w o' FM.nil 0 → Q .none { s with heap := h' }) :
    wpAny (model prog w) A (call (.builtin "dict.clear") [.ref d]) Q E s := by
  obtain ⟨kvs, hd, hl, hr⟩ := hd
  obtain ⟨pre, post, rfl, hg, a, b'⟩ := U.split
  have hm := N (d, o) (List.mem_append_right _ (.head _))
  have hD : s.heap.DictOf (PySem.strKind prog w) d kvs := Heap.dictOf_iff.mpr ⟨o, hm.1, hd⟩
  refine call_meetsIn PySem.F.slot_dict_clear hD.typeIs PySem.F.entry_dict_clear (PySem.F.args_dict_clear_1 _) (meets_dict_clear (PySem.strKind prog w) d) ⟨kvs, hD, by rw [sizeLine_eq]; omega, fun h' hmm hs => ?_⟩
  obtain ⟨o', ho', hd'⟩ := Heap.dictOf_iff.mp hmm
  exact h h' o' (F.change hs hm.2.1 hm.2.2) (hg o' ▸ N.setIn a b' hs ho') ⟨_, hd', Nat.le_refl _, RepI.nil⟩

theorem dI_len {Q : Value → Shared → Prop} (N : News h₀ L s.heap news) (hp : (d, o) ∈ news) (hd : DictI prog w o f b) (lo : (d == sysModules) = false) (hsz : b ≤ 8388608)
    (h : ∀ n : Nat, n ≤ b → Q (.int n (s.toks + 1)) { s with toks := s.toks + 1 + 1 }) : wpAny (model prog w) A (call (.builtin "len") [.ref d]) Q E s := by
  obtain ⟨kvs, hd, hl, hr⟩ := hd
  exact kda_len N hp hd lo (by omega) (h _ hl)

theorem News.list {l : Addr} {items : Array Value} {n : Nat} (N : News h₀ L s.heap news) (hm : (l, W.listOf items n) ∈ news) : s.heap.IsList l items := ⟨_, (N _ hm).1, rfl, n, rfl⟩
theorem lst_item {value slice : PySem.Expr} {l : Addr} {items : Array Value} {nl : Nat} {i : Int} {u : Tok} {v : Value} {Q : Value → Shared → Prop} (N : News h₀ L s.heap news) (hm : (l, W.listOf items nl) ∈ news)
    (h0 : 0 ≤ i) (hhi : i < 2 ^ 63) (hx : items[i.toNat]? = some v) (h : Q v s)
    (hs : subscripted slice false (.ref l) (.int i u) = operate [.ref l, .int i u] (getItem (.ref l) (.int i u)) := by with_unfolding_all rfl) :
    wpAny (model prog w) A (subscriptTail value slice (.ref l) (.int i u)) Q E s :=
  tail_any (News.list N hm).typeIs slot_list_getitem.lookup (wpAny_getItem_list (News.list N hm) h0 hhi hx h) hs

inductive StrsOf : List Value → List Str → Prop
  | nil : StrsOf [] []
  | cons (k : Str) (t : Tok) {vs : List Value} {ks : List Str} : StrsOf vs ks → StrsOf (.str k t :: vs) (k :: ks)
theorem strsOf_at : ∀ {kvs : List (Str × Value)} (vs : List Value), vs.length = kvs.length → (∀ (j : Nat) (v : Value), vs[j]? = some v → ∃ (k : Str) (x : Value), kvs[j]? = some (k, x) ∧ ∃ t : Tok, v = Value.str k t) → StrsOf vs (kvs.map (·.1))
  | [], [], _, _ => .nil
  | q :: r, v :: vs, hl, hv => by
    obtain ⟨k, x, e, t, ev⟩ := hv 0 v rfl
    simp only [List.getElem?_cons_zero, Option.some.injEq] at e
    subst e
    subst ev
    exact .cons k t (strsOf_at vs (by simpa using hl) fun j u hu => by simpa using hv (j + 1) u (by simpa using hu))
  | [], _ :: _, hl, _ => by simp at hl
  | _ :: _, [], hl, _ => by simp at hl
theorem mem_keys_iff (kvs : List (Str × Value)) (k : Str) : k ∈ kvs.map (·.1) ↔ (valueAt kvs k).isSome = true := by
  induction kvs with
  | nil => simp [valueAt]
  | cons p r ih =>
    rw [List.map_cons, List.mem_cons, ih, valueAt_cons]
    by_cases h : p.1 = k
    · simp [h]
    · simp [h, Ne.symm h]
theorem RepI.isSome {kvs : List (Str × Value)} {f : FM} (h : RepI kvs f) (k : Str) : (valueAt kvs k).isSome = (f k).isSome := by
  cases e : f k with
  | none => rw [h.none e]; rfl
  | some n => obtain ⟨t, ht⟩ := h.some e; rw [ht]; rfl
theorem dI_keys {Q : Value → Shared → Prop} (F : Fr h₀ L s.heap m) (N : News h₀ L s.heap news) (hp : (d, o) ∈ news) (hd : DictI prog w o f b) (lo : (d == sysModules) = false)
    (h : ∀ (D : Addr) h', Fr h₀ L h' m → News h₀ L h' ((D, { cls := .type "dict_keys", data := .fields #[.ref d] }) :: news) → (∀ q ∈ news, q.1 < D) → Q (.ref D) { s with heap := h' }) :
    wpAny (model prog w) A (call (.builtin "dict.keys") [.ref d]) Q E s := by
  obtain ⟨kvs, hd, _, _⟩ := hd
  exact kdl_view_keys F N hp hd lo h
theorem dI_list {v : Addr} {Q : Value → Shared → Prop} (hh : A.handled = none) (F : Fr h₀ L s.heap m) (N : News h₀ L s.heap news) (hv : (v, { cls := .type "dict_keys", data := .fields #[.ref d] }) ∈ news) (hp : (d, o) ∈ news) (hd : DictI prog w o f b) (hb : b ≤ 8388608)
    (h : ∀ (B : Addr) c h' tk vs ks, StrsOf vs ks → ks.Nodup → (∀ k, k ∈ ks ↔ (f k).isSome = true) → Fr h₀ L h' m → News h₀ L h' ((B, W.listOf vs.toArray c) :: news) → (∀ q ∈ news, q.1 < B) → Q (.ref B) { s with heap := h', toks := tk }) :
    wpAny (model prog w) A (call (.type "list") [.ref v]) Q E s := by
  obtain ⟨kvs, hd, hl, hr⟩ := hd
  obtain ⟨ep, hat⟩ := (kda_dict N hp hd).dictAt
  refine kdl_N (kdl_keys (knd := PySem.strKind prog w) (kvs := kvs) (ep := ep)) hh F N ⟨⟨_, (N _ hv).1, rfl, rfl⟩, hat⟩ (kdl_size (by omega)) fun B c h' tk vs F' N' l1 hl' hv' => ?_
  refine h B c h' tk vs (kvs.map (·.1)) (strsOf_at vs hl' fun j u hu => ?_) ?_ (fun k => ?_) F' N' l1
  · obtain ⟨k, x, hx, hk⟩ := hv' j u hu
    exact ⟨k, x, hx, Value.isStrOf_shape hk⟩
  · obtain ⟨_, _, _, _, _, _, hn⟩ := hd; exact hn
  · rw [mem_keys_iff, hr.isSome]

/-- a loop over a list, by what holds of what is left of it -/
theorem itemsRest_ind {env : Env} {target : PySem.Expr} {body : List Stmt} {Q : Flow → Shared → Prop} {I : Addr} {kp : Addr × Obj} (J : List Value → (Str → Option Value) → Led → Prop)
    (hsub : ∀ r m news, J r m news → kp ∈ news)
    (step : ∀ v r m news, J (v :: r) m news → ∀ h tk (it : Obj), it.cls = .type "list_iterator" → Fr h₀ env.locals h m → News h₀ env.locals h ((I, it) :: news) →
      wpAny (model prog w) A (assign target env v) (fun _ s₂ => wpAny (model prog w) A (execs body env) (UnrPostW h₀ env.locals { s with heap := h, toks := tk } [(I, it)] (fun m' n' => J r m' n') Q) E s₂) E { s with heap := h, toks := tk })
    (done : ∀ m news, J [] m news → ∀ h tk, Fr h₀ env.locals h m → News h₀ env.locals h news → Q .next { s with heap := h, toks := tk }) :
    ∀ (vs : List Value) (m : Str → Option Value) (news : Led), J vs m news → ItemsRest prog w A E h₀ env target body Q s [(I, "list_iterator")] [kp] (vs.map .val) m news
  | [], m, news, hj => ItemsRest.zero fun h tk F N => done m news hj h tk F N
  | v :: r, m, news, hj => ItemsRest.val fun h tk F => AllObj.cons fun it hit => AllObj.nil fun N =>
      wpAny_mono (step v r m news hj h tk it hit F N) (fun _ s₂ h₂ => wpAny_mono h₂ (fun f s₃ h₃ => by
        have conv : ∀ s₃, UnrEndW h₀ env.locals { s with heap := h, toks := tk } [(I, it)] (fun m' n' => J r m' n') s₃ →
            UnrEndW h₀ env.locals { s with heap := h, toks := tk } [(I, it)] (fun m' n' => SubL [kp] n' ∧ ItemsRest prog w A E h₀ env target body Q s [(I, "list_iterator")] [kp] (r.map .val) m' n') s₃ := by
          rintro s₃ ⟨h', tk', m', news', e, F', N', off, hj'⟩
          exact ⟨h', tk', m', news', e, F', N', off, ⟨hsub _ _ _ hj', trivial⟩, itemsRest_ind J hsub step done r m' news' hj'⟩
        cases f with
        | ret v => exact h₃
        | brk => exact h₃
        | next => exact conv _ h₃
        | cont => exact conv _ h₃) fun _ _ e => e) fun _ _ e => e
end
end Mine

namespace Mine
open PySem PySem.W PySem.Calls PyProof.Rows PyProof.V PySem.Spec

/-- the law's clock, «lambda: now[0]», as the heap holds it (wherever it stands in the text) -/
abbrev lamObj (p1 p2 p3 : Pos) (qual : Str) (cl c : Addr) (pm ctv : Value) : Obj :=
  kla_obj (Str.ofString "<lambda>") qual { posonlyargs := [], args := [], vararg := none, kwonlyargs := [], kw_defaults := [], kwarg := none, defaults := [] }
    ((Expr.Name (Str.ofString "now") p1).Subscript (Expr.Constant (Const.int 0) 0 p2) p3)
    { kind := ScopeKind.function, names := [(Str.ofString "now", NameKind.free)], isGenerator := false, isCoroutine := false } [(Str.ofString "now", cl)] pm c ctv

section
variable {w : World} {p : Program} {loose : List Str} {mean : ExcName → Option Value} {mg mb : Str → Option Value}
  {dp un : Nat} {gd : Option (List Code)} {cn : Str} {cs : Scope} {a : Addr} {ccd : Value} {cll : List (Str × Addr)} {outer : List Env} {A₀ : Around} {base h₀ : Heap} {L : Addr} {m : Str → Option Value} {news : Led} {s : Shared}
  {Q E : Value → Shared → Prop}

theorem clock_call {f c cl ln : Addr} {p1 p2 p3 : Pos} {qual : Str} {pm ctv : Value} {oc ocl : Obj} {vs : Array Value} {t : Tok} {now : Int} {tn : Tok} {nl : Nat}
    (B : Below A₀ base outer h₀) (F : Fr h₀ L s.heap m) (X : (hd01.heap_39 w.params).In h₀) (N : News h₀ L s.heap news) (T : Top p loose mean mg mb h₀) (hk : cs.kind = .function)
    (hf : (f, lamObj p1 p2 p3 qual cl c pm ctv) ∈ news) (hc : (c, oc) ∈ news) (d1 : oc.data = .fields vs) (d2 : vs[1]? = some (.str qual t)) (hcl : (cl, ocl) ∈ news) (d3 : ocl.data = .cell (some (.ref ln)))
    (hln : (ln, W.listOf #[.int now tn] nl) ∈ news) (hd : dp + 1 < recursionLimit)
    (hret : ∀ h' tk', Fr h₀ L h' m → News h₀ L h' news → Q (.int now tn) { s with heap := h', toks := tk' }) :
    wpAny (model Challenge.rw_jb0019_01.row.prog w) (ktrTop dp un gd cn cs L a ccd cll outer) (call (.ref f) []) Q E s := by
  revert X; k_fill; intro X
  refine wpAny_call ?_
  k_dflt (refine' kla_code ?k1 ?k2 ?k3 ?k4 ?k5 ?kA ?kF ?kK ?k6 ?k7 ?k8 ?k9 ?kB ?_ ?c2 ?c3 ?c4 ?c5; (case kA => exact rfl); (case kF => exact rfl); (case kK => assumption); (case k1 => k_asm); (case k2 => k_asm); (case k3 => k_asm); (case k4 => k_asm); (case k5 => k_asm); (case k6 => k_mem); (case k7 => exact codeRec_news (by k_asm) (by k_mem) (by assumption) (by assumption)); (case k8 => ktr_room); (case k9 => exact rfl); (case c5 => decide); (case kB => exact locs rfl); (case c2 => exact rfl); (case c3 => exact rfl); (case c4 => exact rfl); k_whole; intro g' L' h' FG' F' N' B' X' T'; (try dsimp only); (try k_lift B'); (try k_fold))
  refine Subscript_ ?_
  refine nameX_F N' rfl hcl d3 ?_
  refine wpAny_Constant_int ?_
  refine lst_item N' hln (by decide) (by decide) rfl ?_
  k_unfold
  exact leaveK_ F' N' fun F9 N9 => hret _ _ F9 N9
end
end Mine

namespace Mine
open PySem PySem.W PySem.Calls PyProof.Rows PyProof.V PySem.Spec

structure StoreM where
  S : FM
  X : FM
def StoreM.get (q : StoreM) (k : Str) (now : Int) : StoreM := if (q.X k).getD 0 ≤ now then ⟨q.S.del k, q.X.del k⟩ else q
def StoreM.put (q : StoreM) (k : Str) (n : Int) : StoreM := ⟨q.S.set k n, q.X⟩
def StoreM.incr (q : StoreM) (k : Str) (len amt now : Int) : StoreM :=
  let r := q.get k now
  let v := (r.S k).getD 0 + amt
  ⟨r.S.set k v, if v = amt then r.X.set k (now + len) else r.X⟩
def StoreM.decr (q : StoreM) (k : Str) (amt now : Int) : StoreM :=
  let r := q.get k now
  ⟨r.S.set k (if 0 > (r.S k).getD 0 - amt then 0 else (r.S k).getD 0 - amt), r.X⟩
theorem StoreM.incr_S {q : StoreM} {k : Str} {len amt now : Int} : (q.incr k len amt now).S = (q.get k now).S.set k (((q.get k now).S k).getD 0 + amt) := rfl
theorem StoreM.incr_pos {q : StoreM} {k : Str} {len amt now : Int} (h : ((q.get k now).S k).getD 0 + amt = amt) : (q.incr k len amt now).X = (q.get k now).X.set k (now + len) := if_pos h
theorem StoreM.incr_neg {q : StoreM} {k : Str} {len amt now : Int} (h : ¬ ((q.get k now).S k).getD 0 + amt = amt) : (q.incr k len amt now).X = (q.get k now).X := if_neg h
theorem DictI.le {prog : Program} {w : World} {o : Obj} {f : FM} {b b' : Nat} (h : DictI prog w o f b) (hb : b ≤ b') : DictI prog w o f b' := let ⟨kvs, a, b, c⟩ := h; ⟨kvs, a, Nat.le_trans b hb, c⟩
theorem FM.nil_del {k : Str} : FM.nil.del k = FM.nil := FM.del_none rfl
def StoreM.clear (q : StoreM) (k : Str) : StoreM := ⟨q.S.del k, q.X.del k⟩

/-- the ledger of the store, its three dicts and the clock's list ahead -/
abbrev SL (P : Params) (dS dE dV ln x dx f c cl : Addr) (oS oE oV lnO : Obj) (t1 t2 t3 t4 : Tok) (p1 p2 p3 : Pos) (qual : Str) (pm ctv : Value) (oc ocl : Obj) (rest : Led) : Led :=
  (dS, oS) :: (dE, oE) :: (dV, oV) :: (ln, lnO) :: (x, instObj 171 dx) ::
      (dx, W.dictOf [{ hash := PyData.keyHash P (Str.ofString "clock"), key := .str (Str.ofString "clock") t1, val := .ref f }, { hash := PyData.keyHash P (Str.ofString "storage"), key := .str (Str.ofString "storage") t2, val := .ref dS },
        { hash := PyData.keyHash P (Str.ofString "expirations"), key := .str (Str.ofString "expirations") t3, val := .ref dE }, { hash := PyData.keyHash P (Str.ofString "events"), key := .str (Str.ofString "events") t4, val := .ref dV }] 4) ::
      (f, lamObj p1 p2 p3 qual cl c pm ctv) :: (c, oc) :: (cl, ocl) :: rest

/-- what stands of the store's objects -/
structure SOk (dS dE dV ln x dx f c cl : Addr) (qual : Str) (oc ocl : Obj) : Prop where
  d12 : ∃ vs t, oc.data = .fields vs ∧ vs[1]? = some (.str qual t)
  d3 : ocl.data = .cell (some (.ref ln))
  o1 : @LT.lt Nat _ cl ln
  o2 : @LT.lt Nat _ ln c
  o3 : @LT.lt Nat _ c f
  o4 : @LT.lt Nat _ f dx
  o5 : @LT.lt Nat _ dx x
  o6 : @LT.lt Nat _ x dS
  o7 : @LT.lt Nat _ dS dE
  o8 : @LT.lt Nat _ dE dV
  lS : (dS == sysModules) = false
  lE : (dE == sysModules) = false
  lV : (dV == sysModules) = false

local macro_rules | `(tactic| walk_at "getMethod ref") => `(tactic| (k_here; (with_reducible show wpAny _ _ (getMethod (Value.ref _) (Str.ofString "get") _) _ _ _); k_dflt (refine dI_method_get (by k_asm) (by k_mem) (by k_asm) ?_)))
local macro_rules | `(tactic| walk_at "getMethod ref") => `(tactic| (k_here; (with_reducible show wpAny _ _ (getMethod (Value.ref _) (Str.ofString "pop") _) _ _ _); k_dflt (refine dI_method_pop (by k_asm) (by k_mem) (by k_asm) ?_)))
local macro_rules | `(tactic| walk_at "getMethod ref") => `(tactic| (k_here; (with_reducible show wpAny _ _ (getMethod (Value.ref _) (Str.ofString "clear") _) _ _ _); k_dflt (refine dI_method_clear (by k_asm) (by k_mem) (by k_asm) ?_)))
local macro_rules | `(tactic| walk_at "call builtin:dict.get") => `(tactic| (k_here; k_dflt (refine dI_get (by k_asm) (by k_mem) (by k_asm) (by k_asm) ?_); intro t'))
local macro_rules | `(tactic| walk_at "call builtin:dict.pop") => `(tactic| (k_here; k_dflt (refine' dI_pop ?F ?N ?U ?d ?lo ?z ?_; (case F => k_asm); (case N => k_asm); (case U => k_updF); (case d => k_asm); (case lo => k_asm); (case z => omega)); intro v' h' o' hv' F' N' hd'; (try dsimp only at N')))
local macro_rules | `(tactic| walk_at "call builtin:dict.clear") => `(tactic| (k_here; k_dflt (refine' dI_clear ?F ?N ?U ?d ?z ?_; (case F => k_asm); (case N => k_asm); (case U => k_updF); (case d => k_asm); (case z => omega)); intro h' o' F' N' hd'; (try dsimp only at N')))
local macro_rules | `(tactic| walk_at "setItem ref str") => `(tactic| (k_here; k_dflt (refine' dI_set ?F ?N ?U ?d ?z ?_; (case F => k_asm); (case N => k_asm); (case U => k_updF); (case d => k_asm); (case z => omega)); intro h' o' F' N' hd'; (try dsimp only at N')))
local macro_rules | `(tactic| walk_at "subscriptTail") => `(tactic| (k_here; (with_reducible show wpAny _ _ (subscriptTail _ _ (Value.ref _) (Value.str _ _)) _ _ _); k_dflt (refine' dI_item ?N ?m ?d ?f ?_ ?s ?g; (case N => k_asm); (case m => k_mem); (case d => k_asm); (case f => first | exact FM.set_self | assumption); (case s => with_unfolding_all rfl); (case g => (intro _; with_unfolding_all rfl))); intro t'))
local macro_rules | `(tactic| walk_at "call builtin:len") => `(tactic| (k_here; (with_reducible show wpAny _ _ (call (Value.builtin "len") [Value.ref _]) _ _ _); k_dflt (refine' dI_len ?N ?m ?d ?lo ?z ?_; (case N => k_asm); (case m => k_mem); (case d => k_asm); (case lo => k_asm); (case z => omega)); intro n' hn'))
local macro_rules | `(tactic| walk_at "callWith ref") => `(tactic| (k_here; (with_reducible show wpAny _ _ (callWith _ (Value.ref _) _ (backTo _ (starEach [] _)) []) _ _ _); k_dflt (refine' callWith_F0 ?k1 ?_; (case k1 => exact FnAt.of (by k_asm) (by k_mem)); k_whole; try dsimp only [List.nil_append, List.cons_append])))
local macro_rules | `(tactic| walk_at "call ref") => `(tactic| (k_here; (with_reducible show wpAny _ _ (call (Value.ref _) [] _) _ _ _); k_dflt (refine clock_call (by k_asm) (by k_asm) (by k_asm) (by k_asm) (by k_asm) (by rfl) (by k_mem) (by k_mem) (by assumption) (by assumption) (by k_mem) (by assumption) (by k_mem) (by ktr_room) ?_); intro h' tk' F' N'))

local macro_rules | `(tactic| ktr_enter) => `(tactic| (refine' code_def ?k1 ?k2 ?k3 ?k4 ?k5 ?kA ?kF ?kK ?k6 ?k7 ?k8 ?k9 ?kB ?_ ?c2 ?c3 ?c4 ?c5; (case kA => exact rfl); (case kF => exact rfl); (case kK => assumption); (case k1 => k_asm); (case k2 => k_asm); (case k3 => k_asm); (case k4 => k_asm); (case k5 => k_asm); (case k6 => k_is); (case k7 => k_is); (case k8 => ktr_room); (case k9 => first | exact BindsTo.of_eq rfl | exact binds_K (by k_in) rfl (by k_is) rfl rfl rfl); (case c5 => decide); (case kB => exact locs rfl); (case c2 => exact rfl); (case c3 => exact rfl); (case c4 => exact rfl); k_whole; intro g' L' h' FG' F' N' B' X' T'; (try dsimp only); (try k_lift B'); (try k_fold)))
section
variable {w : World} {p : Program} {loose : List Str} {mean : ExcName → Option Value} {mg mb : Str → Option Value}
  {dp un : Nat} {gd : Option (List Code)} {cn : Str} {cs : Scope} {a : Addr} {ccd : Value} {cll : List (Str × Addr)} {outer : List Env} {A₀ : Around} {base h₀ : Heap} {L : Addr} {m : Str → Option Value} {s : Shared}
  {Q E : Value → Shared → Prop} {dS dE dV ln x dx f c cl : Addr} {oS oE oV : Obj} {now : Int} {tn : Tok} {nl : Nat} {t1 t2 t3 t4 : Tok} {p1 p2 p3 : Pos}
  {qual : Str} {pm ctv : Value} {oc ocl : Obj} {vs : Array Value} {t : Tok} {rest : Led} {q : StoreM} {k : Str} {tk : Tok} {bS bX bV : Nat}

theorem get_call
    (B : Below A₀ base outer h₀) (F : Fr h₀ L s.heap m) (X : (hd01.heap_39 w.params).In h₀)
    (N : News h₀ L s.heap (SL w.params dS dE dV ln x dx f c cl oS oE oV (W.listOf #[.int now tn] nl) t1 t2 t3 t4 p1 p2 p3 qual pm ctv oc ocl rest))
    (T : Top p loose mean mg mb h₀) (hk : cs.kind = .function) (O : SOk dS dE dV ln x dx f c cl qual oc ocl) (off : OwnOff rest [dS, dE, dV, ln])
    (hS : DictI Challenge.rw_jb0019_01.row.prog w oS q.S bS) (hX : DictI Challenge.rw_jb0019_01.row.prog w oE q.X bX) (hbS : bS ≤ 8388608) (hbX : bX ≤ 8388608)
    (hd : dp + 2 < recursionLimit)
    (hret : ∀ oS' oE' t' h' tk', Fr h₀ L h' m → News h₀ L h' (SL w.params dS dE dV ln x dx f c cl oS' oE' oV (W.listOf #[.int now tn] nl) t1 t2 t3 t4 p1 p2 p3 qual pm ctv oc ocl rest) →
      DictI Challenge.rw_jb0019_01.row.prog w oS' (q.get k now).S bS → DictI Challenge.rw_jb0019_01.row.prog w oE' (q.get k now).X bX →
      Q (.int (((q.get k now).S k).getD 0) t') { s with heap := h', toks := tk' }) :
    wpAny (model Challenge.rw_jb0019_01.row.prog w) (ktrTop dp un gd cn cs L a ccd cll outer) (call (.ref 96) [.ref x, .str k tk]) Q E s := by
  revert X; k_fill; intro X
  obtain ⟨⟨vs, t, d1, d2⟩, d3, o1, o2, o3, o4, o5, o6, o7, o8, lS, lE, lV⟩ := O
  refine wpAny_call ?_
  k_dflt ktr_enter
  k_steps
  · have e : q.get k now = ⟨q.S.del k, q.X.del k⟩ := if_pos (by first | assumption | simp_all)
    rw [e] at hret
    exact hret _ _ _ _ _ (by k_asm) (by k_asm) (by k_asm) (by k_asm)
  · have e : q.get k now = q := if_neg (by first | assumption | simp_all)
    rw [e] at hret
    exact hret _ _ _ _ _ (by k_asm) (by k_asm) (by k_asm) (by k_asm)
end

local macro_rules | `(tactic| walk_at "call ref") => `(tactic| (k_here; (with_reducible show wpAny _ _ (call (Value.ref 96) [_, _] _) _ _ _); k_dflt (refine' get_call ?B ?F ?X ?N ?T ?k ?O ?off ?S ?X2 ?z1 ?z2 ?d ?_; (case B => k_asm); (case F => k_asm); (case X => k_asm); (case N => k_asm); (case T => k_asm); (case k => rfl); (case O => k_asm); (case off => k_asm); (case S => k_asm); (case X2 => k_asm); (case z1 => omega); (case z2 => omega); (case d => ktr_room)); intro oS' oE' t' h' tk' F' N' hS' hX'; (try dsimp only [SL] at N')))
section
variable {w : World} {p : Program} {loose : List Str} {mean : ExcName → Option Value} {mg mb : Str → Option Value}
  {dp un : Nat} {gd : Option (List Code)} {cn : Str} {cs : Scope} {a : Addr} {ccd : Value} {cll : List (Str × Addr)} {outer : List Env} {A₀ : Around} {base h₀ : Heap} {L : Addr} {m : Str → Option Value} {s : Shared}
  {Q E : Value → Shared → Prop} {dS dE dV ln x dx f c cl : Addr} {oS oE oV : Obj} {now : Int} {tn : Tok} {nl : Nat} {t1 t2 t3 t4 : Tok} {p1 p2 p3 : Pos}
  {qual : Str} {pm ctv : Value} {oc ocl : Obj} {vs : Array Value} {t : Tok} {rest : Led} {q : StoreM} {k : Str} {tk tk2 tk3 : Tok} {len amt : Int} {bS bX bV : Nat}

theorem incr_call
    (B : Below A₀ base outer h₀) (F : Fr h₀ L s.heap m) (X : (hd01.heap_39 w.params).In h₀)
    (N : News h₀ L s.heap (SL w.params dS dE dV ln x dx f c cl oS oE oV (W.listOf #[.int now tn] nl) t1 t2 t3 t4 p1 p2 p3 qual pm ctv oc ocl rest))
    (T : Top p loose mean mg mb h₀) (hk : cs.kind = .function) (O : SOk dS dE dV ln x dx f c cl qual oc ocl) (off : OwnOff rest [dS, dE, dV, ln])
    (hS : DictI Challenge.rw_jb0019_01.row.prog w oS q.S bS) (hX : DictI Challenge.rw_jb0019_01.row.prog w oE q.X bX) (hbS : bS < 8388608) (hbX : bX < 8388608)
    (hd : dp + 3 < recursionLimit)
    (hret : ∀ oS' oE' t' h' tk', Fr h₀ L h' m → News h₀ L h' (SL w.params dS dE dV ln x dx f c cl oS' oE' oV (W.listOf #[.int now tn] nl) t1 t2 t3 t4 p1 p2 p3 qual pm ctv oc ocl rest) →
      DictI Challenge.rw_jb0019_01.row.prog w oS' (q.incr k len amt now).S (bS + 1) → DictI Challenge.rw_jb0019_01.row.prog w oE' (q.incr k len amt now).X (bX + 1) →
      Q (.int ((((q.get k now).S k).getD 0) + amt) t') { s with heap := h', toks := tk' }) :
    wpAny (model Challenge.rw_jb0019_01.row.prog w) (ktrTop dp un gd cn cs L a ccd cll outer) (call (.ref 81) [.ref x, .str k tk, .int len tk2, .int amt tk3]) Q E s := by
  revert X; k_fill; intro X
  have O' := O
  obtain ⟨⟨vs, t, d1, d2⟩, d3, o1, o2, o3, o4, o5, o6, o7, o8, lS, lE, lV⟩ := O'
  refine wpAny_call ?_
  k_dflt ktr_enter
  k_steps
  · rw [FM.set_get]
    exact hret _ _ _ _ _ (by k_asm) (by k_asm) (by rw [StoreM.incr_S]; k_asm) (by rw [StoreM.incr_pos (by first | assumption | simp_all)]; k_asm)
  · rw [FM.set_get]
    exact hret _ _ _ _ _ (by k_asm) (by k_asm) (by rw [StoreM.incr_S]; k_asm) (by rw [StoreM.incr_neg (by first | assumption | simp_all)]; exact DictI.le (by k_asm) (Nat.le_succ _))

theorem decr_call
    (B : Below A₀ base outer h₀) (F : Fr h₀ L s.heap m) (X : (hd01.heap_39 w.params).In h₀)
    (N : News h₀ L s.heap (SL w.params dS dE dV ln x dx f c cl oS oE oV (W.listOf #[.int now tn] nl) t1 t2 t3 t4 p1 p2 p3 qual pm ctv oc ocl rest))
    (T : Top p loose mean mg mb h₀) (hk : cs.kind = .function) (O : SOk dS dE dV ln x dx f c cl qual oc ocl) (off : OwnOff rest [dS, dE, dV, ln])
    (hS : DictI Challenge.rw_jb0019_01.row.prog w oS q.S bS) (hX : DictI Challenge.rw_jb0019_01.row.prog w oE q.X bX) (hbS : bS < 8388608) (hbX : bX < 8388608)
    (hd : dp + 3 < recursionLimit)
    (hret : ∀ oS' oE' t' h' tk', Fr h₀ L h' m → News h₀ L h' (SL w.params dS dE dV ln x dx f c cl oS' oE' oV (W.listOf #[.int now tn] nl) t1 t2 t3 t4 p1 p2 p3 qual pm ctv oc ocl rest) →
      DictI Challenge.rw_jb0019_01.row.prog w oS' (q.decr k amt now).S (bS + 1) → DictI Challenge.rw_jb0019_01.row.prog w oE' (q.decr k amt now).X (bX + 1) →
      Q (.int (if 0 > ((q.get k now).S k).getD 0 - amt then 0 else ((q.get k now).S k).getD 0 - amt) t') { s with heap := h', toks := tk' }) :
    wpAny (model Challenge.rw_jb0019_01.row.prog w) (ktrTop dp un gd cn cs L a ccd cll outer) (call (.ref 89) [.ref x, .str k tk, .int amt tk3]) Q E s := by
  revert X; k_fill; intro X
  have O' := O
  obtain ⟨⟨vs, t, d1, d2⟩, d3, o1, o2, o3, o4, o5, o6, o7, o8, lS, lE, lV⟩ := O'
  refine wpAny_call ?_
  k_dflt ktr_enter
  k_steps
  · rw [FM.set_get]
    exact hret _ _ _ _ _ (by k_asm) (by k_asm) (by k_asm) (DictI.le (by k_asm) (Nat.le_succ _))

theorem clear_call
    (B : Below A₀ base outer h₀) (F : Fr h₀ L s.heap m) (X : (hd01.heap_39 w.params).In h₀)
    (N : News h₀ L s.heap (SL w.params dS dE dV ln x dx f c cl oS oE oV (W.listOf #[.int now tn] nl) t1 t2 t3 t4 p1 p2 p3 qual pm ctv oc ocl rest))
    (T : Top p loose mean mg mb h₀) (hk : cs.kind = .function) (O : SOk dS dE dV ln x dx f c cl qual oc ocl) (off : OwnOff rest [dS, dE, dV, ln])
    (hS : DictI Challenge.rw_jb0019_01.row.prog w oS q.S bS) (hX : DictI Challenge.rw_jb0019_01.row.prog w oE q.X bX) (hbS : bS < 8388608) (hbX : bX < 8388608)
    (hV : DictI Challenge.rw_jb0019_01.row.prog w oV FM.nil bV) (hbV : bV < 8388608) (hd : dp + 3 < recursionLimit)
    (hret : ∀ oS' oE' oV' h' tk', Fr h₀ L h' m → News h₀ L h' (SL w.params dS dE dV ln x dx f c cl oS' oE' oV' (W.listOf #[.int now tn] nl) t1 t2 t3 t4 p1 p2 p3 qual pm ctv oc ocl rest) →
      DictI Challenge.rw_jb0019_01.row.prog w oS' (q.clear k).S bS → DictI Challenge.rw_jb0019_01.row.prog w oE' (q.clear k).X bX → DictI Challenge.rw_jb0019_01.row.prog w oV' FM.nil bV →
      Q .none { s with heap := h', toks := tk' }) :
    wpAny (model Challenge.rw_jb0019_01.row.prog w) (ktrTop dp un gd cn cs L a ccd cll outer) (call (.ref 103) [.ref x, .str k tk]) Q E s := by
  revert X; k_fill; intro X
  have O' := O
  obtain ⟨⟨vs, t, d1, d2⟩, d3, o1, o2, o3, o4, o5, o6, o7, o8, lS, lE, lV⟩ := O'
  refine wpAny_call ?_
  k_dflt ktr_enter
  k_steps
  · exact hret _ _ _ _ _ (by k_asm) (by k_asm) (by k_asm) (by k_asm) (by rw [← FM.nil_del]; k_asm)

theorem reset_call
    (B : Below A₀ base outer h₀) (F : Fr h₀ L s.heap m) (X : (hd01.heap_39 w.params).In h₀)
    (N : News h₀ L s.heap (SL w.params dS dE dV ln x dx f c cl oS oE oV (W.listOf #[.int now tn] nl) t1 t2 t3 t4 p1 p2 p3 qual pm ctv oc ocl rest))
    (T : Top p loose mean mg mb h₀) (hk : cs.kind = .function) (O : SOk dS dE dV ln x dx f c cl qual oc ocl) (off : OwnOff rest [dS, dE, dV, ln])
    (hS : DictI Challenge.rw_jb0019_01.row.prog w oS q.S bS) (hX : DictI Challenge.rw_jb0019_01.row.prog w oE q.X bX) (hbS : bS < 8388608) (hbX : bX < 8388608)
    (hV : DictI Challenge.rw_jb0019_01.row.prog w oV FM.nil bV) (hbV : bV < 8388608) (hd : dp + 3 < recursionLimit)
    (hret : ∀ oS' oE' oV' n' t' h' tk', Fr h₀ L h' m → News h₀ L h' (SL w.params dS dE dV ln x dx f c cl oS' oE' oV' (W.listOf #[.int now tn] nl) t1 t2 t3 t4 p1 p2 p3 qual pm ctv oc ocl rest) →
      DictI Challenge.rw_jb0019_01.row.prog w oS' FM.nil 0 → DictI Challenge.rw_jb0019_01.row.prog w oE' FM.nil 0 → DictI Challenge.rw_jb0019_01.row.prog w oV' FM.nil 0 →
      Q (.int n' t') { s with heap := h', toks := tk' }) :
    wpAny (model Challenge.rw_jb0019_01.row.prog w) (ktrTop dp un gd cn cs L a ccd cll outer) (call (.ref 168) [.ref x]) Q E s := by
  revert X; k_fill; intro X
  have O' := O
  obtain ⟨⟨vs, t, d1, d2⟩, d3, o1, o2, o3, o4, o5, o6, o7, o8, lS, lE, lV⟩ := O'
  refine wpAny_call ?_
  k_dflt ktr_enter
  k_steps
  · exact hret _ _ _ _ _ _ _ (by k_asm) (by k_asm) (by k_asm) (by k_asm) (by k_asm)

theorem getx_call
    (B : Below A₀ base outer h₀) (F : Fr h₀ L s.heap m) (X : (hd01.heap_39 w.params).In h₀)
    (N : News h₀ L s.heap (SL w.params dS dE dV ln x dx f c cl oS oE oV (W.listOf #[.int now tn] nl) t1 t2 t3 t4 p1 p2 p3 qual pm ctv oc ocl rest))
    (T : Top p loose mean mg mb h₀) (hk : cs.kind = .function) (O : SOk dS dE dV ln x dx f c cl qual oc ocl) (off : OwnOff rest [dS, dE, dV, ln])
    (hS : DictI Challenge.rw_jb0019_01.row.prog w oS q.S bS) (hX : DictI Challenge.rw_jb0019_01.row.prog w oE q.X bX) (hbS : bS < 8388608) (hbX : bX < 8388608)
    (hd : dp + 3 < recursionLimit)
    (hret : ∀ t' h' tk', Fr h₀ L h' m → News h₀ L h' (SL w.params dS dE dV ln x dx f c cl oS oE oV (W.listOf #[.int now tn] nl) t1 t2 t3 t4 p1 p2 p3 qual pm ctv oc ocl rest) →
      Q (.int ((q.X k).getD now) t') { s with heap := h', toks := tk' }) :
    wpAny (model Challenge.rw_jb0019_01.row.prog w) (ktrTop dp un gd cn cs L a ccd cll outer) (call (.ref 118) [.ref x, .str k tk]) Q E s := by
  revert X; k_fill; intro X
  have O' := O
  obtain ⟨⟨vs, t, d1, d2⟩, d3, o1, o2, o3, o4, o5, o6, o7, o8, lS, lE, lV⟩ := O'
  refine wpAny_call ?_
  k_dflt ktr_enter
  k_steps
  · exact hret _ _ _ (by k_asm) (by k_asm)

theorem check_call
    (B : Below A₀ base outer h₀) (F : Fr h₀ L s.heap m) (X : (hd01.heap_39 w.params).In h₀)
    (N : News h₀ L s.heap (SL w.params dS dE dV ln x dx f c cl oS oE oV (W.listOf #[.int now tn] nl) t1 t2 t3 t4 p1 p2 p3 qual pm ctv oc ocl rest))
    (T : Top p loose mean mg mb h₀) (hk : cs.kind = .function) (O : SOk dS dE dV ln x dx f c cl qual oc ocl) (off : OwnOff rest [dS, dE, dV, ln])
    (hS : DictI Challenge.rw_jb0019_01.row.prog w oS q.S bS) (hX : DictI Challenge.rw_jb0019_01.row.prog w oE q.X bX) (hbS : bS < 8388608) (hbX : bX < 8388608)
    (hd : dp + 3 < recursionLimit)
    (hret : ∀ h' tk', Fr h₀ L h' m → News h₀ L h' (SL w.params dS dE dV ln x dx f c cl oS oE oV (W.listOf #[.int now tn] nl) t1 t2 t3 t4 p1 p2 p3 qual pm ctv oc ocl rest) →
      Q (.bool true) { s with heap := h', toks := tk' }) :
    wpAny (model Challenge.rw_jb0019_01.row.prog w) (ktrTop dp un gd cn cs L a ccd cll outer) (call (.ref 161) [.ref x]) Q E s := by
  revert X; k_fill; intro X
  have O' := O
  obtain ⟨⟨vs, t, d1, d2⟩, d3, o1, o2, o3, o4, o5, o6, o7, o8, lS, lE, lV⟩ := O'
  refine wpAny_call ?_
  k_dflt ktr_enter
  k_steps
  · exact hret _ _ (by k_asm) (by k_asm)
end

theorem StoreM.get_pos {q : StoreM} {k : Str} {now n : Int} (h : q.X k = some n) (hn : n ≤ now) : q.get k now = ⟨q.S.del k, q.X.del k⟩ := if_pos (by rw [h]; exact hn)
theorem StoreM.get_neg {q : StoreM} {k : Str} {now n : Int} (h : q.X k = some n) (hn : ¬ n ≤ now) : q.get k now = q := if_neg (by rw [h]; exact hn)
def StoreM.sweep (q : StoreM) (ks : List Str) (now : Int) : StoreM := ks.foldl (fun q k => q.get k now) q
theorem StoreM.sweep_snoc (q : StoreM) (ks : List Str) (k : Str) (now : Int) : q.sweep (ks ++ [k]) now = (q.sweep ks now).get k now := by
  unfold StoreM.sweep; rw [List.foldl_append]; rfl
theorem FM.del_ne {f : FM} {k y : Str} (h : y ≠ k) : f.del k y = f y := if_neg h


local macro_rules | `(tactic| walk_at "getMethod ref") => `(tactic| (k_here; (with_reducible show wpAny _ _ (getMethod (Value.ref _) (Str.ofString "keys") _) _ _ _); k_dflt (refine dI_method_keys (by k_asm) (by k_mem) (by k_asm) ?_)))
local macro_rules | `(tactic| walk_at "call builtin:dict.keys") => `(tactic| (k_here; k_dflt (refine' dI_keys ?F ?N ?m ?d ?lo ?_; (case F => k_asm); (case N => k_asm); (case m => k_mem); (case d => k_asm); (case lo => k_asm)); intro D' h' F' N' l1; (try k_lt l1)))
local macro_rules | `(tactic| walk_at "call type:list") => `(tactic| (k_here; k_dflt (refine' dI_list ?hh ?F ?N ?v ?m ?d ?z ?_; (case hh => rfl); (case F => k_asm); (case N => k_asm); (case v => k_mem); (case m => k_mem); (case d => k_asm); (case z => omega)); intro B' c' h' tk' vs' ks' hks' hnd' hmem' F' N' l1; (try k_lt l1)))
local macro_rules | `(tactic| walk_at "exec For Name Call cons nil") => `(tactic| (k_here; (rename Fr _ _ _ _ => lF'); (with_unfolding_all refine' For_turns lF' ?_); k_whole))
section
variable {w : World} {p : Program} {loose : List Str} {mean : ExcName → Option Value} {mg mb : Str → Option Value}
  {dp un : Nat} {gd : Option (List Code)} {cn : Str} {cs : Scope} {a : Addr} {ccd : Value} {cll : List (Str × Addr)} {outer : List Env} {A₀ : Around} {base h₀ : Heap} {L : Addr} {m : Str → Option Value} {s : Shared}
  {Q E : Value → Shared → Prop} {dS dE dV ln x dx f c cl : Addr} {oS oE oV : Obj} {now : Int} {tn : Tok} {nl : Nat} {t1 t2 t3 t4 : Tok} {p1 p2 p3 : Pos}
  {qual : Str} {pm ctv : Value} {oc ocl : Obj} {vs : Array Value} {t : Tok} {rest : Led} {q : StoreM} {k : Str} {tk tk2 tk3 : Tok} {len amt : Int} {bS bX bV : Nat}

theorem expire_call
    (B : Below A₀ base outer h₀) (F : Fr h₀ L s.heap m) (X : (hd01.heap_39 w.params).In h₀)
    (N : News h₀ L s.heap (SL w.params dS dE dV ln x dx f c cl oS oE oV (W.listOf #[.int now tn] nl) t1 t2 t3 t4 p1 p2 p3 qual pm ctv oc ocl rest))
    (T : Top p loose mean mg mb h₀) (hk : cs.kind = .function) (O : SOk dS dE dV ln x dx f c cl qual oc ocl) (off : OwnOff rest [dS, dE, dV, ln])
    (hS : DictI Challenge.rw_jb0019_01.row.prog w oS q.S bS) (hX : DictI Challenge.rw_jb0019_01.row.prog w oE q.X bX) (hbS : bS < 8388608) (hbX : bX < 8388608)
    (hV : DictI Challenge.rw_jb0019_01.row.prog w oV FM.nil bV) (hbV : bV < 8388608) (hd : dp + 3 < recursionLimit)
    (hret : ∀ oS' oE' h' tk' ks, (∀ k, k ∈ ks ↔ (q.X k).isSome = true) → ks.Nodup → Fr h₀ L h' m → News h₀ L h' (SL w.params dS dE dV ln x dx f c cl oS' oE' oV (W.listOf #[.int now tn] nl) t1 t2 t3 t4 p1 p2 p3 qual pm ctv oc ocl rest) →
      DictI Challenge.rw_jb0019_01.row.prog w oS' (q.sweep ks now).S bS → DictI Challenge.rw_jb0019_01.row.prog w oE' (q.sweep ks now).X bX →
      Q .none { s with heap := h', toks := tk' }) :
    wpAny (model Challenge.rw_jb0019_01.row.prog w) (ktrTop dp un gd cn cs L a ccd cll outer) (call (.ref 73) [.ref x]) Q E s := by
  revert X; k_fill; intro X
  have O' := O
  obtain ⟨⟨vs, t, d1, d2⟩, d3, o1, o2, o3, o4, o5, o6, o7, o8, lS, lE, lV⟩ := O'
  refine wpAny_call ?_
  k_dflt ktr_enter
  k_steps
  rename News _ _ _ _ => N1
  rename Fr _ _ _ _ => F1
  rename StrsOf _ _ => S1
  rename (∀ k, k ∈ _ ↔ _) => M1
  refine iter_listTurns rfl F1 N1 (.head _) rfl rfl (fun I hI => ?_)
  cases S1 with
  | cons k t r => exact absurd ((M1 k).mp (List.mem_cons_self ..)) (by simp [FM.nil])
  | nil =>
  refine ItemsRest.zero (fun h1 tk1 F2 N2 => ?_)
  clear N1 F1 M1
  k_steps
  rename News _ _ _ _ => N1
  rename Fr _ _ _ _ => F1
  rename StrsOf _ _ => S1
  rename (∀ k, k ∈ _ ↔ _) => M1
  rename List.Nodup _ => ND1
  rename_i B2 c2 h2 tk2 vs2 ks2 l2
  have N2 : News _ _ _ ((B2, W.listOf vs2.toArray c2) :: (SL w.params dS dE dV ln x dx f c cl oS oE oV (W.listOf #[.int now tn] nl) t1 t2 t3 t4 p1 p2 p3 qual pm ctv oc ocl rest)) :=
    fun p hp => N1 p (by rcases List.mem_cons.mp hp with rfl | hp; exact .head _; exact .tail _ (.tail _ (.tail _ (.tail _ hp))))
  clear N1
  refine iter_listTurns rfl F1 N2 (.head _) rfl rfl (fun I hI => ?_)
  refine itemsRest_ind (fun r m' news => ∃ oS' oE' ks pre, StrsOf r ks ∧ ks.Nodup ∧ pre ++ ks = ks2 ∧ (∀ k ∈ ks, ((q.sweep pre now).X k).isSome = true) ∧
    news = (B2, W.listOf vs2.toArray c2) :: (SL w.params dS dE dV ln x dx f c cl oS' oE' oV (W.listOf #[.int now tn] nl) t1 t2 t3 t4 p1 p2 p3 qual pm ctv oc ocl rest) ∧ m' (Str.ofString "self") = some (.ref x) ∧
    DictI Challenge.rw_jb0019_01.row.prog w oS' (q.sweep pre now).S bS ∧ DictI Challenge.rw_jb0019_01.row.prog w oE' (q.sweep pre now).X bX) ?_ ?_ ?_ _ _ _ ?_
  · rintro r m' news ⟨oS', oE', ks, pre, _, _, _, _, rfl, _⟩
    exact .head _
  · rintro v r m' news ⟨oS', oE', ks, pre, hs, hnd, happ, hsome, rfl, hm, hS', hX'⟩ h tk it hit F3 N3
    cases hs with
    | @cons k t vs3 ks3 hs =>
    obtain ⟨n, hn⟩ := Option.isSome_iff_exists.mp (hsome k (List.mem_cons_self ..))
    obtain ⟨u, rfl⟩ : ∃ u : Str → Option Value, m' = fun y => if y = Str.ofString "self" then some (.ref x) else u y := ⟨m', by funext y; by_cases e : y = Str.ofString "self" <;> simp [e, hm]⟩
    clear N2 F1 M1 ND1 S1
    dsimp only [SL] at N3
    have hIr : AllLt I rest := allLt_of fun p hp => hI p (.tail _ (.tail _ (.tail _ (.tail _ (.tail _ (.tail _ (.tail _ (.tail _ (.tail _ (.tail _ hp))))))))))
    k_lt hI
    have hlt : ∀ a b, AllLt I ((B2, W.listOf vs2.toArray c2) :: (SL w.params dS dE dV ln x dx f c cl a b oV (W.listOf #[.int now tn] nl) t1 t2 t3 t4 p1 p2 p3 qual pm ctv oc ocl rest)) := by
      intro a b
      dsimp only [SL, AllLt]
      exact hI
    have hne : ∀ a b, ∀ p ∈ (B2, W.listOf vs2.toArray c2) :: (SL w.params dS dE dV ln x dx f c cl a b oV (W.listOf #[.int now tn] nl) t1 t2 t3 t4 p1 p2 p3 qual pm ctv oc ocl rest), ∀ q ∈ [(I, it)], p.1 ≠ q.1 := by
      intro a b p hp q hq
      rw [List.mem_singleton.mp hq]
      exact Nat.ne_of_lt (ktn_ltOf (hlt a b) p hp)
    k_steps
    · have hle : n ≤ now := by assumption
      have e := StoreM.sweep_snoc q pre k now
      rw [StoreM.get_pos hn hle] at e
      refine ⟨_, _, _, _, rfl, by k_asm, by k_asm, hne _ _, _, _, ks3, pre ++ [k], hs, (List.nodup_cons.mp hnd).2, by rw [List.append_assoc]; exact happ, ?_, rfl, rfl, by rw [e]; k_asm, by rw [e]; k_asm⟩
      intro y hy
      rw [e]
      show ((q.sweep pre now).X.del k y).isSome = true
      have hyk : y ≠ k := by rintro rfl; exact (List.nodup_cons.mp hnd).1 hy
      rw [FM.del_ne hyk]
      exact hsome y (.tail _ hy)
    · have hle : ¬ n ≤ now := by assumption
      have e := StoreM.sweep_snoc q pre k now
      rw [StoreM.get_neg hn hle] at e
      refine ⟨_, _, _, _, rfl, by k_asm, by k_asm, hne _ _, _, _, ks3, pre ++ [k], hs, (List.nodup_cons.mp hnd).2, by rw [List.append_assoc]; exact happ, ?_, rfl, rfl, by rw [e]; k_asm, by rw [e]; k_asm⟩
      intro y hy
      rw [e]
      exact hsome y (.tail _ hy)
  · rintro m' news ⟨oS', oE', ks, pre, hs, hnd, happ, hsome, rfl, hm, hS', hX'⟩ h tk F3 N3
    cases hs
    rw [List.append_nil] at happ
    subst happ
    have N4 : News _ _ _ (SL w.params dS dE dV ln x dx f c cl oS' oE' oV (W.listOf #[.int now tn] nl) t1 t2 t3 t4 p1 p2 p3 qual pm ctv oc ocl rest) := fun p hp => N3 p (.tail _ hp)
    clear N2 N3 F1 S1
    k_steps

    exact hret _ _ _ _ _ M1 ND1 (by k_asm) (by k_asm) hS' hX'
  · exact ⟨oS, oE, ks2, [], S1, ND1, rfl, fun k hk => (M1 k).mp hk, rfl, rfl, hS, hX⟩
end
end Mine

namespace Mine
open PySem PySem.W PySem.Calls PyProof.Rows PyProof.V PySem.Spec

/-- what may be seen of a key -/
def obsS (q : StoreM) (k : Str) (now : Int) : Int × Option Int := if (q.X k).getD 0 ≤ now then (0, none) else ((q.S k).getD 0, q.X k)
def lawStep (st : Int × Option Int) (r : Int × Int × Int) : Int × Option Int :=
  let st := match st.2 with | some e => if e ≤ r.1 then (0, none) else st | none => st
  if r.2.1 = 0 then (if st.1 - r.2.2 > 0 then st.1 - r.2.2 else 0, st.2)
  else (st.1 + r.2.2, if st.1 = 0 then some (r.1 + r.2.1) else st.2)
def lawRun (d : List (Int × Int × Int)) : Int × Option Int := d.foldl lawStep (0, none)
def obsL (st : Int × Option Int) (now : Int) : Int × Option Int := match st.2 with | some e => if e ≤ now then (0, none) else st | none => (0, none)
def keyS (i : Int) : Str := Str.ofString "k" ++ Str.ofString (toString i)

structure RelK (q : StoreM) (k : Str) (d : List (Int × Int × Int)) (now : Int) : Prop where
  eq : obsS q k now = obsL (lawRun d) now
  ok : (lawRun d).2 = none → (lawRun d).1 = 0
structure PInv (q : StoreM) (d0 d1 d2 : List (Int × Int × Int)) (now : Int) : Prop where
  now0 : 0 ≤ now
  r0 : RelK q (keyS 0) d0 now
  r1 : RelK q (keyS 1) d1 now
  r2 : RelK q (keyS 2) d2 now
  rn : obsS q (Str.ofString "none") now = (0, none)

theorem keyS_ne : keyS 0 ≠ keyS 1 ∧ keyS 0 ≠ keyS 2 ∧ keyS 1 ≠ keyS 2 ∧ keyS 0 ≠ Str.ofString "none" ∧ keyS 1 ≠ Str.ofString "none" ∧ keyS 2 ≠ Str.ofString "none" := by
  decide +kernel

theorem lawRun_snoc (d : List (Int × Int × Int)) (r : Int × Int × Int) : lawRun (d ++ [r]) = lawStep (lawRun d) r := by
  unfold lawRun; rw [List.foldl_append]; rfl

section
variable {q : StoreM} {k k' : Str} {d : List (Int × Int × Int)} {now now' len amt : Int}
theorem obsS_congr {q' : StoreM} (hS : q'.S k = q.S k) (hX : q'.X k = q.X k) : obsS q' k now = obsS q k now := by unfold obsS; rw [hS, hX]
theorem get_SX_ne (h : k' ≠ k) : (q.get k now).S k' = q.S k' ∧ (q.get k now).X k' = q.X k' := by
  unfold StoreM.get
  split
  · exact ⟨if_neg h, if_neg h⟩
  · exact ⟨rfl, rfl⟩
/-- what a look at a key leaves there -/
theorem get_SX (h0 : 0 ≤ now) : (((q.get k now).S k).getD 0, (q.get k now).X k) = obsS q k now := by
  unfold obsS StoreM.get
  split
  · show ((if k = k then none else q.S k : Option Int).getD 0, (if k = k then none else q.X k : Option Int)) = _
    simp
  · rfl
theorem get_S (h0 : 0 ≤ now) : ((q.get k now).S k).getD 0 = (obsS q k now).1 := congrArg Prod.fst (get_SX h0)
theorem get_X (h0 : 0 ≤ now) : (q.get k now).X k = (obsS q k now).2 := congrArg Prod.snd (get_SX h0)
theorem obsS_get (h0 : 0 ≤ now) (k' : Str) : obsS (q.get k now) k' now = obsS q k' now := by
  by_cases h : k' = k
  · subst h
    have e := get_X (q := q) (k := k') h0
    have e1 := get_S (q := q) (k := k') h0
    show (if ((q.get k' now).X k').getD 0 ≤ now then ((0 : Int), (none : Option Int)) else (((q.get k' now).S k').getD 0, (q.get k' now).X k')) = _
    rw [e, e1]
    unfold obsS
    split
    · exact if_pos h0
    · rfl
  · obtain ⟨a, b⟩ := get_SX_ne (q := q) (now := now) h
    exact obsS_congr a b
theorem obsS_none (h0 : 0 ≤ now) (h : (obsS q k now).2 = none) : (obsS q k now).1 = 0 := by
  unfold obsS at h ⊢
  split
  · rfl
  · rename_i hn
    rw [if_neg hn] at h
    have h2 : q.X k = none := h
    rw [h2] at hn
    exact absurd h0 hn

theorem obsL_later (st : Int × Option Int) (h : now ≤ now') : obsL (obsL st now) now' = obsL st now' := by
  obtain ⟨c, e⟩ := st
  cases e with
  | none => rfl
  | some e =>
    unfold obsL
    by_cases h1 : e ≤ now
    · have h2 : e ≤ now' := Int.le_trans h1 h
      simp [h1, h2]
    · simp [h1]
theorem obsS_later (h0 : 0 ≤ now) (h : now ≤ now') : obsL (obsS q k now) now' = obsS q k now' := by
  unfold obsS
  cases e : q.X k with
  | none => simp [obsL, h0, Int.le_trans h0 h]
  | some x =>
    by_cases h1 : x ≤ now
    · have h2 : x ≤ now' := Int.le_trans h1 h
      simp [obsL, h1, h2]
    · by_cases h2 : x ≤ now'
      · simp [obsL, h1, h2]
      · simp [obsL, h1, h2]
theorem RelK.later (R : RelK q k d now) (h0 : 0 ≤ now) (h : now ≤ now') : RelK q k d now' :=
  ⟨by rw [← obsS_later h0 h, R.eq, obsL_later _ h], R.ok⟩
theorem PInv.later {d0 d1 d2 : List (Int × Int × Int)} (P : PInv q d0 d1 d2 now) (h : now ≤ now') : PInv q d0 d1 d2 now' :=
  ⟨Int.le_trans P.now0 h, P.r0.later P.now0 h, P.r1.later P.now0 h, P.r2.later P.now0 h, by rw [← obsS_later P.now0 h, P.rn]; rfl⟩

/-- the fold's step at this very moment, of what may be seen -/
theorem lawStep_now (d : List (Int × Int × Int)) (len amt : Int) : lawStep (lawRun d) (now, len, amt) = lawStep (if (lawRun d).2 = none then lawRun d else obsL (lawRun d) now) (now, len, amt) := by
  obtain ⟨c, e⟩ := lawRun d
  cases e with
  | none => rfl
  | some e =>
    simp only [reduceCtorEq, if_false]
    unfold lawStep obsL
    by_cases h : e ≤ now
    · simp [h]
    · simp [h]
theorem RelK.seen (R : RelK q k d now) : lawStep (lawRun d) (now, len, amt) = lawStep (obsS q k now) (now, len, amt) := by
  rw [lawStep_now, R.eq]
  by_cases h : (lawRun d).2 = none
  · rw [if_pos h]
    have h1 := R.ok h
    have e : lawRun d = (0, none) := Prod.ext h1 h
    rw [e]; rfl
  · rw [if_neg h]
theorem obsS_alive (h0 : 0 ≤ now) {e : Int} (h : (obsS q k now).2 = some e) : ¬ e ≤ now := by
  unfold obsS at h
  split at h
  · cases h
  · rename_i hn
    have h2 : q.X k = some e := h
    rw [h2] at hn
    exact hn
theorem lawStep_obs (h0 : 0 ≤ now) : lawStep (obsS q k now) (now, len, amt) =
    (if len = 0 then (if (obsS q k now).1 - amt > 0 then (obsS q k now).1 - amt else 0, (obsS q k now).2) else ((obsS q k now).1 + amt, if (obsS q k now).1 = 0 then some (now + len) else (obsS q k now).2)) := by
  unfold lawStep
  cases e : (obsS q k now).2 with
  | none => simp [e]
  | some x => simp [e, obsS_alive h0 e]

theorem incr_eq (h0 : 0 ≤ now) (hl : 0 < len) : obsS (q.incr k len amt now) k now = ((obsS q k now).1 + amt, if (obsS q k now).1 = 0 then some (now + len) else (obsS q k now).2) := by
  have eS : (q.incr k len amt now).S k = some ((obsS q k now).1 + amt) := by
    rw [StoreM.incr_S, FM.set_self, get_S h0]
  have eX : (q.incr k len amt now).X k = if (obsS q k now).1 = 0 then some (now + len) else (obsS q k now).2 := by
    by_cases h : (obsS q k now).1 = 0
    · rw [StoreM.incr_pos (by rw [get_S h0, h]; omega), FM.set_self, if_pos h]
    · rw [StoreM.incr_neg (by rw [get_S h0]; omega), if_neg h, get_X h0]
  generalize hr : q.incr k len amt now = r at eS eX
  show (if (r.X k).getD 0 ≤ now then ((0 : Int), (none : Option Int)) else ((r.S k).getD 0, r.X k)) = _
  rw [eS, eX]
  by_cases h : (obsS q k now).1 = 0
  · simp only [if_pos h]
    rw [if_neg (by show ¬ now + len ≤ now; omega)]
    rfl
  · simp only [if_neg h]
    cases e : (obsS q k now).2 with
    | none => exact absurd (obsS_none h0 e) h
    | some x => rw [if_neg (show ¬ (some x).getD 0 ≤ now from obsS_alive h0 e)]; rfl
theorem decr_eq (h0 : 0 ≤ now) (ha : 0 ≤ amt) : obsS (q.decr k amt now) k now = (if (obsS q k now).1 - amt > 0 then (obsS q k now).1 - amt else 0, (obsS q k now).2) := by
  have eS : (q.decr k amt now).S k = some (if 0 > (obsS q k now).1 - amt then 0 else (obsS q k now).1 - amt) := by
    show (q.get k now).S.set k _ k = _
    rw [FM.set_self, get_S h0]
  have eX : (q.decr k amt now).X k = (obsS q k now).2 := get_X h0
  generalize hr : q.decr k amt now = r at eS eX
  show (if (r.X k).getD 0 ≤ now then ((0 : Int), (none : Option Int)) else ((r.S k).getD 0, r.X k)) = _
  rw [eS, eX]
  cases e : (obsS q k now).2 with
  | none =>
    have h1 := obsS_none h0 e
    rw [if_pos (by exact h0), h1]
    by_cases h2 : 0 - amt > 0
    · omega
    · rw [if_neg h2]
  | some x =>
    rw [if_neg (show ¬ (some x).getD 0 ≤ now from obsS_alive h0 e)]
    refine Prod.ext ?_ rfl
    show (if 0 > (obsS q k now).1 - amt then 0 else (obsS q k now).1 - amt) = if (obsS q k now).1 - amt > 0 then (obsS q k now).1 - amt else 0
    by_cases h2 : (obsS q k now).1 - amt > 0
    · rw [if_pos h2, if_neg (by omega)]
    · rw [if_neg h2]; split <;> omega
theorem clear_eq (h0 : 0 ≤ now) : obsS (q.clear k) k now = (0, none) := by
  have eX : (q.clear k).X k = none := if_pos rfl
  unfold obsS
  rw [eX, if_pos (by exact h0)]
theorem incr_ne (h0 : 0 ≤ now) (h : k' ≠ k) : obsS (q.incr k len amt now) k' now = obsS q k' now := by
  rw [← obsS_get (q := q) h0 k' (k := k)]
  refine obsS_congr (if_neg h) ?_
  by_cases h1 : ((q.get k now).S k).getD 0 + amt = amt
  · rw [StoreM.incr_pos h1]; exact if_neg h
  · rw [StoreM.incr_neg h1]
theorem decr_ne (h0 : 0 ≤ now) (h : k' ≠ k) : obsS (q.decr k amt now) k' now = obsS q k' now := by
  rw [← obsS_get (q := q) h0 k' (k := k)]
  exact obsS_congr (if_neg h) rfl
theorem clear_ne (h : k' ≠ k) : obsS (q.clear k) k' now = obsS q k' now := obsS_congr (if_neg h) (if_neg h)
theorem reset_eq (h0 : 0 ≤ now) : obsS ⟨FM.nil, FM.nil⟩ k now = (0, none) := if_pos h0
theorem sweep_eq (h0 : 0 ≤ now) (ks : List Str) : obsS (q.sweep ks now) k now = obsS q k now := by
  unfold StoreM.sweep
  induction ks generalizing q with
  | nil => rfl
  | cons y r ih => rw [List.foldl_cons, ih, obsS_get h0]

theorem RelK.incr (R : RelK q k d now) (h0 : 0 ≤ now) (hl : 0 < len) : RelK (q.incr k len amt now) k (d ++ [(now, len, amt)]) now := by
  have e := incr_eq (q := q) (k := k) (amt := amt) h0 hl
  have e2 := lawStep_obs (q := q) (k := k) (len := len) (amt := amt) h0
  rw [if_neg (by omega)] at e2
  have e3 : lawRun (d ++ [(now, len, amt)]) = obsS (q.incr k len amt now) k now := by rw [lawRun_snoc, R.seen, e2, e]
  have h2 : ∃ x, (obsS (q.incr k len amt now) k now).2 = some x := by
    rw [e]
    by_cases h : (obsS q k now).1 = 0
    · exact ⟨_, if_pos h⟩
    · show ∃ x, (if (obsS q k now).1 = 0 then some (now + len) else (obsS q k now).2) = some x
      rw [if_neg h]
      cases e5 : (obsS q k now).2 with
      | none => exact absurd (obsS_none h0 e5) h
      | some x => exact ⟨x, rfl⟩
  obtain ⟨x, hx⟩ := h2
  refine ⟨?_, fun h => ?_⟩
  · rw [e3]
    unfold obsL
    simp only [hx]
    exact (if_neg (obsS_alive h0 hx)).symm
  · rw [e3, hx] at h; cases h
theorem RelK.decr (R : RelK q k d now) (h0 : 0 ≤ now) (ha : 0 ≤ amt) : RelK (q.decr k amt now) k (d ++ [(now, 0, amt)]) now := by
  have e := decr_eq (q := q) (k := k) (amt := amt) h0 ha
  have e2 := lawStep_obs (q := q) (k := k) (len := 0) (amt := amt) h0
  rw [if_pos rfl] at e2
  have e3 : lawRun (d ++ [(now, 0, amt)]) = obsS (q.decr k amt now) k now := by rw [lawRun_snoc, R.seen, e2, e]
  refine ⟨?_, fun h => ?_⟩
  · rw [e3]
    unfold obsL
    cases hx : (obsS (q.decr k amt now) k now).2 with
    | none => exact Prod.ext (obsS_none h0 hx) hx
    | some x => exact (if_neg (obsS_alive h0 hx)).symm
  · rw [e3] at h ⊢; exact obsS_none h0 h
theorem told_incr (h0 : 0 ≤ now) (hl : 0 < len) : ((q.get k now).S k).getD 0 + amt = (obsS (q.incr k len amt now) k now).1 := by rw [incr_eq h0 hl, get_S h0]
theorem told_decr (h0 : 0 ≤ now) (ha : 0 ≤ amt) : (if 0 > ((q.get k now).S k).getD 0 - amt then 0 else ((q.get k now).S k).getD 0 - amt) = (obsS (q.decr k amt now) k now).1 := by
  rw [decr_eq h0 ha, get_S h0]
  show _ = if (obsS q k now).1 - amt > 0 then (obsS q k now).1 - amt else 0
  split <;> split <;> omega
theorem RelK.other {q' : StoreM} (R : RelK q k d now) (h : obsS q' k now = obsS q k now) : RelK q' k d now := ⟨h.trans R.eq, R.ok⟩
theorem RelK.nil (h : obsS q k now = (0, none)) : RelK q k [] now := ⟨h, fun _ => rfl⟩
section
variable {d0 d1 d2 : List (Int × Int × Int)}
theorem PInv.incr0 (P : PInv q d0 d1 d2 now) (hl : 0 < len) : PInv (q.incr (keyS 0) len amt now) (d0 ++ [(now, len, amt)]) d1 d2 now :=
  ⟨P.now0, P.r0.incr P.now0 hl, P.r1.other (incr_ne P.now0 (Ne.symm keyS_ne.1)), P.r2.other (incr_ne P.now0 (Ne.symm keyS_ne.2.1)), (incr_ne P.now0 (Ne.symm keyS_ne.2.2.2.1)).trans P.rn⟩
theorem PInv.incr1 (P : PInv q d0 d1 d2 now) (hl : 0 < len) : PInv (q.incr (keyS 1) len amt now) d0 (d1 ++ [(now, len, amt)]) d2 now :=
  ⟨P.now0, P.r0.other (incr_ne P.now0 keyS_ne.1), P.r1.incr P.now0 hl, P.r2.other (incr_ne P.now0 (Ne.symm keyS_ne.2.2.1)), (incr_ne P.now0 (Ne.symm keyS_ne.2.2.2.2.1)).trans P.rn⟩
theorem PInv.incr2 (P : PInv q d0 d1 d2 now) (hl : 0 < len) : PInv (q.incr (keyS 2) len amt now) d0 d1 (d2 ++ [(now, len, amt)]) now :=
  ⟨P.now0, P.r0.other (incr_ne P.now0 keyS_ne.2.1), P.r1.other (incr_ne P.now0 keyS_ne.2.2.1), P.r2.incr P.now0 hl, (incr_ne P.now0 (Ne.symm keyS_ne.2.2.2.2.2)).trans P.rn⟩
theorem PInv.decr0 (P : PInv q d0 d1 d2 now) (hl : 0 ≤ amt) : PInv (q.decr (keyS 0) amt now) (d0 ++ [(now, 0, amt)]) d1 d2 now :=
  ⟨P.now0, P.r0.decr P.now0 hl, P.r1.other (decr_ne P.now0 (Ne.symm keyS_ne.1)), P.r2.other (decr_ne P.now0 (Ne.symm keyS_ne.2.1)), (decr_ne P.now0 (Ne.symm keyS_ne.2.2.2.1)).trans P.rn⟩
theorem PInv.decr1 (P : PInv q d0 d1 d2 now) (hl : 0 ≤ amt) : PInv (q.decr (keyS 1) amt now) d0 (d1 ++ [(now, 0, amt)]) d2 now :=
  ⟨P.now0, P.r0.other (decr_ne P.now0 keyS_ne.1), P.r1.decr P.now0 hl, P.r2.other (decr_ne P.now0 (Ne.symm keyS_ne.2.2.1)), (decr_ne P.now0 (Ne.symm keyS_ne.2.2.2.2.1)).trans P.rn⟩
theorem PInv.decr2 (P : PInv q d0 d1 d2 now) (hl : 0 ≤ amt) : PInv (q.decr (keyS 2) amt now) d0 d1 (d2 ++ [(now, 0, amt)]) now :=
  ⟨P.now0, P.r0.other (decr_ne P.now0 keyS_ne.2.1), P.r1.other (decr_ne P.now0 keyS_ne.2.2.1), P.r2.decr P.now0 hl, (decr_ne P.now0 (Ne.symm keyS_ne.2.2.2.2.2)).trans P.rn⟩
theorem PInv.clear0 (P : PInv q d0 d1 d2 now) : PInv (q.clear (keyS 0)) [] d1 d2 now :=
  ⟨P.now0, .nil (clear_eq P.now0), P.r1.other (clear_ne (Ne.symm keyS_ne.1)), P.r2.other (clear_ne (Ne.symm keyS_ne.2.1)), (clear_ne (Ne.symm keyS_ne.2.2.2.1)).trans P.rn⟩
theorem PInv.clear1 (P : PInv q d0 d1 d2 now) : PInv (q.clear (keyS 1)) d0 [] d2 now :=
  ⟨P.now0, P.r0.other (clear_ne keyS_ne.1), .nil (clear_eq P.now0), P.r2.other (clear_ne (Ne.symm keyS_ne.2.2.1)), (clear_ne (Ne.symm keyS_ne.2.2.2.2.1)).trans P.rn⟩
theorem PInv.clear2 (P : PInv q d0 d1 d2 now) : PInv (q.clear (keyS 2)) d0 d1 [] now :=
  ⟨P.now0, P.r0.other (clear_ne keyS_ne.2.1), P.r1.other (clear_ne keyS_ne.2.2.1), .nil (clear_eq P.now0), (clear_ne (Ne.symm keyS_ne.2.2.2.2.2)).trans P.rn⟩
theorem PInv.reset (h : 0 ≤ now) : PInv ⟨FM.nil, FM.nil⟩ [] [] [] now := ⟨h, .nil (reset_eq h), .nil (reset_eq h), .nil (reset_eq h), reset_eq h⟩
theorem PInv.sweep (P : PInv q d0 d1 d2 now) (ks : List Str) : PInv (q.sweep ks now) d0 d1 d2 now :=
  ⟨P.now0, P.r0.other (sweep_eq P.now0 ks), P.r1.other (sweep_eq P.now0 ks), P.r2.other (sweep_eq P.now0 ks), (sweep_eq P.now0 ks).trans P.rn⟩
theorem PInv.get (P : PInv q d0 d1 d2 now) (k : Str) : PInv (q.get k now) d0 d1 d2 now :=
  ⟨P.now0, P.r0.other (obsS_get P.now0 _), P.r1.other (obsS_get P.now0 _), P.r2.other (obsS_get P.now0 _), (obsS_get P.now0 _).trans P.rn⟩
end
end
end Mine

namespace Mine
open PySem PySem.W PySem.Calls PyProof.Rows PyProof.V PySem.Spec

abbrev SC (P : Params) (dS dE dV ln x dx f c cl : Addr) (lnO : Obj) (t1 t2 t3 t4 : Tok) (p1 p2 p3 : Pos) (qual : Str) (pm ctv : Value) (oc ocl : Obj) : Led :=
  [(ln, lnO), (x, instObj 171 dx),
      (dx, W.dictOf [{ hash := PyData.keyHash P (Str.ofString "clock"), key := .str (Str.ofString "clock") t1, val := .ref f }, { hash := PyData.keyHash P (Str.ofString "storage"), key := .str (Str.ofString "storage") t2, val := .ref dS },
        { hash := PyData.keyHash P (Str.ofString "expirations"), key := .str (Str.ofString "expirations") t3, val := .ref dE }, { hash := PyData.keyHash P (Str.ofString "events"), key := .str (Str.ofString "events") t4, val := .ref dV }] 4),
      (f, lamObj p1 p2 p3 qual cl c pm ctv), (c, oc), (cl, ocl)]

/-- the store within a larger ledger, told as a function of its three dicts -/
structure GS (news : Led) (oS oE oV : Obj) (g1 : Obj → Led) (g2 : Obj → Obj → Led) (G : Obj → Obj → Obj → Led) (dS dE dV : Addr) (con : Led) : Prop where
  uS : UpdF dS oS news g1
  uE : ∀ a, UpdF dE oE (g1 a) (g2 a)
  uV : ∀ a b, UpdF dV oV (g2 a b) (G a b)
  mem : ∀ p ∈ con, p ∈ news

theorem updF_mem {d : Addr} {o o' : Obj} {news : Led} {g : Obj → Led} (U : UpdF d o news g) : ∀ p ∈ g o', p = (d, o') ∨ (p ∈ news ∧ p.1 ≠ d) := by
  obtain ⟨pre, post, rfl, hg, a, b⟩ := U.split
  intro p hp
  rw [hg] at hp
  rcases List.mem_append.mp hp with hp | hp
  · exact .inr ⟨List.mem_append_left _ hp, a p hp⟩
  · rcases List.mem_cons.mp hp with rfl | hp
    · exact .inl rfl
    · exact .inr ⟨List.mem_append_right _ (.tail _ hp), b p hp⟩
theorem updF_self {d : Addr} {o : Obj} {news : Led} {g : Obj → Led} (U : UpdF d o news g) : (d, o) ∈ news := by
  obtain ⟨pre, post, rfl, hg, a, b⟩ := U.split
  exact List.mem_append_right _ (.head _)

section
variable {h₀ h h' : Heap} {L : Addr} {G : Obj → Obj → Obj → Led} {dS dE dV ln : Addr} {lnO oS oE oV oS' oE' oV' : Obj} {con : Led}
def restOf (l : Led) (as : List Addr) : Led := l.filter (fun p => !as.contains p.1)
theorem restOf_off (l : Led) (as : List Addr) : OwnOff (restOf l as) as := by
  intro p hp b hb e
  have := (List.mem_filter.mp hp).2
  rw [e] at this
  simp [hb] at this
theorem updF_same {d : Addr} {o : Obj} {news : Led} {g : Obj → Led} (U : UpdF d o news g) : g o = news := by
  obtain ⟨pre, post, rfl, hg, _, _⟩ := U.split
  exact hg o
theorem GS.to {news : Led} {g1 : Obj → Led} {g2 : Obj → Obj → Led} (H : GS news oS oE oV g1 g2 G dS dE dV ((ln, lnO) :: con)) (N : News h₀ L h news) :
    News h₀ L h ((dS, oS) :: (dE, oE) :: (dV, oV) :: (ln, lnO) :: (con ++ restOf news [dS, dE, dV, ln])) := by
  have s1 := updF_same H.uS
  have s2 := updF_same (H.uE oS)
  intro p hp
  refine N p ?_
  rcases List.mem_cons.mp hp with rfl | hp
  · exact updF_self H.uS
  rcases List.mem_cons.mp hp with rfl | hp
  · exact s1 ▸ updF_self (H.uE oS)
  rcases List.mem_cons.mp hp with rfl | hp
  · exact s1 ▸ s2 ▸ updF_self (H.uV oS oE)
  rcases List.mem_cons.mp hp with rfl | hp
  · exact H.mem _ (.head _)
  rcases List.mem_append.mp hp with hp | hp
  · exact H.mem _ (.tail _ hp)
  · exact (List.mem_filter.mp hp).1
theorem GS.back {news : Led} {g1 : Obj → Led} {g2 : Obj → Obj → Led} (H : GS news oS oE oV g1 g2 G dS dE dV ((ln, lnO) :: con)) (N : News h₀ L h news)
    (N' : News h₀ L h' ((dS, oS') :: (dE, oE') :: (dV, oV') :: (ln, lnO) :: (con ++ restOf news [dS, dE, dV, ln]))) : News h₀ L h' (G oS' oE' oV') := by
  intro p hp
  refine N' p ?_
  rcases updF_mem (H.uV oS' oE') p hp with rfl | ⟨hp, hV⟩
  · exact .tail _ (.tail _ (.head _))
  rcases updF_mem (H.uE oS') p hp with rfl | ⟨hp, hE⟩
  · exact .tail _ (.head _)
  rcases updF_mem H.uS p hp with rfl | ⟨hp, hS⟩
  · exact .head _
  by_cases hl : p.1 = ln
  · have e1 := (N p hp).1
    have e2 := (N _ (H.mem (ln, lnO) (.head _))).1
    rw [hl] at e1
    have : p.2 = lnO := by
      have e3 : h.get? ln = some lnO := e2
      rw [e1] at e3; exact Option.some.inj e3
    have : p = (ln, lnO) := by rw [← hl, ← this]
    rw [this]
    exact .tail _ (.tail _ (.tail _ (.head _)))
  · refine .tail _ (.tail _ (.tail _ (.tail _ (List.mem_append_right _ (List.mem_filter.mpr ⟨hp, ?_⟩)))))
    simp [hV, hE, hS, hl]
end

section
variable {w : World} {p : Program} {loose : List Str} {mean : ExcName → Option Value} {mg mb : Str → Option Value}
  {dp un : Nat} {gd : Option (List Code)} {cn : Str} {cs : Scope} {a : Addr} {ccd : Value} {cll : List (Str × Addr)} {outer : List Env} {A₀ : Around} {base h₀ : Heap} {L : Addr} {m : Str → Option Value} {s : Shared}
  {Q E : Value → Shared → Prop} {dS dE dV ln x dx f c cl : Addr} {oS oE oV : Obj} {now : Int} {tn : Tok} {nl : Nat} {t1 t2 t3 t4 : Tok} {p1 p2 p3 : Pos}
  {qual : Str} {pm ctv : Value} {oc ocl : Obj} {q : StoreM} {k : Str} {tk tk2 tk3 : Tok} {len amt : Int} {bS bX bV : Nat} {news : Led} {g1 : Obj → Led} {g2 : Obj → Obj → Led} {G : Obj → Obj → Obj → Led}

theorem get_callG
    (O : SOk dS dE dV ln x dx f c cl qual oc ocl) (B : Below A₀ base outer h₀) (F : Fr h₀ L s.heap m) (X : (hd01.heap_39 w.params).In h₀)
    (hS : DictI Challenge.rw_jb0019_01.row.prog w oS q.S bS) (hX : DictI Challenge.rw_jb0019_01.row.prog w oE q.X bX) (hV : DictI Challenge.rw_jb0019_01.row.prog w oV FM.nil bV)
    (N : News h₀ L s.heap news) (H : GS news oS oE oV g1 g2 G dS dE dV (SC w.params dS dE dV ln x dx f c cl (W.listOf #[.int now tn] nl) t1 t2 t3 t4 p1 p2 p3 qual pm ctv oc ocl))
    (T : Top p loose mean mg mb h₀) (hk : cs.kind = .function)
    (hbS : bS < 8388608) (hbX : bX < 8388608) (hd : dp + 3 < recursionLimit)
    (hret : ∀ oS' oE' t' h' tk', Fr h₀ L h' m → News h₀ L h' (G oS' oE' oV) →
      DictI Challenge.rw_jb0019_01.row.prog w oS' (q.get k now).S bS → DictI Challenge.rw_jb0019_01.row.prog w oE' (q.get k now).X bX →
      Q (.int (((q.get k now).S k).getD 0) t') { s with heap := h', toks := tk' }) :
    wpAny (model Challenge.rw_jb0019_01.row.prog w) (ktrTop dp un gd cn cs L a ccd cll outer) (call (.ref 96) [.ref x, .str k tk]) Q E s :=
  get_call B F X (H.to N) T hk O (restOf_off _ _) hS hX (by omega) (by omega) (by omega) fun oS' oE' t' h' tk' F' N' => hret oS' oE' t' h' tk' F' (H.back N N')
theorem incr_callG
    (O : SOk dS dE dV ln x dx f c cl qual oc ocl) (B : Below A₀ base outer h₀) (F : Fr h₀ L s.heap m) (X : (hd01.heap_39 w.params).In h₀)
    (hS : DictI Challenge.rw_jb0019_01.row.prog w oS q.S bS) (hX : DictI Challenge.rw_jb0019_01.row.prog w oE q.X bX) (hV : DictI Challenge.rw_jb0019_01.row.prog w oV FM.nil bV)
    (N : News h₀ L s.heap news) (H : GS news oS oE oV g1 g2 G dS dE dV (SC w.params dS dE dV ln x dx f c cl (W.listOf #[.int now tn] nl) t1 t2 t3 t4 p1 p2 p3 qual pm ctv oc ocl))
    (T : Top p loose mean mg mb h₀) (hk : cs.kind = .function)
    (hbS : bS < 8388608) (hbX : bX < 8388608) (hd : dp + 3 < recursionLimit)
    (hret : ∀ oS' oE' t' h' tk', Fr h₀ L h' m → News h₀ L h' (G oS' oE' oV) →
      DictI Challenge.rw_jb0019_01.row.prog w oS' (q.incr k len amt now).S (bS + 1) → DictI Challenge.rw_jb0019_01.row.prog w oE' (q.incr k len amt now).X (bX + 1) →
      Q (.int ((((q.get k now).S k).getD 0) + amt) t') { s with heap := h', toks := tk' }) :
    wpAny (model Challenge.rw_jb0019_01.row.prog w) (ktrTop dp un gd cn cs L a ccd cll outer) (call (.ref 81) [.ref x, .str k tk, .int len tk2, .int amt tk3]) Q E s :=
  incr_call B F X (H.to N) T hk O (restOf_off _ _) hS hX hbS hbX hd fun oS' oE' t' h' tk' F' N' => hret oS' oE' t' h' tk' F' (H.back N N')
theorem decr_callG
    (O : SOk dS dE dV ln x dx f c cl qual oc ocl) (B : Below A₀ base outer h₀) (F : Fr h₀ L s.heap m) (X : (hd01.heap_39 w.params).In h₀)
    (hS : DictI Challenge.rw_jb0019_01.row.prog w oS q.S bS) (hX : DictI Challenge.rw_jb0019_01.row.prog w oE q.X bX) (hV : DictI Challenge.rw_jb0019_01.row.prog w oV FM.nil bV)
    (N : News h₀ L s.heap news) (H : GS news oS oE oV g1 g2 G dS dE dV (SC w.params dS dE dV ln x dx f c cl (W.listOf #[.int now tn] nl) t1 t2 t3 t4 p1 p2 p3 qual pm ctv oc ocl))
    (T : Top p loose mean mg mb h₀) (hk : cs.kind = .function)
    (hbS : bS < 8388608) (hbX : bX < 8388608) (hd : dp + 3 < recursionLimit)
    (hret : ∀ oS' oE' t' h' tk', Fr h₀ L h' m → News h₀ L h' (G oS' oE' oV) →
      DictI Challenge.rw_jb0019_01.row.prog w oS' (q.decr k amt now).S (bS + 1) → DictI Challenge.rw_jb0019_01.row.prog w oE' (q.decr k amt now).X (bX + 1) →
      Q (.int (if 0 > ((q.get k now).S k).getD 0 - amt then 0 else ((q.get k now).S k).getD 0 - amt) t') { s with heap := h', toks := tk' }) :
    wpAny (model Challenge.rw_jb0019_01.row.prog w) (ktrTop dp un gd cn cs L a ccd cll outer) (call (.ref 89) [.ref x, .str k tk, .int amt tk3]) Q E s :=
  decr_call B F X (H.to N) T hk O (restOf_off _ _) hS hX hbS hbX hd fun oS' oE' t' h' tk' F' N' => hret oS' oE' t' h' tk' F' (H.back N N')
theorem clear_callG
    (O : SOk dS dE dV ln x dx f c cl qual oc ocl) (B : Below A₀ base outer h₀) (F : Fr h₀ L s.heap m) (X : (hd01.heap_39 w.params).In h₀)
    (hS : DictI Challenge.rw_jb0019_01.row.prog w oS q.S bS) (hX : DictI Challenge.rw_jb0019_01.row.prog w oE q.X bX) (hV : DictI Challenge.rw_jb0019_01.row.prog w oV FM.nil bV)
    (N : News h₀ L s.heap news) (H : GS news oS oE oV g1 g2 G dS dE dV (SC w.params dS dE dV ln x dx f c cl (W.listOf #[.int now tn] nl) t1 t2 t3 t4 p1 p2 p3 qual pm ctv oc ocl))
    (T : Top p loose mean mg mb h₀) (hk : cs.kind = .function)
    (hbS : bS < 8388608) (hbX : bX < 8388608) (hbV : bV < 8388608) (hd : dp + 3 < recursionLimit)
    (hret : ∀ oS' oE' oV' h' tk', Fr h₀ L h' m → News h₀ L h' (G oS' oE' oV') →
      DictI Challenge.rw_jb0019_01.row.prog w oS' (q.clear k).S bS → DictI Challenge.rw_jb0019_01.row.prog w oE' (q.clear k).X bX → DictI Challenge.rw_jb0019_01.row.prog w oV' FM.nil bV →
      Q .none { s with heap := h', toks := tk' }) :
    wpAny (model Challenge.rw_jb0019_01.row.prog w) (ktrTop dp un gd cn cs L a ccd cll outer) (call (.ref 103) [.ref x, .str k tk]) Q E s :=
  clear_call B F X (H.to N) T hk O (restOf_off _ _) hS hX hbS hbX hV hbV hd fun oS' oE' oV' h' tk' F' N' => hret oS' oE' oV' h' tk' F' (H.back N N')
theorem reset_callG
    (O : SOk dS dE dV ln x dx f c cl qual oc ocl) (B : Below A₀ base outer h₀) (F : Fr h₀ L s.heap m) (X : (hd01.heap_39 w.params).In h₀)
    (hS : DictI Challenge.rw_jb0019_01.row.prog w oS q.S bS) (hX : DictI Challenge.rw_jb0019_01.row.prog w oE q.X bX) (hV : DictI Challenge.rw_jb0019_01.row.prog w oV FM.nil bV)
    (N : News h₀ L s.heap news) (H : GS news oS oE oV g1 g2 G dS dE dV (SC w.params dS dE dV ln x dx f c cl (W.listOf #[.int now tn] nl) t1 t2 t3 t4 p1 p2 p3 qual pm ctv oc ocl))
    (T : Top p loose mean mg mb h₀) (hk : cs.kind = .function)
    (hbS : bS < 8388608) (hbX : bX < 8388608) (hbV : bV < 8388608) (hd : dp + 3 < recursionLimit)
    (hret : ∀ oS' oE' oV' n' t' h' tk', Fr h₀ L h' m → News h₀ L h' (G oS' oE' oV') →
      DictI Challenge.rw_jb0019_01.row.prog w oS' (StoreM.mk FM.nil FM.nil).S 0 → DictI Challenge.rw_jb0019_01.row.prog w oE' (StoreM.mk FM.nil FM.nil).X 0 → DictI Challenge.rw_jb0019_01.row.prog w oV' FM.nil 0 →
      Q (.int n' t') { s with heap := h', toks := tk' }) :
    wpAny (model Challenge.rw_jb0019_01.row.prog w) (ktrTop dp un gd cn cs L a ccd cll outer) (call (.ref 168) [.ref x]) Q E s :=
  reset_call B F X (H.to N) T hk O (restOf_off _ _) hS hX hbS hbX hV hbV hd fun oS' oE' oV' n' t' h' tk' F' N' => hret oS' oE' oV' n' t' h' tk' F' (H.back N N')
theorem expire_callG
    (O : SOk dS dE dV ln x dx f c cl qual oc ocl) (B : Below A₀ base outer h₀) (F : Fr h₀ L s.heap m) (X : (hd01.heap_39 w.params).In h₀)
    (hS : DictI Challenge.rw_jb0019_01.row.prog w oS q.S bS) (hX : DictI Challenge.rw_jb0019_01.row.prog w oE q.X bX) (hV : DictI Challenge.rw_jb0019_01.row.prog w oV FM.nil bV)
    (N : News h₀ L s.heap news) (H : GS news oS oE oV g1 g2 G dS dE dV (SC w.params dS dE dV ln x dx f c cl (W.listOf #[.int now tn] nl) t1 t2 t3 t4 p1 p2 p3 qual pm ctv oc ocl))
    (T : Top p loose mean mg mb h₀) (hk : cs.kind = .function)
    (hbS : bS < 8388608) (hbX : bX < 8388608) (hbV : bV < 8388608) (hd : dp + 3 < recursionLimit)
    (hret : ∀ oS' oE' h' tk' ks, (∀ k, k ∈ ks ↔ (q.X k).isSome = true) → ks.Nodup → Fr h₀ L h' m → News h₀ L h' (G oS' oE' oV) →
      DictI Challenge.rw_jb0019_01.row.prog w oS' (q.sweep ks now).S bS → DictI Challenge.rw_jb0019_01.row.prog w oE' (q.sweep ks now).X bX →
      Q .none { s with heap := h', toks := tk' }) :
    wpAny (model Challenge.rw_jb0019_01.row.prog w) (ktrTop dp un gd cn cs L a ccd cll outer) (call (.ref 73) [.ref x]) Q E s :=
  expire_call B F X (H.to N) T hk O (restOf_off _ _) hS hX hbS hbX hV hbV hd fun oS' oE' h' tk' ks hm hn F' N' => hret oS' oE' h' tk' ks hm hn F' (H.back N N')
theorem getx_callG
    (O : SOk dS dE dV ln x dx f c cl qual oc ocl) (B : Below A₀ base outer h₀) (F : Fr h₀ L s.heap m) (X : (hd01.heap_39 w.params).In h₀)
    (hS : DictI Challenge.rw_jb0019_01.row.prog w oS q.S bS) (hX : DictI Challenge.rw_jb0019_01.row.prog w oE q.X bX) (hV : DictI Challenge.rw_jb0019_01.row.prog w oV FM.nil bV)
    (N : News h₀ L s.heap news) (H : GS news oS oE oV g1 g2 G dS dE dV (SC w.params dS dE dV ln x dx f c cl (W.listOf #[.int now tn] nl) t1 t2 t3 t4 p1 p2 p3 qual pm ctv oc ocl))
    (T : Top p loose mean mg mb h₀) (hk : cs.kind = .function)
    (hbS : bS < 8388608) (hbX : bX < 8388608) (hd : dp + 3 < recursionLimit)
    (hret : ∀ t' h' tk', Fr h₀ L h' m → News h₀ L h' (G oS oE oV) → Q (.int ((q.X k).getD now) t') { s with heap := h', toks := tk' }) :
    wpAny (model Challenge.rw_jb0019_01.row.prog w) (ktrTop dp un gd cn cs L a ccd cll outer) (call (.ref 118) [.ref x, .str k tk]) Q E s :=
  getx_call B F X (H.to N) T hk O (restOf_off _ _) hS hX hbS hbX hd fun t' h' tk' F' N' => hret t' h' tk' F' (H.back N N')
theorem check_callG
    (O : SOk dS dE dV ln x dx f c cl qual oc ocl) (B : Below A₀ base outer h₀) (F : Fr h₀ L s.heap m) (X : (hd01.heap_39 w.params).In h₀)
    (hS : DictI Challenge.rw_jb0019_01.row.prog w oS q.S bS) (hX : DictI Challenge.rw_jb0019_01.row.prog w oE q.X bX) (hV : DictI Challenge.rw_jb0019_01.row.prog w oV FM.nil bV)
    (N : News h₀ L s.heap news) (H : GS news oS oE oV g1 g2 G dS dE dV (SC w.params dS dE dV ln x dx f c cl (W.listOf #[.int now tn] nl) t1 t2 t3 t4 p1 p2 p3 qual pm ctv oc ocl))
    (T : Top p loose mean mg mb h₀) (hk : cs.kind = .function)
    (hbS : bS < 8388608) (hbX : bX < 8388608) (hd : dp + 3 < recursionLimit)
    (hret : ∀ h' tk', Fr h₀ L h' m → News h₀ L h' (G oS oE oV) → Q (.bool true) { s with heap := h', toks := tk' }) :
    wpAny (model Challenge.rw_jb0019_01.row.prog w) (ktrTop dp un gd cn cs L a ccd cll outer) (call (.ref 161) [.ref x]) Q E s :=
  check_call B F X (H.to N) T hk O (restOf_off _ _) hS hX hbS hbX hd fun h' tk' F' N' => hret h' tk' F' (H.back N N')
end
end Mine

namespace Mine
open PySem PySem.W PySem.Calls PyProof.Rows PyProof.V PySem.Spec

def lawDef : Stmt := (Challenge.pw_jb0019_01.main.body.getLast?).getD (.Pass ⟨0, 0, 0, 0⟩)
def lawB : List Stmt := match lawDef with | .FunctionDef _ _ b _ _ _ _ _ _ _ => b | _ => []
def lawScope : Scope := match lawDef with | .FunctionDef _ _ _ _ _ _ sc _ _ _ => sc | _ => { kind := .module, names := [], isGenerator := false, isCoroutine := false }
def turnB : List Stmt := match lawB with | _ :: _ :: _ :: .For _ _ b _ _ :: _ => b | _ => []
def deedS : Stmt := match turnB with | _ :: _ :: _ :: _ :: _ :: _ :: s :: _ => s | _ => .Pass ⟨0, 0, 0, 0⟩
def tailB : List Stmt := match turnB with | _ :: _ :: _ :: _ :: _ :: _ :: _ :: r => r | _ => []

def forS : Stmt := match tailB with | _ :: _ :: s :: _ => s | _ => .Pass ⟨0, 0, 0, 0⟩
def restB : List Stmt := match tailB with | _ :: _ :: _ :: r => r | _ => []
def rowB : List Stmt := match forS with | .For _ _ b _ _ => b | _ => []

def rowT : PySem.Expr := match forS with | .For t _ _ _ _ => t | _ => .Name (Str.ofString "") ⟨0, 0, 0, 0⟩

def MyStop (P : Prop) : Prop := P
theorem MyStop.mk {P : Prop} (h : MyStop P) : P := h

/-- the rows of deeds, as tuples of the ledger -/
inductive RowsAre (tl : Led) : List Value → List (Int × Int × Int) → Prop
  | nil : RowsAre tl [] []
  | cons {a : Addr} {x y z : Int} {t1 t2 t3 : Tok} {n : Nat} {vs : List Value} {ds : List (Int × Int × Int)} :
      (a, ({ cls := .type "tuple", data := .seq #[.int x t1, .int y t2, .int z t3] n } : Obj)) ∈ tl → RowsAre tl vs ds → RowsAre tl (.ref a :: vs) ((x, y, z) :: ds)
theorem RowsAre.mono {tl tl' : Led} (h : ∀ p ∈ tl, p ∈ tl') {vs : List Value} {ds : List (Int × Int × Int)} (r : RowsAre tl vs ds) : RowsAre tl' vs ds := by
  induction r with
  | nil => exact .nil
  | cons hm _ ih => exact .cons (h _ hm) ih
theorem RowsAre.wk {tl : Led} {q : Addr × Obj} {vs : List Value} {ds : List (Int × Int × Int)} (r : RowsAre tl vs ds) : RowsAre (q :: tl) vs ds := r.mono fun _ h => .tail _ h
theorem RowsAre.snoc {tl : Led} {a : Addr} {x y z : Int} {t1 t2 t3 : Tok} {n : Nat} {vs : List Value} {ds : List (Int × Int × Int)} (r : RowsAre tl vs ds)
    (hm : (a, ({ cls := .type "tuple", data := .seq #[.int x t1, .int y t2, .int z t3] n } : Obj)) ∈ tl) : RowsAre tl (vs ++ [.ref a]) (ds ++ [(x, y, z)]) := by
  induction r with
  | nil => exact .cons hm .nil
  | cons h _ ih => exact .cons h ih
theorem RowsAre.length {tl : Led} {vs : List Value} {ds : List (Int × Int × Int)} (r : RowsAre tl vs ds) : vs.length = ds.length := by
  induction r with
  | nil => rfl
  | cons _ _ ih => simp [ih]

/-- what stands through the loop -/
structure LC where
  (D dS dE dV ln x dx f c cl I : Addr)
  (sv : List Value)
  (nD : Nat)
  (t1 t2 t3 t4 : Tok)
  (p1 p2 p3 : Pos)
  (qual : Str)
  (pm ctv : Value)
  (oc ocl : Obj)
  (ps : Array Value)
/-- what turns -/
structure LV where
  (dd a0 a1 a2 : Addr)
  (nd n0 n1 n2 : Nat)
  (v0 v1 v2 : List Value)
  (d0 d1 d2 : List (Int × Int × Int))
  (oS oE oV : Obj)
  (q : StoreM)
  (tl : Led)

structure LC.Ok (C : LC) : Prop where
  so : SOk C.dS C.dE C.dV C.ln C.x C.dx C.f C.c C.cl C.qual C.oc C.ocl
  hc : @LT.lt Nat _ 175 C.cl
  g4 : @LT.lt Nat _ C.dV C.D
  i0 : @LT.lt Nat _ C.D C.I
structure LV.Ok (w : World) (C : LC) (V : LV) (b : Nat) : Prop where
  g0 : @LT.lt Nat _ C.dV V.dd
  g1 : @LT.lt Nat _ C.dV V.a0
  g2 : @LT.lt Nat _ C.dV V.a1
  g3 : @LT.lt Nat _ C.dV V.a2
  e01 : @Ne Nat V.a0 V.a1
  e02 : @Ne Nat V.a0 V.a2
  e12 : @Ne Nat V.a1 V.a2
  ed0 : @Ne Nat V.dd V.a0
  ed1 : @Ne Nat V.dd V.a1
  ed2 : @Ne Nat V.dd V.a2
  eD : @Ne Nat C.D V.dd
  eD0 : @Ne Nat C.D V.a0
  eD1 : @Ne Nat C.D V.a1
  eD2 : @Ne Nat C.D V.a2
  i1 : @Ne Nat V.dd C.I
  i2 : @Ne Nat V.a0 C.I
  i3 : @Ne Nat V.a1 C.I
  i4 : @Ne Nat V.a2 C.I
  off : OwnOff V.tl [C.I, V.dd, V.a0, V.a1, V.a2, C.dS, C.dE, C.dV, C.ln]
  hS : DictI Challenge.rw_jb0019_01.row.prog w V.oS V.q.S b
  hX : DictI Challenge.rw_jb0019_01.row.prog w V.oE V.q.X b
  hV : DictI Challenge.rw_jb0019_01.row.prog w V.oV FM.nil b
  r0 : RowsAre V.tl V.v0 V.d0
  r1 : RowsAre V.tl V.v1 V.d1
  r2 : RowsAre V.tl V.v2 V.d2
  l0 : V.d0.length ≤ b
  l1 : V.d1.length ≤ b
  l2 : V.d2.length ≤ b

abbrev LL (P : Params) (C : LC) (V : LV) (lnO : Obj) : Led :=
  (C.D, W.listOf C.sv.toArray C.nD) :: (V.dd, W.listOf #[.ref V.a0, .ref V.a1, .ref V.a2] V.nd) :: (V.a0, W.listOf V.v0.toArray V.n0) :: (V.a1, W.listOf V.v1.toArray V.n1) :: (V.a2, W.listOf V.v2.toArray V.n2) ::
      SL P C.dS C.dE C.dV C.ln C.x C.dx C.f C.c C.cl V.oS V.oE V.oV lnO C.t1 C.t2 C.t3 C.t4 C.p1 C.p2 C.p3 C.qual C.pm C.ctv C.oc C.ocl ((68, tabObj #[]) :: (175, tabObj C.ps) :: V.tl)

section
variable {prog : Program} {w : World} {A : Around} {E : Value → Shared → Prop} {s : Shared} {h₀ : Heap} {L d : Addr} {m : Str → Option Value} {news : Led} {g : Obj → Led}
/-- an item of three at an open place -/
theorem item3 {value slice : PySem.Expr} {l : Addr} {x0 x1 x2 : Value} {nl : Nat} {i : Int} {u : Tok} {Q : Value → Shared → Prop} (N : News h₀ L s.heap news) (hm : (l, W.listOf #[x0, x1, x2] nl) ∈ news)
    (hr : i = 0 ∨ i = 1 ∨ i = 2) (h0 : i = 0 → Q x0 s) (h1 : i = 1 → Q x1 s) (h2 : i = 2 → Q x2 s)
    (hs : ∀ i, subscripted slice false (.ref l) (.int i u) = operate [.ref l, .int i u] (getItem (.ref l) (.int i u))) :
    wpAny (model prog w) A (subscriptTail value slice (.ref l) (.int i u)) Q E s := by
  rcases hr with rfl | rfl | rfl
  · exact lst_item N hm (by decide) (by decide) rfl (h0 rfl) (hs _)
  · exact lst_item N hm (by decide) (by decide) rfl (h1 rfl) (hs _)
  · exact lst_item N hm (by decide) (by decide) rfl (h2 rfl) (hs _)
theorem updF_to {o o' : Obj} (U : UpdF d o news g) : Upd d o o' news (g o') := by
  induction U with
  | head h => exact .head h
  | tail h _ ih => exact .tail h ih
theorem lst_set {l : Addr} {items : List Value} {n : Nat} {i : Int} {u : Tok} {v : Value} {Q : Unit → Shared → Prop} (F : Fr h₀ L s.heap m) (N : News h₀ L s.heap news) (U : UpdF l (W.listOf items.toArray n) news g)
    (h0 : 0 ≤ i) (h1 : i < items.length) (hfit : i < 2 ^ 63) (h : ∀ h', Fr h₀ L h' m → News h₀ L h' (g (W.listOf (items.set i.toNat v).toArray n)) → Q () { s with heap := h' }) :
    wpAny (model prog w) A (setItem (.ref l) (.int i u) v) Q E s := by
  obtain ⟨pre, post, rfl, hg, a, b⟩ := U.split
  have z := N (l, W.listOf items.toArray n) (List.mem_append.mpr (.inr (.head _)))
  refine ki_setAt z.1 h0 hfit (by rw [List.size_toArray]; exact h1) (h _ (F.change (Heap.SameBut.update ..) z.2.1 z.2.2) (hg _ ▸ ki_turn _ N a b ?_ ?_))
  · show items.toArray.setIfInBounds i.toNat v = (items.set i.toNat v).toArray
    apply Array.toList_inj.mp
    simp
  · simp
theorem set3 {l : Addr} {x0 x1 x2 v : Value} {nl : Nat} {i : Int} {u : Tok} {Q : Unit → Shared → Prop} (F : Fr h₀ L s.heap m) (N : News h₀ L s.heap news) (U : UpdF l (W.listOf #[x0, x1, x2] nl) news g)
    (hr : i = 0 ∨ i = 1 ∨ i = 2)
    (h0 : i = 0 → ∀ h', Fr h₀ L h' m → News h₀ L h' (g (W.listOf #[v, x1, x2] nl)) → Q () { s with heap := h' })
    (h1 : i = 1 → ∀ h', Fr h₀ L h' m → News h₀ L h' (g (W.listOf #[x0, v, x2] nl)) → Q () { s with heap := h' })
    (h2 : i = 2 → ∀ h', Fr h₀ L h' m → News h₀ L h' (g (W.listOf #[x0, x1, v] nl)) → Q () { s with heap := h' }) :
    wpAny (model prog w) A (setItem (.ref l) (.int i u) v) Q E s := by
  rcases hr with rfl | rfl | rfl
  · exact lst_set (items := [x0, x1, x2]) F N U (by decide) (by show _ < ((3 : Nat) : Int); decide) (by decide) (h0 rfl)
  · exact lst_set (items := [x0, x1, x2]) F N U (by decide) (by show _ < ((3 : Nat) : Int); decide) (by decide) (h1 rfl)
  · exact lst_set (items := [x0, x1, x2]) F N U (by decide) (by show _ < ((3 : Nat) : Int); decide) (by decide) (h2 rfl)
theorem app_row {l : Addr} {vs : List Value} {n : Nat} {v : Value} {Q : Value → Shared → Prop} (F : Fr h₀ L s.heap m) (N : News h₀ L s.heap news) (U : UpdF l (W.listOf vs.toArray n) news g) (hz : vs.length ≤ 8388608)
    (h : ∀ h', Fr h₀ L h' m → News h₀ L h' (g (W.listOf (vs ++ [v]).toArray (n + 1))) → Q .none { s with heap := h' }) :
    wpAny (model prog w) A (call (.builtin "list.append") [.ref l, v]) Q E s := by
  refine append_K F N (updF_to U) (fun h' F' N' => h h' F' ?_) (by rw [List.size_toArray, sizeLine_eq]; omega)
  have e : vs.toArray.push v = (vs ++ [v]).toArray := by simp
  rw [← e]; exact N'
theorem my_ine_f {a b : Int} {P Q : Prop} (h : a = b) (q : Q) : if (a != b) = true then P else Q := by rw [if_neg (by simp [h])]; exact q
theorem my_dec_t {c : Prop} [Decidable c] {P Q : Prop} (h : c) (p : P) : if decide c = true then P else Q := by rw [if_pos (decide_eq_true h)]; exact p
theorem my_dec_f {c : Prop} [Decidable c] {P Q : Prop} (h : ¬ c) (q : Q) : if decide c = true then P else Q := by rw [if_neg (by simp [h])]; exact q
theorem mem_rot {α : Type} (l : List α) {a p : α} {tl : List α} (h : p ∈ l ++ a :: tl) : p ∈ a :: (l ++ tl) := by
  rcases List.mem_append.mp h with h | h
  · exact .tail _ (List.mem_append_left _ h)
  · rcases List.mem_cons.mp h with rfl | h
    · exact .head _
    · exact .tail _ (List.mem_append_right _ h)
theorem offCons {T : Addr} {o : Obj} {tl : Led} {adr : List Addr} (h : ∀ b ∈ adr, @LT.lt Nat _ b T) (off : OwnOff tl adr) : OwnOff ((T, o) :: tl) adr := by
  intro p hp b hb
  rcases List.mem_cons.mp hp with rfl | hp
  · exact Nat.ne_of_gt (h b hb)
  · exact off p hp b hb
theorem map4 {k1 k2 k3 k4 : Str} {v1 v2 v3 v4 : Value} (m : Str → Option Value) (h1 : m k1 = some v1) (h2 : m k2 = some v2) (h3 : m k3 = some v3) (h4 : m k4 = some v4) :
    (fun y => if y = k1 then some v1 else if y = k2 then some v2 else if y = k3 then some v3 else if y = k4 then some v4 else m y) = m := by
  funext y
  by_cases e1 : y = k1
  · rw [if_pos e1, e1, h1]
  · rw [if_neg e1]
    by_cases e2 : y = k2
    · rw [if_pos e2, e2, h2]
    · rw [if_neg e2]
      by_cases e3 : y = k3
      · rw [if_pos e3, e3, h3]
      · rw [if_neg e3]
        by_cases e4 : y = k4
        · rw [if_pos e4, e4, h4]
        · rw [if_neg e4]
end

def DeedPost (w : World) (C : LC) (it : Obj) (h₀ : Heap) (L : Addr) (key : Int) (tK : Tok) (now : Int) (tn : Tok) (nl b : Nat) (s : Shared) (f : Flow) (s' : Shared) : Prop :=
  f = .next ∧ ∃ (V : LV) (told : Value) (h' : Heap) (tk' : Nat) (u : Str → Option Value), s' = { s with heap := h', toks := tk' } ∧
    Fr h₀ L h' (fun y => if y = Str.ofString "told" then some told else if y = Str.ofString "key" then some (.int key tK) else if y = Str.ofString "deeds" then some (.ref V.dd) else if y = Str.ofString "store" then some (.ref C.x) else u y) ∧
    News h₀ L h' ((C.I, it) :: LL w.params C V (W.listOf #[.int now tn] nl)) ∧ V.Ok w C (b + 1) ∧ PInv V.q V.d0 V.d1 V.d2 now ∧
    (told = .none ∨ ∃ z t, told = .int z t ∧ z = (obsS V.q (keyS key) now).1)
theorem deed_end {w : World} {C : LC} {it : Obj} {h₀ h' : Heap} {L : Addr} {key : Int} {tK : Tok} {now : Int} {tn : Tok} {nl b : Nat} {s : Shared} {tk : Nat} {V : LV} {told : Value} {m' : Str → Option Value} {news' : Led}
    (F : Fr h₀ L h' m') (N : News h₀ L h' news') (hn : ∀ p ∈ (C.I, it) :: LL w.params C V (W.listOf #[.int now tn] nl), p ∈ news')
    (m1 : m' (Str.ofString "told") = some told) (m2 : m' (Str.ofString "key") = some (.int key tK)) (m3 : m' (Str.ofString "deeds") = some (.ref V.dd)) (m4 : m' (Str.ofString "store") = some (.ref C.x))
    (K : V.Ok w C (b + 1)) (P : PInv V.q V.d0 V.d1 V.d2 now) (ht : told = .none ∨ ∃ z t, told = .int z t ∧ z = (obsS V.q (keyS key) now).1) :
    DeedPost w C it h₀ L key tK now tn nl b s .next { s with heap := h', toks := tk } :=
  ⟨rfl, V, told, h', tk, m', rfl, by rw [map4 m' m1 m2 m3 m4]; exact F, fun p hp => N p (hn p hp), K, P, ht⟩

def selD (key : Int) (d0 d1 d2 : List (Int × Int × Int)) : List (Int × Int × Int) := if key = 0 then d0 else if key = 1 then d1 else d2
def EndV (e : Option Int) (v : Value) : Prop := match e with | none => v = .none | some x => ∃ t, v = .int x t
/-- the frame's names behind the loop over the rows -/
abbrev rowMap (ev : Value) (c : Int) (tc : Tok) (told : Value) (key : Int) (tK : Tok) (dd x : Addr) (u : Str → Option Value) : Str → Option Value :=
  fun y => if y = Str.ofString "end" then some ev else if y = Str.ofString "count" then some (.int c tc) else if y = Str.ofString "told" then some told else if y = Str.ofString "key" then some (.int key tK) else
    if y = Str.ofString "deeds" then some (.ref dd) else if y = Str.ofString "store" then some (.ref x) else u y
theorem rowMap_of {ev : Value} {c : Int} {tc : Tok} {told : Value} {key : Int} {tK : Tok} {dd x : Addr} (m : Str → Option Value) (h5 : m (Str.ofString "end") = some ev) (h6 : m (Str.ofString "count") = some (.int c tc))
    (h1 : m (Str.ofString "told") = some told) (h2 : m (Str.ofString "key") = some (.int key tK)) (h3 : m (Str.ofString "deeds") = some (.ref dd)) (h4 : m (Str.ofString "store") = some (.ref x)) : rowMap ev c tc told key tK dd x m = m := by
  have e := map4 m h1 h2 h3 h4
  funext y
  have ey := congrFun e y
  show (if y = Str.ofString "end" then some ev else if y = Str.ofString "count" then some (.int c tc) else (if y = Str.ofString "told" then some told else if y = Str.ofString "key" then some (.int key tK) else
    if y = Str.ofString "deeds" then some (.ref dd) else if y = Str.ofString "store" then some (.ref x) else m y)) = m y
  by_cases e1 : y = Str.ofString "end"
  · rw [if_pos e1, e1, h5]
  · rw [if_neg e1]
    by_cases e2 : y = Str.ofString "count"
    · rw [if_pos e2, e2, h6]
    · rw [if_neg e2]; exact ey
theorem rowFr {h₀ h : Heap} {L : Addr} {ev : Value} {c : Int} {tc : Tok} {told : Value} {key : Int} {tK : Tok} {dd x : Addr} {m : Str → Option Value} (F : Fr h₀ L h m) (h5 : m (Str.ofString "end") = some ev) (h6 : m (Str.ofString "count") = some (.int c tc))
    (h1 : m (Str.ofString "told") = some told) (h2 : m (Str.ofString "key") = some (.int key tK)) (h3 : m (Str.ofString "deeds") = some (.ref dd)) (h4 : m (Str.ofString "store") = some (.ref x)) : Fr h₀ L h (rowMap ev c tc told key tK dd x m) :=
  (rowMap_of m h5 h6 h1 h2 h3 h4).symm ▸ F
def ForPost (w : World) (C : LC) (V : LV) (it : Obj) (h₀ : Heap) (L : Addr) (told : Value) (key : Int) (tK : Tok) (now : Int) (tn : Tok) (nl : Nat) (s : Shared) (f : Flow) (s' : Shared) : Prop :=
  f = .next ∧ ∃ (h' : Heap) (tk' : Nat) (u : Str → Option Value) (ev : Value) (c : Int) (tc : Tok) (e : Option Int), s' = { s with heap := h', toks := tk' } ∧
    Fr h₀ L h' (rowMap ev c tc told key tK V.dd C.x u) ∧ News h₀ L h' ((C.I, it) :: LL w.params C V (W.listOf #[.int now tn] nl)) ∧ EndV e ev ∧ (c, e) = lawRun (selD key V.d0 V.d1 V.d2)

theorem map2 {k1 k2 : Str} {v1 v2 : Value} (m : Str → Option Value) (h1 : m k1 = some v1) (h2 : m k2 = some v2) :
    (fun y => if y = k1 then some v1 else if y = k2 then some v2 else m y) = m := by
  funext y
  by_cases e1 : y = k1
  · rw [if_pos e1, e1, h1]
  · rw [if_neg e1]
    by_cases e2 : y = k2
    · rw [if_pos e2, e2, h2]
    · rw [if_neg e2]
def TurnPost (w : World) (C : LC) (it : Obj) (h₀ : Heap) (L : Addr) (b : Nat) (s : Shared) (f : Flow) (s' : Shared) : Prop :=
  f = .next ∧ ∃ (V : LV) (h' : Heap) (tk' : Nat) (u : Str → Option Value) (now : Int) (tn : Tok) (nl : Nat), s' = { s with heap := h', toks := tk' } ∧
    Fr h₀ L h' (fun y => if y = Str.ofString "deeds" then some (.ref V.dd) else if y = Str.ofString "store" then some (.ref C.x) else u y) ∧
    News h₀ L h' ((C.I, it) :: LL w.params C V (W.listOf #[.int now tn] nl)) ∧ V.Ok w C b ∧ PInv V.q V.d0 V.d1 V.d2 now
theorem rest_end {w : World} {C : LC} {V : LV} {it : Obj} {h₀ h' : Heap} {L : Addr} {now : Int} {tn : Tok} {nl b : Nat} {s : Shared} {tk : Nat} {m' : Str → Option Value} {oS oE : Obj} {q : StoreM}
    (K : V.Ok w C b) (F : Fr h₀ L h' m') (N : News h₀ L h' ((C.I, it) :: LL w.params C { V with oS := oS, oE := oE, q := q } (W.listOf #[.int now tn] nl)))
    (m3 : m' (Str.ofString "deeds") = some (.ref V.dd)) (m4 : m' (Str.ofString "store") = some (.ref C.x))
    (hS : DictI Challenge.rw_jb0019_01.row.prog w oS q.S b) (hX : DictI Challenge.rw_jb0019_01.row.prog w oE q.X b) (P : PInv q V.d0 V.d1 V.d2 now) :
    TurnPost w C it h₀ L b s .next { s with heap := h', toks := tk } :=
  ⟨rfl, { V with oS := oS, oE := oE, q := q }, h', tk, m', now, tn, nl, rfl, by rw [map2 m' m3 m4]; exact F, N,
    ⟨K.g0, K.g1, K.g2, K.g3, K.e01, K.e02, K.e12, K.ed0, K.ed1, K.ed2, K.eD, K.eD0, K.eD1, K.eD2, K.i1, K.i2, K.i3, K.i4, K.off, hS, hX, K.hV, K.r0, K.r1, K.r2, K.l0, K.l1, K.l2⟩, P⟩

local macro_rules | `(tactic| k_ne) => `(tactic| (refine neN ?_; (try dsimp only); omega))
theorem LL_GS {P : Params} {w : World} {C : LC} {V : LV} {lnO it : Obj} {b : Nat} (O : C.Ok) (K : V.Ok w C b) : ∀ oS oE oV : Obj, GS ((C.I, it) :: LL P C { V with oS := oS, oE := oE, oV := oV } lnO) oS oE oV
    (fun a => (C.I, it) :: LL P C { V with oS := a, oE := oE, oV := oV } lnO) (fun a b => (C.I, it) :: LL P C { V with oS := a, oE := b, oV := oV } lnO) (fun a b c => (C.I, it) :: LL P C { V with oS := a, oE := b, oV := c } lnO)
    C.dS C.dE C.dV (SC P C.dS C.dE C.dV C.ln C.x C.dx C.f C.c C.cl lnO C.t1 C.t2 C.t3 C.t4 C.p1 C.p2 C.p3 C.qual C.pm C.ctv C.oc C.ocl) := by
  intro oS oE oV
  obtain ⟨D, dS, dE, dV, ln, x, dx, f, c, cl, I, sv, nD, t1, t2, t3, t4, p1, p2, p3, qual, pm, ctv, oc, ocl, ps⟩ := C
  obtain ⟨dd, a0, a1, a2, nd, n0, n1, n2, v0, v1, v2, d0, d1, d2, oS9, oE9, oV9, q, tl⟩ := V
  obtain ⟨so, hc, g4, i0⟩ := O
  have g0 := K.g0
  have g1 := K.g1
  have g2 := K.g2
  have g3 := K.g3
  have off := K.off
  clear K
  obtain ⟨_, f3, o1, o2, o3, o4, o5, o6, o7, o8, lS, lE, lV⟩ := so
  dsimp only at *
  refine' GS.mk ?u1 ?u2 ?u3 ?u4
  case u1 => k_updF
  case u2 => (intro a9; k_updF)
  case u3 => (intro a9 b9; k_updF)
  case u4 => k_allIn
end Mine

namespace Mine
open PySem PySem.W PySem.Calls PyProof.Rows PyProof.V PySem.Spec

local macro_rules | `(tactic| walk_at "updK") => `(tactic| (rename LV.Ok _ _ _ _ => hK9; obtain ⟨g0, g1, g2, g3, e01, e02, e12, ed0, ed1, ed2, eD, eD0, eD1, eD2, i1, i2, i3, i4, off, hS9, hX9, hV9, r0, r1, r2, l0, l1, l2⟩ := hK9; rename LC.Ok _ => hO9; obtain ⟨so9, hc, g4, i0⟩ := hO9; dsimp only at g0 g1 g2 g3 e01 e02 e12 ed0 ed1 ed2 eD eD0 eD1 eD2 i1 i2 i3 i4 off hc g4 i0; k_updF))
local macro_rules | `(tactic| ktr_rel) => `(tactic| (refine' GS.mk ?u1 ?u2 ?u3 ?u4; (case u1 => k_updF); (case u2 => (intro a9; (try dsimp only); k_updF)); (case u3 => (intro a9 b9; (try dsimp only); k_updF)); (case u4 => k_allIn)))
local macro_rules | `(tactic| walk_at "call ref") => `(tactic| (k_here; (with_reducible show wpAny _ _ (call (Value.ref 96) [_, _] _) _ _ _); k_dflt (refine get_callG (by k_asm) (by k_asm) (by k_asm) (by k_asm) (by k_asm) (by k_asm) (by k_asm) (by k_asm) (by first | ((rename (∀ (_ _ _ : Obj), GS _ _ _ _ _ _ _ _ _ _ _) => hG9); exact hG9 _ _ _) | ktr_rel) (by k_asm) (by rfl) (by omega) (by omega) (by ktr_room) ?_); intro oS' oE' t' h' tk' F' N' hS' hX'; (try dsimp only at N')))
local macro_rules | `(tactic| walk_at "call ref") => `(tactic| (k_here; (with_reducible show wpAny _ _ (call (Value.ref 81) [_, _, _, _] _) _ _ _); k_dflt (refine incr_callG (by k_asm) (by k_asm) (by k_asm) (by k_asm) (by k_asm) (by k_asm) (by k_asm) (by k_asm) (by first | ((rename (∀ (_ _ _ : Obj), GS _ _ _ _ _ _ _ _ _ _ _) => hG9); exact hG9 _ _ _) | ktr_rel) (by k_asm) (by rfl) (by omega) (by omega) (by ktr_room) ?_); intro oS' oE' t' h' tk' F' N' hS' hX'; (try dsimp only at N')))
local macro_rules | `(tactic| walk_at "call ref") => `(tactic| (k_here; (with_reducible show wpAny _ _ (call (Value.ref 89) [_, _, _] _) _ _ _); k_dflt (refine decr_callG (by k_asm) (by k_asm) (by k_asm) (by k_asm) (by k_asm) (by k_asm) (by k_asm) (by k_asm) (by first | ((rename (∀ (_ _ _ : Obj), GS _ _ _ _ _ _ _ _ _ _ _) => hG9); exact hG9 _ _ _) | ktr_rel) (by k_asm) (by rfl) (by omega) (by omega) (by ktr_room) ?_); intro oS' oE' t' h' tk' F' N' hS' hX'; (try dsimp only at N')))
local macro_rules | `(tactic| walk_at "call ref") => `(tactic| (k_here; (with_reducible show wpAny _ _ (call (Value.ref 103) [_, _] _) _ _ _); k_dflt (refine clear_callG (by k_asm) (by k_asm) (by k_asm) (by k_asm) (by k_asm) (by k_asm) (by k_asm) (by k_asm) (by first | ((rename (∀ (_ _ _ : Obj), GS _ _ _ _ _ _ _ _ _ _ _) => hG9); exact hG9 _ _ _) | ktr_rel) (by k_asm) (by rfl) (by omega) (by omega) (by omega) (by ktr_room) ?_); intro oS' oE' oV' h' tk' F' N' hS' hX' hV'; (try dsimp only at N')))
local macro_rules | `(tactic| walk_at "call ref") => `(tactic| (k_here; (try dsimp only [List.append_nil, List.cons_append, List.nil_append]); (with_reducible show wpAny _ _ (call (Value.ref 168) [_] _) _ _ _); k_dflt (refine reset_callG (by k_asm) (by k_asm) (by k_asm) (by k_asm) (by k_asm) (by k_asm) (by k_asm) (by k_asm) (by first | ((rename (∀ (_ _ _ : Obj), GS _ _ _ _ _ _ _ _ _ _ _) => hG9); exact hG9 _ _ _) | ktr_rel) (by k_asm) (by rfl) (by omega) (by omega) (by omega) (by ktr_room) ?_); intro oS' oE' oV' n' t' h' tk' F' N' hS' hX' hV'; (try dsimp only at N')))
local macro_rules | `(tactic| walk_at "call ref") => `(tactic| (k_here; (try dsimp only [List.append_nil, List.cons_append, List.nil_append]); (with_reducible show wpAny _ _ (call (Value.ref 73) [_] _) _ _ _); k_dflt (refine expire_callG (by k_asm) (by k_asm) (by k_asm) (by k_asm) (by k_asm) (by k_asm) (by k_asm) (by k_asm) (by first | ((rename (∀ (_ _ _ : Obj), GS _ _ _ _ _ _ _ _ _ _ _) => hG9); exact hG9 _ _ _) | ktr_rel) (by k_asm) (by rfl) (by omega) (by omega) (by omega) (by ktr_room) ?_); intro oS' oE' h' tk' ks' hks' hnd' F' N' hS' hX'; (try dsimp only at N')))
local macro_rules | `(tactic| walk_at "subscriptTail") => `(tactic| (k_here; (with_reducible show wpAny _ _ (subscriptTail _ _ (Value.ref _) (Value.int _ _)) _ _ _); k_dflt (refine' item3 ?N ?m ?r ?_ ?_ ?_ ?s; (case N => k_asm); (case m => k_mem); (case r => first | assumption | exact (by assumption : HidK _)); (case s => (intro _; with_unfolding_all rfl))) <;> intro hkey'))
local macro_rules | `(tactic| walk_at "setItem ref int") => `(tactic| (k_here; (with_reducible show wpAny _ _ (setItem (Value.ref _) (Value.int _ _) (Value.ref _)) _ _ _); k_dflt (refine' set3 ?F ?N ?U ?r ?_ ?_ ?_; (case F => k_asm); (case N => k_asm); (case U => walk_at "updK"); (case r => first | assumption | exact (by assumption : HidK _))) <;> (intro hkey' h' F' N'; (try dsimp only at N'))))
local macro_rules | `(tactic| walk_at "call builtin:list.append") => `(tactic| (k_here; (try dsimp only [List.append_nil, List.cons_append, List.nil_append]); (with_reducible show wpAny _ _ (call (Value.builtin _) [Value.ref _, Value.ref _]) _ _ _); k_dflt (refine' app_row ?F ?N ?U ?z ?_; (case F => k_asm); (case N => k_asm); (case U => walk_at "updK"); (case z => omega)); intro h' F' N'; (try dsimp only at N')))

def HidK (key : Int) : Prop := key = 0 ∨ key = 1 ∨ key = 2
section
variable {w : World} {p : Program} {loose : List Str} {mean : ExcName → Option Value} {mg mb : Str → Option Value}
  {dp un : Nat} {gd : Option (List Code)} {a : Addr} {outer : List Env} {A₀ : Around} {base h₀ : Heap} {L : Addr} {m u : Str → Option Value} {s : Shared}
  {E : Value → Shared → Prop} {it : Obj} {C : LC} {V : LV} {now : Int} {tn : Tok} {nl : Nat} {b : Nat} {n len amt key kind : Int} {tN tL tA tK tKi : Tok}

theorem deed_walk
    (B : Below A₀ base outer h₀) (X : (hd01.heap_39 w.params).In h₀) (T : Top p loose mean mg mb h₀)
    (F : Fr h₀ L s.heap (fun y => if y = Str.ofString "told" then some .none else if y = Str.ofString "amount" then some (.int amt tA) else if y = Str.ofString "kind" then some (.int kind tKi) else
      if y = Str.ofString "length" then some (.int len tL) else if y = Str.ofString "key" then some (.int key tK) else if y = Str.ofString "n" then some (.int n tN) else
      if y = Str.ofString "deeds" then some (.ref V.dd) else if y = Str.ofString "store" then some (.ref C.x) else u y))
    (N : News h₀ L s.heap ((C.I, it) :: LL w.params C V (W.listOf #[.int now tn] nl)))
    (O : C.Ok) (K : V.Ok w C b) (hb : b < 8388607) (hd : dp + 5 < recursionLimit) (hnow : 0 ≤ now) (hkey : key = 0 ∨ key = 1 ∨ key = 2) (hlen : 0 < len) (hamt : 0 ≤ amt) (PI : PInv V.q V.d0 V.d1 V.d2 now) :
    wpAny (model Challenge.rw_jb0019_01.row.prog w) (ktrTop dp un gd (Str.ofString "law") lawScope L a (.ref 179) [(Str.ofString "now", C.cl)] outer) (exec deedS (envX (Str.ofString "law") lawScope L a (.ref 179) [(Str.ofString "now", C.cl)])) (DeedPost w C it h₀ L key tK now tn nl b s) E s := by
  revert X; k_fill; intro X
  have HG := LL_GS (P := w.params) (it := it) (lnO := W.listOf #[.int now tn] nl) O K
  obtain ⟨D, dS, dE, dV, ln, x, dx, f, c, cl, I, sv, nD, t1, t2, t3, t4, p1, p2, p3, qual, pm, ctv, oc, ocl, ps⟩ := C
  obtain ⟨dd, a0, a1, a2, nd, n0, n1, n2, v0, v1, v2, d0, d1, d2, oS, oE, oV, q, tl⟩ := V
  have k0 : 0 ≤ key := by omega
  have k2 : key ≤ 2 := by omega
  have hS := K.hS
  have hX := K.hX
  have hV := K.hV
  have so := O.so
  have z0 : v0.length ≤ b := by have h1 := K.r0.length; have h2 := K.l0; dsimp only at h1 h2; omega
  have z1 : v1.length ≤ b := by have h1 := K.r1.length; have h2 := K.l1; dsimp only at h1 h2; omega
  have z2 : v2.length ≤ b := by have h1 := K.r2.length; have h2 := K.l2; dsimp only at h1 h2; omega
  have hkey3 : HidK key := hkey
  clear hkey
  dsimp only at *
  dsimp only [LL, SL] at N HG
  have so' := so
  obtain ⟨⟨vs, t, f1, f2⟩, f3, o1, o2, o3, o4, o5, o6, o7, o8, lS, lE, lV⟩ := so'
  conv in deedS => whnf
  conv in (occs := *) lawScope => all_goals whnf
  (try k_fold)
  k_steps
  · have ek : key = 0 := by assumption
    subst ek
    refine' deed_end (C := ⟨D, dS, dE, dV, ln, x, dx, f, c, cl, I, sv, nD, t1, t2, t3, t4, p1, p2, p3, qual, pm, ctv, oc, ocl, ps⟩) (V := ⟨dd, a0, a1, a2, nd, n0 + 1, n1, n2, v0 ++ [.ref _], v1, v2, d0 ++ [(now, len, amt)], d1, d2, _, _, oV, q.incr (keyS 0) len amt now, (_, _) :: tl⟩) (by k_asm) (by k_asm) ?hn rfl rfl rfl rfl ?K ?P ?ht
    case hn => ((repeat (refine List.forall_mem_cons.mpr ⟨by k_memK, ?_⟩)); intro p hp; k_ownIn)
    case K =>
      obtain ⟨g0, g1, g2, g3, e01, e02, e12, ed0, ed1, ed2, eD, eD0, eD1, eD2, i1, i2, i3, i4, off, hS, hX, hV, r0, r1, r2, l0, l1, l2⟩ := K
      obtain ⟨so, hc, g4, i0⟩ := O
      dsimp only at g0 g1 g2 g3 e01 e02 e12 ed0 ed1 ed2 eD eD0 eD1 eD2 i1 i2 i3 i4 off hc g4 i0
      refine ⟨g0, g1, g2, g3, e01, e02, e12, ed0, ed1, ed2, eD, eD0, eD1, eD2, i1, i2, i3, i4, offCons ?_ off, by k_asm, by k_asm, hV.le (Nat.le_succ _), (r0.wk).snoc (.head _), r1.wk, r2.wk, by rw [List.length_append]; exact Nat.succ_le_succ l0, Nat.le_succ_of_le l1, Nat.le_succ_of_le l2⟩
      (repeat (refine List.forall_mem_cons.mpr ⟨by ((try dsimp only); omega), ?_⟩)); exact List.forall_mem_nil _
    case P => exact PI.incr0 hlen
    case ht => exact .inr ⟨_, _, rfl, told_incr hnow hlen⟩
  · have ek : key = 1 := by assumption
    subst ek
    refine' deed_end (C := ⟨D, dS, dE, dV, ln, x, dx, f, c, cl, I, sv, nD, t1, t2, t3, t4, p1, p2, p3, qual, pm, ctv, oc, ocl, ps⟩) (V := ⟨dd, a0, a1, a2, nd, n0, n1 + 1, n2, v0, v1 ++ [.ref _], v2, d0, d1 ++ [(now, len, amt)], d2, _, _, oV, q.incr (keyS 1) len amt now, (_, _) :: tl⟩) (by k_asm) (by k_asm) ?hn rfl rfl rfl rfl ?K ?P ?ht
    case hn => ((repeat (refine List.forall_mem_cons.mpr ⟨by k_memK, ?_⟩)); intro p hp; k_ownIn)
    case K =>
      obtain ⟨g0, g1, g2, g3, e01, e02, e12, ed0, ed1, ed2, eD, eD0, eD1, eD2, i1, i2, i3, i4, off, hS, hX, hV, r0, r1, r2, l0, l1, l2⟩ := K
      obtain ⟨so, hc, g4, i0⟩ := O
      dsimp only at g0 g1 g2 g3 e01 e02 e12 ed0 ed1 ed2 eD eD0 eD1 eD2 i1 i2 i3 i4 off hc g4 i0
      refine ⟨g0, g1, g2, g3, e01, e02, e12, ed0, ed1, ed2, eD, eD0, eD1, eD2, i1, i2, i3, i4, offCons ?_ off, by k_asm, by k_asm, hV.le (Nat.le_succ _), r0.wk, (r1.wk).snoc (.head _), r2.wk, Nat.le_succ_of_le l0, by rw [List.length_append]; exact Nat.succ_le_succ l1, Nat.le_succ_of_le l2⟩
      (repeat (refine List.forall_mem_cons.mpr ⟨by ((try dsimp only); omega), ?_⟩)); exact List.forall_mem_nil _
    case P => exact PI.incr1 hlen
    case ht => exact .inr ⟨_, _, rfl, told_incr hnow hlen⟩
  · have ek : key = 2 := by assumption
    subst ek
    refine' deed_end (C := ⟨D, dS, dE, dV, ln, x, dx, f, c, cl, I, sv, nD, t1, t2, t3, t4, p1, p2, p3, qual, pm, ctv, oc, ocl, ps⟩) (V := ⟨dd, a0, a1, a2, nd, n0, n1, n2 + 1, v0, v1, v2 ++ [.ref _], d0, d1, d2 ++ [(now, len, amt)], _, _, oV, q.incr (keyS 2) len amt now, (_, _) :: tl⟩) (by k_asm) (by k_asm) ?hn rfl rfl rfl rfl ?K ?P ?ht
    case hn => ((repeat (refine List.forall_mem_cons.mpr ⟨by k_memK, ?_⟩)); intro p hp; k_ownIn)
    case K =>
      obtain ⟨g0, g1, g2, g3, e01, e02, e12, ed0, ed1, ed2, eD, eD0, eD1, eD2, i1, i2, i3, i4, off, hS, hX, hV, r0, r1, r2, l0, l1, l2⟩ := K
      obtain ⟨so, hc, g4, i0⟩ := O
      dsimp only at g0 g1 g2 g3 e01 e02 e12 ed0 ed1 ed2 eD eD0 eD1 eD2 i1 i2 i3 i4 off hc g4 i0
      refine ⟨g0, g1, g2, g3, e01, e02, e12, ed0, ed1, ed2, eD, eD0, eD1, eD2, i1, i2, i3, i4, offCons ?_ off, by k_asm, by k_asm, hV.le (Nat.le_succ _), r0.wk, r1.wk, (r2.wk).snoc (.head _), Nat.le_succ_of_le l0, Nat.le_succ_of_le l1, by rw [List.length_append]; exact Nat.succ_le_succ l2⟩
      (repeat (refine List.forall_mem_cons.mpr ⟨by ((try dsimp only); omega), ?_⟩)); exact List.forall_mem_nil _
    case P => exact PI.incr2 hlen
    case ht => exact .inr ⟨_, _, rfl, told_incr hnow hlen⟩
  · have ek : key = 0 := by assumption
    subst ek
    refine' deed_end (C := ⟨D, dS, dE, dV, ln, x, dx, f, c, cl, I, sv, nD, t1, t2, t3, t4, p1, p2, p3, qual, pm, ctv, oc, ocl, ps⟩) (V := ⟨dd, a0, a1, a2, nd, n0 + 1, n1, n2, v0 ++ [.ref _], v1, v2, d0 ++ [(now, 0, amt)], d1, d2, _, _, oV, q.decr (keyS 0) amt now, (_, _) :: tl⟩) (by k_asm) (by k_asm) ?hn rfl rfl rfl rfl ?K ?P ?ht
    case hn => ((repeat (refine List.forall_mem_cons.mpr ⟨by k_memK, ?_⟩)); intro p hp; k_ownIn)
    case K =>
      obtain ⟨g0, g1, g2, g3, e01, e02, e12, ed0, ed1, ed2, eD, eD0, eD1, eD2, i1, i2, i3, i4, off, hS, hX, hV, r0, r1, r2, l0, l1, l2⟩ := K
      obtain ⟨so, hc, g4, i0⟩ := O
      dsimp only at g0 g1 g2 g3 e01 e02 e12 ed0 ed1 ed2 eD eD0 eD1 eD2 i1 i2 i3 i4 off hc g4 i0
      refine ⟨g0, g1, g2, g3, e01, e02, e12, ed0, ed1, ed2, eD, eD0, eD1, eD2, i1, i2, i3, i4, offCons ?_ off, by k_asm, by k_asm, hV.le (Nat.le_succ _), (r0.wk).snoc (.head _), r1.wk, r2.wk, by rw [List.length_append]; exact Nat.succ_le_succ l0, Nat.le_succ_of_le l1, Nat.le_succ_of_le l2⟩
      (repeat (refine List.forall_mem_cons.mpr ⟨by ((try dsimp only); omega), ?_⟩)); exact List.forall_mem_nil _
    case P => exact PI.decr0 hamt
    case ht => exact .inr ⟨_, _, rfl, told_decr hnow hamt⟩
  · have ek : key = 1 := by assumption
    subst ek
    refine' deed_end (C := ⟨D, dS, dE, dV, ln, x, dx, f, c, cl, I, sv, nD, t1, t2, t3, t4, p1, p2, p3, qual, pm, ctv, oc, ocl, ps⟩) (V := ⟨dd, a0, a1, a2, nd, n0, n1 + 1, n2, v0, v1 ++ [.ref _], v2, d0, d1 ++ [(now, 0, amt)], d2, _, _, oV, q.decr (keyS 1) amt now, (_, _) :: tl⟩) (by k_asm) (by k_asm) ?hn rfl rfl rfl rfl ?K ?P ?ht
    case hn => ((repeat (refine List.forall_mem_cons.mpr ⟨by k_memK, ?_⟩)); intro p hp; k_ownIn)
    case K =>
      obtain ⟨g0, g1, g2, g3, e01, e02, e12, ed0, ed1, ed2, eD, eD0, eD1, eD2, i1, i2, i3, i4, off, hS, hX, hV, r0, r1, r2, l0, l1, l2⟩ := K
      obtain ⟨so, hc, g4, i0⟩ := O
      dsimp only at g0 g1 g2 g3 e01 e02 e12 ed0 ed1 ed2 eD eD0 eD1 eD2 i1 i2 i3 i4 off hc g4 i0
      refine ⟨g0, g1, g2, g3, e01, e02, e12, ed0, ed1, ed2, eD, eD0, eD1, eD2, i1, i2, i3, i4, offCons ?_ off, by k_asm, by k_asm, hV.le (Nat.le_succ _), r0.wk, (r1.wk).snoc (.head _), r2.wk, Nat.le_succ_of_le l0, by rw [List.length_append]; exact Nat.succ_le_succ l1, Nat.le_succ_of_le l2⟩
      (repeat (refine List.forall_mem_cons.mpr ⟨by ((try dsimp only); omega), ?_⟩)); exact List.forall_mem_nil _
    case P => exact PI.decr1 hamt
    case ht => exact .inr ⟨_, _, rfl, told_decr hnow hamt⟩
  · have ek : key = 2 := by assumption
    subst ek
    refine' deed_end (C := ⟨D, dS, dE, dV, ln, x, dx, f, c, cl, I, sv, nD, t1, t2, t3, t4, p1, p2, p3, qual, pm, ctv, oc, ocl, ps⟩) (V := ⟨dd, a0, a1, a2, nd, n0, n1, n2 + 1, v0, v1, v2 ++ [.ref _], d0, d1, d2 ++ [(now, 0, amt)], _, _, oV, q.decr (keyS 2) amt now, (_, _) :: tl⟩) (by k_asm) (by k_asm) ?hn rfl rfl rfl rfl ?K ?P ?ht
    case hn => ((repeat (refine List.forall_mem_cons.mpr ⟨by k_memK, ?_⟩)); intro p hp; k_ownIn)
    case K =>
      obtain ⟨g0, g1, g2, g3, e01, e02, e12, ed0, ed1, ed2, eD, eD0, eD1, eD2, i1, i2, i3, i4, off, hS, hX, hV, r0, r1, r2, l0, l1, l2⟩ := K
      obtain ⟨so, hc, g4, i0⟩ := O
      dsimp only at g0 g1 g2 g3 e01 e02 e12 ed0 ed1 ed2 eD eD0 eD1 eD2 i1 i2 i3 i4 off hc g4 i0
      refine ⟨g0, g1, g2, g3, e01, e02, e12, ed0, ed1, ed2, eD, eD0, eD1, eD2, i1, i2, i3, i4, offCons ?_ off, by k_asm, by k_asm, hV.le (Nat.le_succ _), r0.wk, r1.wk, (r2.wk).snoc (.head _), Nat.le_succ_of_le l0, Nat.le_succ_of_le l1, by rw [List.length_append]; exact Nat.succ_le_succ l2⟩
      (repeat (refine List.forall_mem_cons.mpr ⟨by ((try dsimp only); omega), ?_⟩)); exact List.forall_mem_nil _
    case P => exact PI.decr2 hamt
    case ht => exact .inr ⟨_, _, rfl, told_decr hnow hamt⟩
  · have ek : key = 0 := by assumption
    subst ek
    rename (@LT.lt Nat _ _ _) ∧ (@LT.lt Nat _ _ _) ∧ (@LT.lt Nat _ _ _) ∧ _ => l9
    refine' deed_end (C := ⟨D, dS, dE, dV, ln, x, dx, f, c, cl, I, sv, nD, t1, t2, t3, t4, p1, p2, p3, qual, pm, ctv, oc, ocl, ps⟩) (V := ⟨dd, _, a1, a2, nd, 0, n1, n2, [], v1, v2, [], d1, d2, _, _, _, q.clear (keyS 0), tl⟩) (by k_asm) (by k_asm) ?hn rfl rfl rfl rfl ?K ?P ?ht
    case hn => ((repeat (refine List.forall_mem_cons.mpr ⟨by k_memK, ?_⟩)); intro p hp; k_ownIn)
    case K =>
      obtain ⟨g0, g1, g2, g3, e01, e02, e12, ed0, ed1, ed2, eD, eD0, eD1, eD2, i1, i2, i3, i4, off, hS, hX, hV, r0, r1, r2, l0, l1, l2⟩ := K
      obtain ⟨so, hc, g4, i0⟩ := O
      dsimp only at g0 g1 g2 g3 e01 e02 e12 ed0 ed1 ed2 eD eD0 eD1 eD2 i1 i2 i3 i4 off hc g4 i0
      have hall : AllLt _ tl := l9.2.2.2.2.2.2.2.2.2.2.2.2.2.2.2.2.2
      refine ⟨g0, by ((try dsimp only); omega), g2, g3, by ((try dsimp only); omega), by ((try dsimp only); omega), e12, by ((try dsimp only); omega), ed1, ed2, eD, by ((try dsimp only); omega), eD1, eD2, i1, by ((try dsimp only); omega), i3, i4, ?_, DictI.le (by k_asm) (Nat.le_succ _), DictI.le (by k_asm) (Nat.le_succ _), DictI.le (by k_asm) (Nat.le_succ _), .nil, r1, r2, Nat.zero_le _, Nat.le_succ_of_le l1, Nat.le_succ_of_le l2⟩
      intro p hp b hb
      have h1 := off p hp
      have h2 := ktn_ltOf hall p hp
      revert b; (repeat (refine List.forall_mem_cons.mpr ⟨by first | exact h1 _ (by k_memK) | exact Nat.ne_of_lt h2, ?_⟩)); exact List.forall_mem_nil _
    case P => exact PI.clear0
    case ht => exact .inl rfl
  · have ek : key = 1 := by assumption
    subst ek
    rename (@LT.lt Nat _ _ _) ∧ (@LT.lt Nat _ _ _) ∧ (@LT.lt Nat _ _ _) ∧ _ => l9
    refine' deed_end (C := ⟨D, dS, dE, dV, ln, x, dx, f, c, cl, I, sv, nD, t1, t2, t3, t4, p1, p2, p3, qual, pm, ctv, oc, ocl, ps⟩) (V := ⟨dd, a0, _, a2, nd, n0, 0, n2, v0, [], v2, d0, [], d2, _, _, _, q.clear (keyS 1), tl⟩) (by k_asm) (by k_asm) ?hn rfl rfl rfl rfl ?K ?P ?ht
    case hn => ((repeat (refine List.forall_mem_cons.mpr ⟨by k_memK, ?_⟩)); intro p hp; k_ownIn)
    case K =>
      obtain ⟨g0, g1, g2, g3, e01, e02, e12, ed0, ed1, ed2, eD, eD0, eD1, eD2, i1, i2, i3, i4, off, hS, hX, hV, r0, r1, r2, l0, l1, l2⟩ := K
      obtain ⟨so, hc, g4, i0⟩ := O
      dsimp only at g0 g1 g2 g3 e01 e02 e12 ed0 ed1 ed2 eD eD0 eD1 eD2 i1 i2 i3 i4 off hc g4 i0
      have hall : AllLt _ tl := l9.2.2.2.2.2.2.2.2.2.2.2.2.2.2.2.2.2
      refine ⟨g0, g1, by ((try dsimp only); omega), g3, by ((try dsimp only); omega), e02, by ((try dsimp only); omega), ed0, by ((try dsimp only); omega), ed2, eD, eD0, by ((try dsimp only); omega), eD2, i1, i2, by ((try dsimp only); omega), i4, ?_, DictI.le (by k_asm) (Nat.le_succ _), DictI.le (by k_asm) (Nat.le_succ _), DictI.le (by k_asm) (Nat.le_succ _), r0, .nil, r2, Nat.le_succ_of_le l0, Nat.zero_le _, Nat.le_succ_of_le l2⟩
      intro p hp b hb
      have h1 := off p hp
      have h2 := ktn_ltOf hall p hp
      revert b; (repeat (refine List.forall_mem_cons.mpr ⟨by first | exact h1 _ (by k_memK) | exact Nat.ne_of_lt h2, ?_⟩)); exact List.forall_mem_nil _
    case P => exact PI.clear1
    case ht => exact .inl rfl
  · have ek : key = 2 := by assumption
    subst ek
    rename (@LT.lt Nat _ _ _) ∧ (@LT.lt Nat _ _ _) ∧ (@LT.lt Nat _ _ _) ∧ _ => l9
    refine' deed_end (C := ⟨D, dS, dE, dV, ln, x, dx, f, c, cl, I, sv, nD, t1, t2, t3, t4, p1, p2, p3, qual, pm, ctv, oc, ocl, ps⟩) (V := ⟨dd, a0, a1, _, nd, n0, n1, 0, v0, v1, [], d0, d1, [], _, _, _, q.clear (keyS 2), tl⟩) (by k_asm) (by k_asm) ?hn rfl rfl rfl rfl ?K ?P ?ht
    case hn => ((repeat (refine List.forall_mem_cons.mpr ⟨by k_memK, ?_⟩)); intro p hp; k_ownIn)
    case K =>
      obtain ⟨g0, g1, g2, g3, e01, e02, e12, ed0, ed1, ed2, eD, eD0, eD1, eD2, i1, i2, i3, i4, off, hS, hX, hV, r0, r1, r2, l0, l1, l2⟩ := K
      obtain ⟨so, hc, g4, i0⟩ := O
      dsimp only at g0 g1 g2 g3 e01 e02 e12 ed0 ed1 ed2 eD eD0 eD1 eD2 i1 i2 i3 i4 off hc g4 i0
      have hall : AllLt _ tl := l9.2.2.2.2.2.2.2.2.2.2.2.2.2.2.2.2.2
      refine ⟨g0, g1, g2, by ((try dsimp only); omega), e01, by ((try dsimp only); omega), by ((try dsimp only); omega), ed0, ed1, by ((try dsimp only); omega), eD, eD0, eD1, by ((try dsimp only); omega), i1, i2, i3, by ((try dsimp only); omega), ?_, DictI.le (by k_asm) (Nat.le_succ _), DictI.le (by k_asm) (Nat.le_succ _), DictI.le (by k_asm) (Nat.le_succ _), r0, r1, .nil, Nat.le_succ_of_le l0, Nat.le_succ_of_le l1, Nat.zero_le _⟩
      intro p hp b hb
      have h1 := off p hp
      have h2 := ktn_ltOf hall p hp
      revert b; (repeat (refine List.forall_mem_cons.mpr ⟨by first | exact h1 _ (by k_memK) | exact Nat.ne_of_lt h2, ?_⟩)); exact List.forall_mem_nil _
    case P => exact PI.clear2
    case ht => exact .inl rfl
  · rename (@LT.lt Nat _ _ _) ∧ (@LT.lt Nat _ _ _) ∧ (@LT.lt Nat _ _ _) ∧ _ => l9
    have k4 : _ ∧ True := ⟨l9, trivial⟩
    clear l9
    rename (@LT.lt Nat _ _ _) ∧ (@LT.lt Nat _ _ _) ∧ (@LT.lt Nat _ _ _) ∧ _ => l9
    have k3 : _ ∧ True := ⟨l9, trivial⟩
    clear l9
    rename (@LT.lt Nat _ _ _) ∧ (@LT.lt Nat _ _ _) ∧ (@LT.lt Nat _ _ _) ∧ _ => l9
    have k2 : _ ∧ True := ⟨l9, trivial⟩
    clear l9
    rename (@LT.lt Nat _ _ _) ∧ (@LT.lt Nat _ _ _) ∧ (@LT.lt Nat _ _ _) ∧ _ => l9
    have k1 : _ ∧ True := ⟨l9, trivial⟩
    clear l9
    refine' deed_end (C := ⟨D, dS, dE, dV, ln, x, dx, f, c, cl, I, sv, nD, t1, t2, t3, t4, p1, p2, p3, qual, pm, ctv, oc, ocl, ps⟩) (V := ⟨_, _, _, _, _, _, _, _, [], [], [], [], [], [], _, _, _, ⟨FM.nil, FM.nil⟩, tl⟩) (by k_asm) (by k_asm) ?hn rfl rfl rfl rfl ?K ?P ?ht
    case hn => ((repeat (refine List.forall_mem_cons.mpr ⟨by k_memK, ?_⟩)); intro p hp; k_ownIn)
    case K =>
      obtain ⟨g0, g1, g2, g3, e01, e02, e12, ed0, ed1, ed2, eD, eD0, eD1, eD2, i1, i2, i3, i4, off, hS, hX, hV, r0, r1, r2, l0, l1, l2⟩ := K
      obtain ⟨so, hc, g4, i0⟩ := O
      dsimp only at g0 g1 g2 g3 e01 e02 e12 ed0 ed1 ed2 eD eD0 eD1 eD2 i1 i2 i3 i4 off hc g4 i0
      have h4 := k4.1.2.2.2.2.2.2.2.2.2.2.2.2.2.2.2.2.2.2.2.2
      have h3 := k3.1.2.2.2.2.2.2.2.2.2.2.2.2.2.2.2.2.2.2.2
      have h2 := k2.1.2.2.2.2.2.2.2.2.2.2.2.2.2.2.2.2.2.2
      have h1 := k1.1.2.2.2.2.2.2.2.2.2.2.2.2.2.2.2.2.2
      refine ⟨by ((try dsimp only); omega), by ((try dsimp only); omega), by ((try dsimp only); omega), by ((try dsimp only); omega), by ((try dsimp only); omega), by ((try dsimp only); omega), by ((try dsimp only); omega), by ((try dsimp only); omega), by ((try dsimp only); omega), by ((try dsimp only); omega), by ((try dsimp only); omega), by ((try dsimp only); omega), by ((try dsimp only); omega), by ((try dsimp only); omega), by ((try dsimp only); omega), by ((try dsimp only); omega), by ((try dsimp only); omega), by ((try dsimp only); omega), ?_, DictI.le (by k_asm) (Nat.zero_le _), DictI.le (by k_asm) (Nat.zero_le _), DictI.le (by k_asm) (Nat.zero_le _), .nil, .nil, .nil, Nat.zero_le _, Nat.zero_le _, Nat.zero_le _⟩
      intro p hp b hb
      have h0 := off p hp
      have e4 := ktn_ltOf h4 p hp
      have e3 := ktn_ltOf h3 p hp
      have e2 := ktn_ltOf h2 p hp
      have e1 := ktn_ltOf h1 p hp
      revert b; (repeat (refine List.forall_mem_cons.mpr ⟨by first | exact h0 _ (by k_memK) | exact Nat.ne_of_lt e1 | exact Nat.ne_of_lt e2 | exact Nat.ne_of_lt e3 | exact Nat.ne_of_lt e4, ?_⟩)); exact List.forall_mem_nil _
    case P => exact .reset hnow
    case ht => exact .inl rfl
  · refine' deed_end (C := ⟨D, dS, dE, dV, ln, x, dx, f, c, cl, I, sv, nD, t1, t2, t3, t4, p1, p2, p3, qual, pm, ctv, oc, ocl, ps⟩) (V := ⟨dd, a0, a1, a2, nd, n0, n1, n2, v0, v1, v2, d0, d1, d2, _, _, oV, q.sweep _ now, tl⟩) (by k_asm) (by k_asm) ?hn rfl rfl rfl rfl ?K ?P ?ht
    case hn => ((repeat (refine List.forall_mem_cons.mpr ⟨by k_memK, ?_⟩)); intro p hp; k_ownIn)
    case K =>
      obtain ⟨g0, g1, g2, g3, e01, e02, e12, ed0, ed1, ed2, eD, eD0, eD1, eD2, i1, i2, i3, i4, off, hS, hX, hV, r0, r1, r2, l0, l1, l2⟩ := K
      exact ⟨g0, g1, g2, g3, e01, e02, e12, ed0, ed1, ed2, eD, eD0, eD1, eD2, i1, i2, i3, i4, off, DictI.le (by k_asm) (Nat.le_succ _), DictI.le (by k_asm) (Nat.le_succ _), hV.le (Nat.le_succ _), r0, r1, r2, Nat.le_succ_of_le l0, Nat.le_succ_of_le l1, Nat.le_succ_of_le l2⟩
    case P => exact PI.sweep _
    case ht => exact .inl rfl
end
end Mine

namespace Mine
open PySem PySem.W PySem.Calls PyProof.Rows PyProof.V PySem.Spec
local macro_rules | `(tactic| ktr_rel) => `(tactic| (refine' GS.mk ?u1 ?u2 ?u3 ?u4; (case u1 => k_updF); (case u2 => (intro a9; (try dsimp only); k_updF)); (case u3 => (intro a9 b9; (try dsimp only); k_updF)); (case u4 => k_allIn)))
local macro_rules | `(tactic| walk_at "call ref") => `(tactic| (k_here; (with_reducible show wpAny _ _ (call (Value.ref 96) [_, _] _) _ _ _); k_dflt (refine get_callG (by k_asm) (by k_asm) (by k_asm) (by k_asm) (by k_asm) (by k_asm) (by k_asm) (by k_asm) (by ktr_rel) (by k_asm) (by rfl) (by omega) (by omega) (by ktr_room) ?_); intro oS' oE' t' h' tk' F' N' hS' hX'; (try dsimp only at N')))
local macro_rules | `(tactic| walk_at "call ref") => `(tactic| (k_here; (with_reducible show wpAny _ _ (call (Value.ref 81) [_, _, _, _] _) _ _ _); k_dflt (refine incr_callG (by k_asm) (by k_asm) (by k_asm) (by k_asm) (by k_asm) (by k_asm) (by k_asm) (by k_asm) (by ktr_rel) (by k_asm) (by rfl) (by omega) (by omega) (by ktr_room) ?_); intro oS' oE' t' h' tk' F' N' hS' hX'; (try dsimp only at N')))
local macro_rules | `(tactic| walk_at "call ref") => `(tactic| (k_here; (with_reducible show wpAny _ _ (call (Value.ref 89) [_, _, _] _) _ _ _); k_dflt (refine decr_callG (by k_asm) (by k_asm) (by k_asm) (by k_asm) (by k_asm) (by k_asm) (by k_asm) (by k_asm) (by ktr_rel) (by k_asm) (by rfl) (by omega) (by omega) (by ktr_room) ?_); intro oS' oE' t' h' tk' F' N' hS' hX'; (try dsimp only at N')))
local macro_rules | `(tactic| walk_at "call ref") => `(tactic| (k_here; (with_reducible show wpAny _ _ (call (Value.ref 103) [_, _] _) _ _ _); k_dflt (refine clear_callG (by k_asm) (by k_asm) (by k_asm) (by k_asm) (by k_asm) (by k_asm) (by k_asm) (by k_asm) (by ktr_rel) (by k_asm) (by rfl) (by omega) (by omega) (by omega) (by ktr_room) ?_); intro oS' oE' oV' h' tk' F' N' hS' hX' hV'; (try dsimp only at N')))
local macro_rules | `(tactic| walk_at "call ref") => `(tactic| (k_here; (try dsimp only [List.append_nil, List.cons_append, List.nil_append]); (with_reducible show wpAny _ _ (call (Value.ref 168) [_] _) _ _ _); k_dflt (refine reset_callG (by k_asm) (by k_asm) (by k_asm) (by k_asm) (by k_asm) (by k_asm) (by k_asm) (by k_asm) (by ktr_rel) (by k_asm) (by rfl) (by omega) (by omega) (by omega) (by ktr_room) ?_); intro oS' oE' oV' n' t' h' tk' F' N' hS' hX' hV'; (try dsimp only at N')))
local macro_rules | `(tactic| walk_at "call ref") => `(tactic| (k_here; (try dsimp only [List.append_nil, List.cons_append, List.nil_append]); (with_reducible show wpAny _ _ (call (Value.ref 73) [_] _) _ _ _); k_dflt (refine expire_callG (by k_asm) (by k_asm) (by k_asm) (by k_asm) (by k_asm) (by k_asm) (by k_asm) (by k_asm) (by ktr_rel) (by k_asm) (by rfl) (by omega) (by omega) (by omega) (by ktr_room) ?_); intro oS' oE' h' tk' ks' hks' hnd' F' N' hS' hX'; (try dsimp only at N')))
local macro_rules | `(tactic| walk_at "subscriptTail") => `(tactic| (k_here; (with_reducible show wpAny _ _ (subscriptTail _ _ (Value.ref _) (Value.int _ _)) _ _ _); k_dflt (refine' item3 ?N ?m ?r ?_ ?_ ?_ ?s; (case N => k_asm); (case m => k_mem); (case r => assumption); (case s => (intro _; with_unfolding_all rfl))) <;> intro hkey'))
local macro_rules | `(tactic| walk_at "setItem ref int") => `(tactic| (k_here; (with_reducible show wpAny _ _ (setItem (Value.ref _) (Value.int _ _) (Value.ref _)) _ _ _); k_dflt (refine' set3 ?F ?N ?U ?r ?_ ?_ ?_; (case F => k_asm); (case N => k_asm); (case U => k_updF); (case r => assumption)) <;> (intro hkey' h' F' N'; (try dsimp only at N'))))
local macro_rules | `(tactic| walk_at "call builtin:list.append") => `(tactic| (k_here; (with_reducible show wpAny _ _ (call (Value.builtin _) [Value.ref _, Value.ref _]) _ _ _); k_dflt (refine' app_row ?F ?N ?U ?z ?_; (case F => k_asm); (case N => k_asm); (case U => k_updF); (case z => omega)); intro h' F' N'; (try dsimp only at N')))

local macro_rules | `(tactic| walk_at "exec For Tuple Subscript cons nil") => `(tactic| (k_here; (rename Fr _ _ _ _ => lF'); (with_unfolding_all refine' For_turns lF' ?_ ?hs ?hE; (case hs => (intro _; rfl)); (case hE => exact PassesOwn.never)); k_whole))

section
variable {w : World} {p : Program} {loose : List Str} {mean : ExcName → Option Value} {mg mb : Str → Option Value}
  {dp un : Nat} {gd : Option (List Code)} {a : Addr} {outer : List Env} {A₀ : Around} {base h₀ : Heap} {L : Addr} {m u : Str → Option Value} {s : Shared}
  {Q : Flow → Shared → Prop} {it : Obj} {C : LC} {V : LV} {now : Int} {tn : Tok} {nl : Nat} {b : Nat} {key : Int} {tK tc : Tok} {told : Value}


theorem EndV.noneI : EndV none .none := rfl
theorem EndV.someI {x : Int} {t : Tok} : EndV (some x) (.int x t) := ⟨t, rfl⟩
theorem row_end {h₀ h' : Heap} {L : Addr} {told : Value} {key : Int} {tK tc' : Tok} {x y z c c' : Int} {tk : Nat} {s : Shared} {Q : Flow → Shared → Prop} {dd xs : Addr} {led : Led} {m' : Str → Option Value} {ev' : Value} {e e' : Option Int}
    (hret : ∀ h' tk' u' ev' c' tc' e', Fr h₀ L h' (rowMap ev' c' tc' told key tK dd xs u') → News h₀ L h' led → EndV e' ev' → (c', e') = lawStep (c, e) (x, y, z) → Q .next { s with heap := h', toks := tk' })
    (F : Fr h₀ L h' m') (N : News h₀ L h' led)
    (h5 : m' (Str.ofString "end") = some ev') (h6 : m' (Str.ofString "count") = some (.int c' tc')) (h1 : m' (Str.ofString "told") = some told) (h2 : m' (Str.ofString "key") = some (.int key tK))
    (h3 : m' (Str.ofString "deeds") = some (.ref dd)) (h4 : m' (Str.ofString "store") = some (.ref xs)) (hev : EndV e' ev') (heq : (c', e') = lawStep (c, e) (x, y, z)) : Q .next { s with heap := h', toks := tk } :=
  hret h' tk m' ev' c' tc' e' ((rowMap_of m' h5 h6 h1 h2 h3 h4).symm ▸ F) N hev heq

theorem row_turn {Ji : Addr} {jt : Obj} {x y z : Int} {ta tb td : Tok} {nt : Nat} {ra : Addr} {c : Int} {ev : Value} {e : Option Int}
    (B : Below A₀ base outer h₀) (X : (hd01.heap_39 w.params).In h₀) (T : Top p loose mean mg mb h₀)
    (F : Fr h₀ L s.heap (rowMap ev c tc told key tK V.dd C.x u))
    (N : News h₀ L s.heap ((Ji, jt) :: (C.I, it) :: LL w.params C V (W.listOf #[.int now tn] nl)))
    (hm : (ra, ({ cls := .type "tuple", data := .seq #[.int x ta, .int y tb, .int z td] nt } : Obj)) ∈ (Ji, jt) :: (C.I, it) :: LL w.params C V (W.listOf #[.int now tn] nl))
    (hev : EndV e ev) (hd : dp + 5 < recursionLimit)
    (hret : ∀ h' tk' u' ev' c' tc' e', Fr h₀ L h' (rowMap ev' c' tc' told key tK V.dd C.x u') → News h₀ L h' ((Ji, jt) :: (C.I, it) :: LL w.params C V (W.listOf #[.int now tn] nl)) → EndV e' ev' → (c', e') = lawStep (c, e) (x, y, z) → Q .next { s with heap := h', toks := tk' }) :
    wpAny (model Challenge.rw_jb0019_01.row.prog w) (ktrTop dp un gd (Str.ofString "law") lawScope L a (.ref 179) [(Str.ofString "now", C.cl)] outer)
      (assign rowT (envX (Str.ofString "law") lawScope L a (.ref 179) [(Str.ofString "now", C.cl)]) (.ref ra))
      (fun _ s₂ => wpAny (model Challenge.rw_jb0019_01.row.prog w) (ktrTop dp un gd (Str.ofString "law") lawScope L a (.ref 179) [(Str.ofString "now", C.cl)] outer)
        (execs rowB (envX (Str.ofString "law") lawScope L a (.ref 179) [(Str.ofString "now", C.cl)])) Q (fun _ _ => False) s₂) (fun _ _ => False) s := by
  revert X; k_fill; intro X
  obtain ⟨D, dS, dE, dV, ln, x, dx, f, c, cl, I, sv, nD, t1, t2, t3, t4, p1, p2, p3, qual, pm, ctv, oc, ocl, ps⟩ := C
  obtain ⟨dd, a0, a1, a2, nd, n0, n1, n2, v0, v1, v2, d0, d1, d2, oS, oE, oV, q, tl⟩ := V
  dsimp only at *
  dsimp only [LL, SL] at N hm
  (try dsimp only [rowMap] at F)
  conv in rowB => whnf
  conv in rowT => whnf
  conv in (occs := *) lawScope => all_goals whnf
  (try k_fold)
  cases e with
  | none =>
    have hev' : ev = .none := hev
    subst hev'
    k_steps
    all_goals refine row_end hret (by k_asm) (by k_asm) (by rfl) (by rfl) (by rfl) (by rfl) (by rfl) (by rfl) (by first | exact EndV.noneI | exact EndV.someI) ?_
    all_goals (first | (simp [lawStep, *]; done) | (simp_all [lawStep]; done) | skip)
  | some e0 =>
    obtain ⟨t0, ht0⟩ := hev
    subst ht0
    k_steps
    all_goals refine row_end hret (by k_asm) (by k_asm) (by rfl) (by rfl) (by rfl) (by rfl) (by rfl) (by rfl) (by first | exact EndV.noneI | exact EndV.someI) ?_
    all_goals (first | (simp [lawStep, *]; done) | (simp_all [lawStep]; done) | skip)

theorem rows_iter {al : Addr} {vl : List Value} {nn : Nat} {dl : List (Int × Int × Int)}
    (B : Below A₀ base outer h₀) (X : (hd01.heap_39 w.params).In h₀) (T : Top p loose mean mg mb h₀)
    (F : Fr h₀ L s.heap (rowMap .none 0 tc told key tK V.dd C.x u))
    (N : News h₀ L s.heap ((C.I, it) :: LL w.params C V (W.listOf #[.int now tn] nl)))
    (hm : (al, W.listOf vl.toArray nn) ∈ (C.I, it) :: LL w.params C V (W.listOf #[.int now tn] nl)) (hr : RowsAre V.tl vl dl) (hd : dp + 5 < recursionLimit)
    (hret : ∀ h' tk' u' ev' c' tc' e', Fr h₀ L h' (rowMap ev' c' tc' told key tK V.dd C.x u') → News h₀ L h' ((C.I, it) :: LL w.params C V (W.listOf #[.int now tn] nl)) → EndV e' ev' → (c', e') = lawRun dl → Q .next { s with heap := h', toks := tk' }) :
    wpAny (model Challenge.rw_jb0019_01.row.prog w) (ktrTop dp un gd (Str.ofString "law") lawScope L a (.ref 179) [(Str.ofString "now", C.cl)] outer) (pyIter (.ref al))
      (fun i9 s₂ => TurnsAt Challenge.rw_jb0019_01.row.prog w (ktrTop dp un gd (Str.ofString "law") lawScope L a (.ref 179) [(Str.ofString "now", C.cl)] outer) h₀ (envX (Str.ofString "law") lawScope L a (.ref 179) [(Str.ofString "now", C.cl)]) rowT rowB Q (fun _ _ => False) i9 s₂) (fun _ _ => False) s := by
  refine iter_listTurns rfl F N hm rfl rfl (fun Ji hJ => ?_)
  refine itemsRest_ind (fun r m' news => ∃ pre ds ev c tc' e u', RowsAre V.tl r ds ∧ pre ++ ds = dl ∧ (c, e) = lawRun pre ∧ EndV e ev ∧ m' = rowMap ev c tc' told key tK V.dd C.x u' ∧ news = (C.I, it) :: LL w.params C V (W.listOf #[.int now tn] nl)) ?_ ?_ ?_ _ _ _ ?_
  · rintro r m' news ⟨pre, ds, ev, c, tc', e, u', _, _, _, _, _, rfl⟩
    exact hm
  · rintro v r m' news ⟨pre, ds, ev, c, tc', e, u', hrr, hpre, hst, hev, rfl, rfl⟩ h tk jt hjt F3 N3
    cases hrr with
    | @cons ra x y z ta tb td nt vs3 ds3 hm3 hrr =>
    refine row_turn (Ji := Ji) (jt := jt) (e := e) B X T F3 N3 (x := x) (y := y) (z := z) (.tail _ (.tail _ (.tail _ (.tail _ (.tail _ (.tail _ (.tail _ (.tail _ (.tail _ (.tail _ (.tail _ (.tail _ (.tail _ (.tail _ (.tail _ (.tail _ (.tail _ (.tail _ hm3)))))))))))))))))) hev hd ?_
    · intro h' tk' u2 ev2 c2 tc2 e2 F4 N4 hev2 hst2
      refine ⟨h', tk', _, _, rfl, F4, N4, ?_, pre ++ [(x, y, z)], ds3, ev2, c2, tc2, e2, u2, hrr, by rw [List.append_assoc]; exact hpre, ?_, hev2, rfl, rfl⟩
      · intro p hp q hq
        rw [List.mem_singleton.mp hq]
        exact Nat.ne_of_lt (hJ p hp)
      · rw [lawRun_snoc, ← hst]; exact hst2
  · rintro m' news ⟨pre, ds, ev, c, tc', e, u', hrr, hpre, hst, hev, rfl, rfl⟩ h tk F3 N3
    cases hrr
    rw [List.append_nil] at hpre
    subst hpre
    exact hret h tk u' ev c tc' e F3 N3 hev hst
  · exact ⟨[], dl, .none, 0, tc, none, u, hr, rfl, rfl, EndV.noneI, rfl, rfl⟩
end
end Mine

namespace Mine
open PySem PySem.W PySem.Calls PyProof.Rows PyProof.V PySem.Spec
local macro_rules | `(tactic| ktr_rel) => `(tactic| (refine' GS.mk ?u1 ?u2 ?u3 ?u4; (case u1 => k_updF); (case u2 => (intro a9; (try dsimp only); k_updF)); (case u3 => (intro a9 b9; (try dsimp only); k_updF)); (case u4 => k_allIn)))
local macro_rules | `(tactic| walk_at "call ref") => `(tactic| (k_here; (with_reducible show wpAny _ _ (call (Value.ref 96) [_, _] _) _ _ _); k_dflt (refine get_callG (by k_asm) (by k_asm) (by k_asm) (by k_asm) (by k_asm) (by k_asm) (by k_asm) (by k_asm) (by first | ((rename (∀ (_ _ _ : Obj), GS _ _ _ _ _ _ _ _ _ _ _) => hG9); exact hG9 _ _ _) | ktr_rel) (by k_asm) (by rfl) (by omega) (by omega) (by ktr_room) ?_); intro oS' oE' t' h' tk' F' N' hS' hX'; (try dsimp only at N')))
local macro_rules | `(tactic| walk_at "call ref") => `(tactic| (k_here; (with_reducible show wpAny _ _ (call (Value.ref 81) [_, _, _, _] _) _ _ _); k_dflt (refine incr_callG (by k_asm) (by k_asm) (by k_asm) (by k_asm) (by k_asm) (by k_asm) (by k_asm) (by k_asm) (by first | ((rename (∀ (_ _ _ : Obj), GS _ _ _ _ _ _ _ _ _ _ _) => hG9); exact hG9 _ _ _) | ktr_rel) (by k_asm) (by rfl) (by omega) (by omega) (by ktr_room) ?_); intro oS' oE' t' h' tk' F' N' hS' hX'; (try dsimp only at N')))
local macro_rules | `(tactic| walk_at "call ref") => `(tactic| (k_here; (with_reducible show wpAny _ _ (call (Value.ref 89) [_, _, _] _) _ _ _); k_dflt (refine decr_callG (by k_asm) (by k_asm) (by k_asm) (by k_asm) (by k_asm) (by k_asm) (by k_asm) (by k_asm) (by first | ((rename (∀ (_ _ _ : Obj), GS _ _ _ _ _ _ _ _ _ _ _) => hG9); exact hG9 _ _ _) | ktr_rel) (by k_asm) (by rfl) (by omega) (by omega) (by ktr_room) ?_); intro oS' oE' t' h' tk' F' N' hS' hX'; (try dsimp only at N')))
local macro_rules | `(tactic| walk_at "call ref") => `(tactic| (k_here; (with_reducible show wpAny _ _ (call (Value.ref 103) [_, _] _) _ _ _); k_dflt (refine clear_callG (by k_asm) (by k_asm) (by k_asm) (by k_asm) (by k_asm) (by k_asm) (by k_asm) (by k_asm) (by first | ((rename (∀ (_ _ _ : Obj), GS _ _ _ _ _ _ _ _ _ _ _) => hG9); exact hG9 _ _ _) | ktr_rel) (by k_asm) (by rfl) (by omega) (by omega) (by omega) (by ktr_room) ?_); intro oS' oE' oV' h' tk' F' N' hS' hX' hV'; (try dsimp only at N')))
local macro_rules | `(tactic| walk_at "call ref") => `(tactic| (k_here; (try dsimp only [List.append_nil, List.cons_append, List.nil_append]); (with_reducible show wpAny _ _ (call (Value.ref 168) [_] _) _ _ _); k_dflt (refine reset_callG (by k_asm) (by k_asm) (by k_asm) (by k_asm) (by k_asm) (by k_asm) (by k_asm) (by k_asm) (by first | ((rename (∀ (_ _ _ : Obj), GS _ _ _ _ _ _ _ _ _ _ _) => hG9); exact hG9 _ _ _) | ktr_rel) (by k_asm) (by rfl) (by omega) (by omega) (by omega) (by ktr_room) ?_); intro oS' oE' oV' n' t' h' tk' F' N' hS' hX' hV'; (try dsimp only at N')))
local macro_rules | `(tactic| walk_at "call ref") => `(tactic| (k_here; (try dsimp only [List.append_nil, List.cons_append, List.nil_append]); (with_reducible show wpAny _ _ (call (Value.ref 73) [_] _) _ _ _); k_dflt (refine expire_callG (by k_asm) (by k_asm) (by k_asm) (by k_asm) (by k_asm) (by k_asm) (by k_asm) (by k_asm) (by first | ((rename (∀ (_ _ _ : Obj), GS _ _ _ _ _ _ _ _ _ _ _) => hG9); exact hG9 _ _ _) | ktr_rel) (by k_asm) (by rfl) (by omega) (by omega) (by omega) (by ktr_room) ?_); intro oS' oE' h' tk' ks' hks' hnd' F' N' hS' hX'; (try dsimp only at N')))
local macro_rules | `(tactic| walk_at "call ref") => `(tactic| (k_here; (with_reducible show wpAny _ _ (call (Value.ref 118) [_, _] _) _ _ _); k_dflt (refine getx_callG (by k_asm) (by k_asm) (by k_asm) (by k_asm) (by k_asm) (by k_asm) (by k_asm) (by k_asm) (by first | ((rename (∀ (_ _ _ : Obj), GS _ _ _ _ _ _ _ _ _ _ _) => hG9); exact hG9 _ _ _) | ktr_rel) (by k_asm) (by rfl) (by omega) (by omega) (by ktr_room) ?_); intro t' h' tk' F' N'; (try dsimp only at N')))
local macro_rules | `(tactic| walk_at "call ref") => `(tactic| (k_here; (try dsimp only [List.append_nil, List.cons_append, List.nil_append]); (with_reducible show wpAny _ _ (call (Value.ref 161) [_] _) _ _ _); k_dflt (refine check_callG (by k_asm) (by k_asm) (by k_asm) (by k_asm) (by k_asm) (by k_asm) (by k_asm) (by k_asm) (by first | ((rename (∀ (_ _ _ : Obj), GS _ _ _ _ _ _ _ _ _ _ _) => hG9); exact hG9 _ _ _) | ktr_rel) (by k_asm) (by rfl) (by omega) (by omega) (by ktr_room) ?_); intro h' tk' F' N'; (try dsimp only at N')))
local macro_rules | `(tactic| walk_at "subscriptTail") => `(tactic| (k_here; (with_reducible show wpAny _ _ (subscriptTail _ _ (Value.ref _) (Value.int _ _)) _ _ _); k_dflt (refine' item3 ?N ?m ?r ?_ ?_ ?_ ?s; (case N => k_asm); (case m => k_mem); (case r => assumption); (case s => (intro _; with_unfolding_all rfl))) <;> intro hkey'))
local macro_rules | `(tactic| walk_at "setItem ref int") => `(tactic| (k_here; (with_reducible show wpAny _ _ (setItem (Value.ref _) (Value.int _ _) (Value.ref _)) _ _ _); k_dflt (refine' set3 ?F ?N ?U ?r ?_ ?_ ?_; (case F => k_asm); (case N => k_asm); (case U => k_updF); (case r => assumption)) <;> (intro hkey' h' F' N'; (try dsimp only at N'))))
local macro_rules | `(tactic| walk_at "call builtin:list.append") => `(tactic| (k_here; (with_reducible show wpAny _ _ (call (Value.builtin _) [Value.ref _, Value.ref _]) _ _ _); k_dflt (refine' app_row ?F ?N ?U ?z ?_; (case F => k_asm); (case N => k_asm); (case U => k_updF); (case z => omega)); intro h' F' N'; (try dsimp only at N')))

local macro_rules | `(tactic| walk_at "exec For Tuple Subscript cons nil") => `(tactic| (k_here; (rename Fr _ _ _ _ => lF'); (with_unfolding_all refine' For_turns lF' ?_ ?hs ?hE; (case hs => (intro _; rfl)); (case hE => exact PassesOwn.never)); k_whole))

local macro_rules | `(tactic| walk_at "ite") => `(tactic| (k_here; first
  | (with_reducible show ite ((_ : Int) != _) _ _; k_dflt (refine my_ine_f (by assumption) ?_))
  | (with_reducible show ite (decide _ = true) _ _; k_dflt (first | refine my_dec_t (by assumption) ?_ | refine my_dec_f (by assumption) ?_))))
section
variable {w : World} {p : Program} {loose : List Str} {mean : ExcName → Option Value} {mg mb : Str → Option Value}
  {dp un : Nat} {gd : Option (List Code)} {a : Addr} {outer : List Env} {A₀ : Around} {base h₀ : Heap} {L : Addr} {m u : Str → Option Value} {s : Shared}
  {Q : Flow → Shared → Prop} {it : Obj} {C : LC} {V : LV} {now : Int} {tn : Tok} {nl : Nat} {b : Nat} {key : Int} {tK tc : Tok} {c : Int} {ev : Value} {e : Option Int} {told : Value}

theorem rest_walk
    (B : Below A₀ base outer h₀) (X : (hd01.heap_39 w.params).In h₀) (T : Top p loose mean mg mb h₀)
    (F : Fr h₀ L s.heap (rowMap ev c tc told key tK V.dd C.x u))
    (N : News h₀ L s.heap ((C.I, it) :: LL w.params C V (W.listOf #[.int now tn] nl)))
    (O : C.Ok) (K : V.Ok w C b) (hb : b < 8388607) (hd : dp + 5 < recursionLimit) (hkey : key = 0 ∨ key = 1 ∨ key = 2) (PI : PInv V.q V.d0 V.d1 V.d2 now)
    (hev : EndV e ev) (hc : (c, e) = lawRun (selD key V.d0 V.d1 V.d2))
    (ht : told = .none ∨ ∃ z t, told = .int z t ∧ z = (obsS V.q (keyS key) now).1) :
    wpAny (model Challenge.rw_jb0019_01.row.prog w) (ktrTop dp un gd (Str.ofString "law") lawScope L a (.ref 179) [(Str.ofString "now", C.cl)] outer) (execs restB (envX (Str.ofString "law") lawScope L a (.ref 179) [(Str.ofString "now", C.cl)])) (TurnPost w C it h₀ L b s) (fun _ _ => False) s := by
  have hobs : obsS V.q (keyS key) now = obsL (c, e) now := by
    rw [hc]
    rcases hkey with rfl | rfl | rfl
    · exact PI.r0.eq
    · exact PI.r1.eq
    · exact PI.r2.eq
  have hnow := PI.now0
  have k0 : 0 ≤ key := by omega
  have k2 : key ≤ 2 := by omega
  have hkS : obsS V.q (keyS key) now = obsL (c, e) now := hobs
  clear hkey
  revert X; k_fill; intro X
  have HG := LL_GS (P := w.params) (it := it) (lnO := W.listOf #[.int now tn] nl) O K
  obtain ⟨D, dS, dE, dV, ln, x, dx, f, c0, cl, I, sv, nD, t1, t2, t3, t4, p1, p2, p3, qual, pm, ctv, oc, ocl, ps⟩ := C
  obtain ⟨dd, a0, a1, a2, nd, n0, n1, n2, v0, v1, v2, d0, d1, d2, oS, oE, oV, q, tl⟩ := V
  have hS := K.hS
  have hX := K.hX
  have hV := K.hV
  have so := O.so
  dsimp only at *
  dsimp only [LL, SL] at N HG
  (try dsimp only [rowMap] at F)
  have so' := so
  obtain ⟨⟨vs, t, f1, f2⟩, f3, o1, o2, o3, o4, o5, o6, o7, o8, lS, lE, lV⟩ := so'
  conv in restB => whnf
  conv in (occs := *) lawScope => all_goals whnf
  (try k_fold)
  have hsee : ∃ c' e', obsS q (keyS key) now = (c', e') ∧ ((q.get (Str.ofString "k" ++ Str.ofString (toString key)) now).S (Str.ofString "k" ++ Str.ofString (toString key))).getD 0 = c' ∧
      ((q.get (Str.ofString "k" ++ Str.ofString (toString key)) now).X (Str.ofString "k" ++ Str.ofString (toString key))).getD now = e'.getD now :=
    ⟨_, _, rfl, get_S hnow, congrArg (fun o => Option.getD o now) (get_X hnow)⟩
  obtain ⟨c', e', hse, hg, hx⟩ := hsee
  rw [hse] at hobs ht
  cases e with
  | none =>
    have hev' : ev = .none := hev
    subst hev'
    have h9 : (c', e') = (0, none) := hobs
    cases h9
    rcases ht with rfl | ⟨z, t9, rfl, hz⟩
    · k_steps
      exact rest_end K (by k_asm) (by k_asm) (by rfl) (by rfl) (by k_asm) (by k_asm) (PI.get _)
    · have hz : z = 0 := hz
      k_steps
      exact rest_end K (by k_asm) (by k_asm) (by rfl) (by rfl) (by k_asm) (by k_asm) (PI.get _)
  | some e0 =>
    obtain ⟨t0, ht0⟩ := hev
    subst ht0
    by_cases h0 : e0 ≤ now
    · have h9 : (c', e') = (0, none) := hobs.trans (if_pos h0)
      cases h9
      rcases ht with rfl | ⟨z, t9, rfl, hz⟩
      · k_steps
        exact rest_end K (by k_asm) (by k_asm) (by rfl) (by rfl) (by k_asm) (by k_asm) (PI.get _)
      · have hz : z = 0 := hz
        k_steps
        exact rest_end K (by k_asm) (by k_asm) (by rfl) (by rfl) (by k_asm) (by k_asm) (PI.get _)
    · have h9 : (c', e') = (c, some e0) := hobs.trans (if_neg h0)
      cases h9
      rcases ht with rfl | ⟨z, t9, rfl, hz⟩
      · k_steps
        exact rest_end K (by k_asm) (by k_asm) (by rfl) (by rfl) (by k_asm) (by k_asm) (PI.get _)
      · have hz : z = c := hz
        k_steps
        exact rest_end K (by k_asm) (by k_asm) (by rfl) (by rfl) (by k_asm) (by k_asm) (PI.get _)
end

section
variable {w : World} {p : Program} {loose : List Str} {mean : ExcName → Option Value} {mg mb : Str → Option Value}
  {dp un : Nat} {gd : Option (List Code)} {a : Addr} {outer : List Env} {A₀ : Around} {base h₀ : Heap} {L : Addr} {m u : Str → Option Value} {s : Shared}
  {Q : Flow → Shared → Prop} {it : Obj} {C : LC} {V : LV} {now : Int} {tn : Tok} {nl : Nat} {b : Nat} {key : Int} {tK : Tok} {told : Value}

theorem tail_walk
    (B : Below A₀ base outer h₀) (X : (hd01.heap_39 w.params).In h₀) (T : Top p loose mean mg mb h₀)
    (F : Fr h₀ L s.heap (fun y => if y = Str.ofString "told" then some told else if y = Str.ofString "key" then some (.int key tK) else if y = Str.ofString "deeds" then some (.ref V.dd) else if y = Str.ofString "store" then some (.ref C.x) else u y))
    (N : News h₀ L s.heap ((C.I, it) :: LL w.params C V (W.listOf #[.int now tn] nl)))
    (O : C.Ok) (K : V.Ok w C b) (hb : b < 8388607) (hd : dp + 5 < recursionLimit) (hkey : key = 0 ∨ key = 1 ∨ key = 2) (PI : PInv V.q V.d0 V.d1 V.d2 now)
    (ht : told = .none ∨ ∃ z t, told = .int z t ∧ z = (obsS V.q (keyS key) now).1) :
    wpAny (model Challenge.rw_jb0019_01.row.prog w) (ktrTop dp un gd (Str.ofString "law") lawScope L a (.ref 179) [(Str.ofString "now", C.cl)] outer) (execs tailB (envX (Str.ofString "law") lawScope L a (.ref 179) [(Str.ofString "now", C.cl)])) (TurnPost w C it h₀ L b s) (fun _ _ => False) s := by
  revert X; k_fill; intro X
  dsimp only [LL, SL] at N
  conv in tailB => whnf
  conv in (occs := *) lawScope => all_goals whnf
  (try k_fold)
  k_steps
  · have ek : key = 0 := by assumption
    subst ek
    rename Fr _ _ _ _ => F9
    refine rows_iter (told := told) (key := 0) (tK := tK) (C := C) (V := V) B X T (rowFr F9 rfl rfl rfl rfl rfl rfl) (by k_asm) (.tail _ (.tail _ (.tail _ (.head _)))) K.r0 hd ?_
    intro h' tk' u' ev' c' tc' e' F' N' hev hst
    exact wpAny_mono (rest_walk B X T F' N' O K hb hd (.inl rfl) PI hev hst ht) (fun f s' h => h) fun _ _ h => h
  · have ek : key = 1 := by assumption
    subst ek
    rename Fr _ _ _ _ => F9
    refine rows_iter (told := told) (key := 1) (tK := tK) (C := C) (V := V) B X T (rowFr F9 rfl rfl rfl rfl rfl rfl) (by k_asm) (.tail _ (.tail _ (.tail _ (.tail _ (.head _))))) K.r1 hd ?_
    intro h' tk' u' ev' c' tc' e' F' N' hev hst
    exact wpAny_mono (rest_walk B X T F' N' O K hb hd (.inr (.inl rfl)) PI hev hst ht) (fun f s' h => h) fun _ _ h => h
  · have ek : key = 2 := by assumption
    subst ek
    rename Fr _ _ _ _ => F9
    refine rows_iter (told := told) (key := 2) (tK := tK) (C := C) (V := V) B X T (rowFr F9 rfl rfl rfl rfl rfl rfl) (by k_asm) (.tail _ (.tail _ (.tail _ (.tail _ (.tail _ (.head _)))))) K.r2 hd ?_
    intro h' tk' u' ev' c' tc' e' F' N' hev hst
    exact wpAny_mono (rest_walk B X T F' N' O K hb hd (.inr (.inr rfl)) PI hev hst ht) (fun f s' h => h) fun _ _ h => h
end
end Mine

namespace Mine
open PySem PySem.W PySem.Calls PyProof.Rows PyProof.V PySem.Spec
local macro_rules | `(tactic| walk_at "exec If") => `(tactic| ((with_reducible show wpAny _ _ (exec (Stmt.If (Expr.Compare (Expr.Name (Str.ofString "kind") _) [CmpOp.Lt] [Expr.Constant (Const.int 3) _ _] _) _ _ _) _) _ _ _); refine MyStop.mk ?_))

local macro_rules | `(tactic| walk_at "subscriptTail") => `(tactic| (k_here; (with_reducible show wpAny _ _ (subscriptTail _ _ (Value.ref _) (Value.int _ _)) _ _ _); (with_unfolding_all refine' item_anyK ?k1 ?k2 ?k3 ?k4 ?k5 ?_ ?k6; (case k1 => is_list); (case k2 => l_ints); (case k3 => l_idx); (case k4 => l_idx); (case k5 => l_idx); (case k6 => with_unfolding_all rfl); k_whole); intro _))
theorem news_drop3 {h₀ h : Heap} {L : Addr} {x y z : Addr × Obj} {l : Led} (N : News h₀ L h (x :: y :: z :: l)) : News h₀ L h l := fun p hp => N p (.tail _ (.tail _ (.tail _ hp)))
theorem fmod_lt' (n : Int) (m : Nat) (h : 0 < m) : (n.fmod m).toNat < m := by
  have h1 := Int.fmod_nonneg_of_pos n (b := (m : Int)) (by omega)
  have h2 := Int.fmod_lt_of_pos n (b := (m : Int)) (by omega)
  omega
theorem fmod3 (n : Int) : n.fmod 3 = 0 ∨ n.fmod 3 = 1 ∨ n.fmod 3 = 2 := by
  have h1 := Int.fmod_nonneg_of_pos n (b := 3) (by decide)
  have h2 := Int.fmod_lt_of_pos n (b := 3) (by decide)
  omega
theorem menu_len (n : Int) : (0 : Int) < ([5, 1, 9] : List Int).getD ((n.fdiv 3).fmod 3).toNat 0 := by
  have h : ((n.fdiv 3).fmod 3).toNat < 3 := fmod_lt' (n.fdiv 3) 3 (by decide)
  generalize ((n.fdiv 3).fmod 3).toNat = k at h ⊢
  rcases k with _ | _ | _ | k <;> first | decide | omega
theorem menu_amt (n : Int) : (0 : Int) ≤ ([1, 1, 2, 0, 7] : List Int).getD ((n.fdiv 504).fmod 5).toNat 0 := by
  have h : ((n.fdiv 504).fmod 5).toNat < 5 := fmod_lt' (n.fdiv 504) 5 (by decide)
  generalize ((n.fdiv 504).fmod 5).toNat = k at h ⊢
  rcases k with _ | _ | _ | _ | _ | k <;> first | decide | omega
theorem menu_step (n : Int) : (0 : Int) ≤ ([0, 0, 1, 4, 5, 6, 9] : List Int).getD ((n.fdiv 9).fmod 7).toNat 0 := by
  have h : ((n.fdiv 9).fmod 7).toNat < 7 := fmod_lt' (n.fdiv 9) 7 (by decide)
  generalize ((n.fdiv 9).fmod 7).toNat = k at h ⊢
  rcases k with _ | _ | _ | _ | _ | _ | _ | k <;> first | decide | omega

section
variable {w : World} {p : Program} {loose : List Str} {mean : ExcName → Option Value} {mg mb : Str → Option Value}
  {dp un : Nat} {gd : Option (List Code)} {a : Addr} {outer : List Env} {A₀ : Around} {base h₀ : Heap} {L : Addr} {m u : Str → Option Value} {s : Shared}
  {it : Obj} {C : LC} {V : LV} {now : Int} {tn : Tok} {nl : Nat} {b : Nat} {n : Int} {tN : Tok}

theorem turn_walk
    (B : Below A₀ base outer h₀) (X : (hd01.heap_39 w.params).In h₀) (T : Top p loose mean mg mb h₀)
    (F : Fr h₀ L s.heap (fun y => if y = Str.ofString "n" then some (.int n tN) else if y = Str.ofString "deeds" then some (.ref V.dd) else if y = Str.ofString "store" then some (.ref C.x) else u y))
    (N : News h₀ L s.heap ((C.I, it) :: LL w.params C V (W.listOf #[.int now tn] nl)))
    (O : C.Ok) (K : V.Ok w C b) (hb : b < 8388606) (hd : dp + 5 < recursionLimit) (PI : PInv V.q V.d0 V.d1 V.d2 now) :
    wpAny (model Challenge.rw_jb0019_01.row.prog w) (ktrTop dp un gd (Str.ofString "law") lawScope L a (.ref 179) [(Str.ofString "now", C.cl)] outer) (execs turnB (envX (Str.ofString "law") lawScope L a (.ref 179) [(Str.ofString "now", C.cl)])) (TurnPost w C it h₀ L (b + 1) s) (fun _ _ => False) s := by
  revert X; k_fill; intro X
  have K' := K
  have O' := O
  have PI' := PI
  obtain ⟨D, dS, dE, dV, ln, x, dx, f, c0, cl, I, sv, nD, t1, t2, t3, t4, p1, p2, p3, qual, pm, ctv, oc, ocl, ps⟩ := C
  obtain ⟨dd, a0, a1, a2, nd, n0, n1, n2, v0, v1, v2, d0, d1, d2, oS, oE, oV, q, tl⟩ := V
  obtain ⟨so, hc, g4, i0⟩ := O
  have g0 := K.g0
  have g1 := K.g1
  have g2 := K.g2
  have g3 := K.g3
  have off := K.off
  clear K
  dsimp only [LL, SL] at N
  obtain ⟨⟨vs, t, f1, f2⟩, f3, o1, o2, o3, o4, o5, o6, o7, o8, lS, lE, lV⟩ := so
  dsimp only at F hc g4 i0 g0 g1 g2 g3 off o1 o2 o3 o4 o5 o6 o7 o8 f3
  conv in turnB => whnf
  conv in (occs := *) lawScope => all_goals whnf
  (try k_fold)
  k_steps
  rename Fr _ _ _ _ => F9
  rename News _ _ _ _ => N9
  have N10 := news_drop3 N9
  have hk : n.fmod 3 = 0 ∨ n.fmod 3 = 1 ∨ n.fmod 3 = 2 := fmod3 n
  refine wpAny_mono (deed_walk (it := it) (C := ⟨D, dS, dE, dV, ln, x, dx, f, c0, cl, I, sv, nD, t1, t2, t3, t4, p1, p2, p3, qual, pm, ctv, oc, ocl, ps⟩) (V := ⟨dd, a0, a1, a2, nd, n0, n1, n2, v0, v1, v2, d0, d1, d2, oS, oE, oV, q, tl⟩) (b := b)
    B X T F9 N10 O' K' (by omega) hd ?_ hk (menu_len n) (menu_amt n) ?_) (fun fl s' hp => ?_) (fun _ _ h => h)
  · exact Int.add_nonneg PI'.now0 (menu_step n)
  · exact PI'.later (Int.le_add_of_nonneg_right (menu_step n))
  · obtain ⟨rfl, V2, told, h2, tk2, u2, rfl, F2, N2, K2, P2, ht2⟩ := hp
    exact wpAny_mono (tail_walk B X T F2 N2 O' K2 (by omega) hd hk P2 ht2) (fun f s' h => h) fun _ _ h => h
end
end Mine

namespace Mine
open PySem PySem.W PySem.Calls PyProof.Rows PyProof.V PySem.Spec

section
variable {w : World} {p : Program} {loose : List Str} {mean : ExcName → Option Value} {mg mb : Str → Option Value}
  {dp un : Nat} {gd : Option (List Code)} {a : Addr} {outer : List Env} {A₀ : Around} {base h₀ : Heap} {L : Addr} {m u : Str → Option Value} {s : Shared} {E : Value → Shared → Prop} {Q : Flow → Shared → Prop}
  {it : Obj} {C : LC} {V : LV} {now : Int} {tn : Tok} {nl : Nat} {b : Nat} {n : Int} {tN : Tok} {ns : List Int} {pn : Pos}

structure LC.Ok0 (C : LC) : Prop where
  so : SOk C.dS C.dE C.dV C.ln C.x C.dx C.f C.c C.cl C.qual C.oc C.ocl
  hc : @LT.lt Nat _ 175 C.cl
  g4 : @LT.lt Nat _ C.dV C.D

theorem LV.Ok.apart {lnO : Obj} {P : Params} (K : V.Ok w C b) (O : C.Ok) : ∀ p ∈ LL P C V lnO, p.1 ≠ C.I := by
  obtain ⟨_, f3, o1, o2, o3, o4, o5, o6, o7, o8, lS, lE, lV⟩ := O.so
  have hc := O.hc
  have g4 := O.g4
  have i0 := O.i0
  have i1 := K.i1
  have i2 := K.i2
  have i3 := K.i3
  have i4 := K.i4
  have off : ∀ p ∈ V.tl, p.1 ≠ C.I := fun p hp => K.off p hp _ (.head _)
  clear K O
  (repeat (refine List.forall_mem_cons.mpr ⟨by (refine neN ?_; dsimp only; omega), ?_⟩))
  exact off

theorem law_iter
    (B : Below A₀ base outer h₀) (X : (hd01.heap_39 w.params).In h₀) (T : Top p loose mean mg mb h₀)
    (F : Fr h₀ L s.heap (fun y => if y = Str.ofString "deeds" then some (.ref V.dd) else if y = Str.ofString "store" then some (.ref C.x) else u y))
    (N : News h₀ L s.heap (LL w.params C V (W.listOf #[.int now tn] nl)))
    (O : C.Ok0) (hK : ∀ I : Addr, (∀ p ∈ LL w.params C V (W.listOf #[.int now tn] nl), p.1 < I) → V.Ok w { C with I := I } 0) (hi : IntsAre C.sv ns) (hlen : ns.length ≤ 64) (hd : dp + 5 < recursionLimit) (PI : PInv V.q V.d0 V.d1 V.d2 now)
    (done : ∀ (C' : LC) (V' : LV) h' tk' (u' : Str → Option Value) now' tn' nl' b', C'.Ok → C'.x = C.x → Fr h₀ L h' (fun y => if y = Str.ofString "deeds" then some (.ref V'.dd) else if y = Str.ofString "store" then some (.ref C.x) else u' y) →
      News h₀ L h' (LL w.params C V' (W.listOf #[.int now' tn'] nl')) → V'.Ok w C' b' → b' ≤ 64 → PInv V'.q V'.d0 V'.d1 V'.d2 now' → (∃ I, C' = { C with I := I }) → Q .next { s with heap := h', toks := tk' }) :
    wpAny (model Challenge.rw_jb0019_01.row.prog w) (ktrTop dp un gd (Str.ofString "law") lawScope L a (.ref 179) [(Str.ofString "now", C.cl)] outer) (pyIter (.ref C.D))
      (fun i9 s₂ => TurnsAt Challenge.rw_jb0019_01.row.prog w (ktrTop dp un gd (Str.ofString "law") lawScope L a (.ref 179) [(Str.ofString "now", C.cl)] outer) h₀ (envX (Str.ofString "law") lawScope L a (.ref 179) [(Str.ofString "now", C.cl)]) (.Name (Str.ofString "n") pn) turnB Q E i9 s₂) E s := by
  refine iter_listTurns rfl F N (.head _) rfl rfl (fun I hI => ?_)
  have O1 : ({ C with I := I } : LC).Ok := ⟨O.so, O.hc, O.g4, hI _ (.head _)⟩
  refine itemsRest_ind (fun r m' news => ∃ (V' : LV) (b' : Nat) (ns' : List Int) (now' : Int) (tn' : Tok) (nl' : Nat) (u' : Str → Option Value), IntsAre r ns' ∧ b' + ns'.length ≤ 64 ∧ V'.Ok w { C with I := I } b' ∧ PInv V'.q V'.d0 V'.d1 V'.d2 now' ∧
    m' = (fun y => if y = Str.ofString "deeds" then some (.ref V'.dd) else if y = Str.ofString "store" then some (.ref C.x) else u' y) ∧ news = LL w.params C V' (W.listOf #[.int now' tn'] nl')) ?_ ?_ ?_ _ _ _ ?_
  · rintro r m' news ⟨V', b', ns', now', tn', nl', u', _, _, _, _, _, rfl⟩
    exact .head _
  · rintro v r m' news ⟨V', b', ns', now', tn', nl', u', hr, hb, K, P, rfl, rfl⟩ h tk jt hjt F3 N3
    cases hr with
    | @cons i t vs3 ns3 hr =>
    refine wpAny_assign_Name (storeX_L F3 N3 (fun h' F4 N4 => ?_) rfl rfl)
    refine wpAny_noRaise (wpAny_mono (turn_walk (it := jt) (C := { C with I := I }) (V := V') (b := b') B X T F4 N4 O1 K (by simp only [List.length_cons] at hb; omega) hd P) (fun f s' hp => ?_) fun _ _ h => h)
    obtain ⟨rfl, V2, h2, tk2, u2, now2, tn2, nl2, rfl, F5, N5, K2, P2⟩ := hp
    refine ⟨h2, tk2, _, LL w.params C V2 (W.listOf #[.int now2 tn2] nl2), rfl, F5, N5, ?_, V2, b' + 1, ns3, now2, tn2, nl2, u2, hr, by simp only [List.length_cons] at hb; omega, K2, P2, rfl, rfl⟩
    intro p hp q hq
    rw [List.mem_singleton.mp hq]
    exact K2.apart O1 p hp
  · rintro m' news ⟨V', b', ns', now', tn', nl', u', hr, hb, K, P, rfl, rfl⟩ h tk F3 N3
    exact done { C with I := I } V' h tk u' now' tn' nl' b' O1 rfl F3 N3 K (by omega) P ⟨I, rfl⟩
  · exact ⟨V, 0, ns, now, tn, nl, u, hi, by omega, hK I hI, PI, rfl, rfl⟩
end
end Mine

namespace Mine
open PySem PySem.W PySem.Calls PyProof.Rows PyProof.V PySem.Spec

local macro_rules | `(tactic| ktr_rel) => `(tactic| (refine' GS.mk ?u1 ?u2 ?u3 ?u4; (case u1 => k_updF); (case u2 => (intro a9; (try dsimp only); k_updF)); (case u3 => (intro a9 b9; (try dsimp only); k_updF)); (case u4 => k_allIn)))
local macro_rules | `(tactic| walk_at "call ref") => `(tactic| (k_here; (with_reducible show wpAny _ _ (call (Value.ref 96) [_, _] _) _ _ _); k_dflt (refine get_callG (by k_asm) (by k_asm) (by k_asm) (by k_asm) (by k_asm) (by k_asm) (by k_asm) (by k_asm) (by first | ((rename (∀ (_ _ _ : Obj), GS _ _ _ _ _ _ _ _ _ _ _) => hG9); exact hG9 _ _ _) | ktr_rel) (by k_asm) (by rfl) (by omega) (by omega) (by ktr_room) ?_); intro oS' oE' t' h' tk' F' N' hS' hX'; (try dsimp only at N')))
local macro_rules | `(tactic| walk_at "call ref") => `(tactic| (k_here; (with_reducible show wpAny _ _ (call (Value.ref 81) [_, _, _, _] _) _ _ _); k_dflt (refine incr_callG (by k_asm) (by k_asm) (by k_asm) (by k_asm) (by k_asm) (by k_asm) (by k_asm) (by k_asm) (by first | ((rename (∀ (_ _ _ : Obj), GS _ _ _ _ _ _ _ _ _ _ _) => hG9); exact hG9 _ _ _) | ktr_rel) (by k_asm) (by rfl) (by omega) (by omega) (by ktr_room) ?_); intro oS' oE' t' h' tk' F' N' hS' hX'; (try dsimp only at N')))
local macro_rules | `(tactic| walk_at "call ref") => `(tactic| (k_here; (with_reducible show wpAny _ _ (call (Value.ref 89) [_, _, _] _) _ _ _); k_dflt (refine decr_callG (by k_asm) (by k_asm) (by k_asm) (by k_asm) (by k_asm) (by k_asm) (by k_asm) (by k_asm) (by first | ((rename (∀ (_ _ _ : Obj), GS _ _ _ _ _ _ _ _ _ _ _) => hG9); exact hG9 _ _ _) | ktr_rel) (by k_asm) (by rfl) (by omega) (by omega) (by ktr_room) ?_); intro oS' oE' t' h' tk' F' N' hS' hX'; (try dsimp only at N')))
local macro_rules | `(tactic| walk_at "call ref") => `(tactic| (k_here; (with_reducible show wpAny _ _ (call (Value.ref 103) [_, _] _) _ _ _); k_dflt (refine clear_callG (by k_asm) (by k_asm) (by k_asm) (by k_asm) (by k_asm) (by k_asm) (by k_asm) (by k_asm) (by first | ((rename (∀ (_ _ _ : Obj), GS _ _ _ _ _ _ _ _ _ _ _) => hG9); exact hG9 _ _ _) | ktr_rel) (by k_asm) (by rfl) (by omega) (by omega) (by omega) (by ktr_room) ?_); intro oS' oE' oV' h' tk' F' N' hS' hX' hV'; (try dsimp only at N')))
local macro_rules | `(tactic| walk_at "call ref") => `(tactic| (k_here; (try dsimp only [List.append_nil, List.cons_append, List.nil_append]); (with_reducible show wpAny _ _ (call (Value.ref 168) [_] _) _ _ _); k_dflt (refine reset_callG (by k_asm) (by k_asm) (by k_asm) (by k_asm) (by k_asm) (by k_asm) (by k_asm) (by k_asm) (by first | ((rename (∀ (_ _ _ : Obj), GS _ _ _ _ _ _ _ _ _ _ _) => hG9); exact hG9 _ _ _) | ktr_rel) (by k_asm) (by rfl) (by omega) (by omega) (by omega) (by ktr_room) ?_); intro oS' oE' oV' n' t' h' tk' F' N' hS' hX' hV'; (try dsimp only at N')))
local macro_rules | `(tactic| walk_at "call ref") => `(tactic| (k_here; (try dsimp only [List.append_nil, List.cons_append, List.nil_append]); (with_reducible show wpAny _ _ (call (Value.ref 73) [_] _) _ _ _); k_dflt (refine expire_callG (by k_asm) (by k_asm) (by k_asm) (by k_asm) (by k_asm) (by k_asm) (by k_asm) (by k_asm) (by first | ((rename (∀ (_ _ _ : Obj), GS _ _ _ _ _ _ _ _ _ _ _) => hG9); exact hG9 _ _ _) | ktr_rel) (by k_asm) (by rfl) (by omega) (by omega) (by omega) (by ktr_room) ?_); intro oS' oE' h' tk' ks' hks' hnd' F' N' hS' hX'; (try dsimp only at N')))
local macro_rules | `(tactic| walk_at "call ref") => `(tactic| (k_here; (with_reducible show wpAny _ _ (call (Value.ref 118) [_, _] _) _ _ _); k_dflt (refine getx_callG (by k_asm) (by k_asm) (by k_asm) (by k_asm) (by k_asm) (by k_asm) (by k_asm) (by k_asm) (by first | ((rename (∀ (_ _ _ : Obj), GS _ _ _ _ _ _ _ _ _ _ _) => hG9); exact hG9 _ _ _) | ktr_rel) (by k_asm) (by rfl) (by omega) (by omega) (by ktr_room) ?_); intro t' h' tk' F' N'; (try dsimp only at N')))
local macro_rules | `(tactic| walk_at "call ref") => `(tactic| (k_here; (try dsimp only [List.append_nil, List.cons_append, List.nil_append]); (with_reducible show wpAny _ _ (call (Value.ref 161) [_] _) _ _ _); k_dflt (refine check_callG (by k_asm) (by k_asm) (by k_asm) (by k_asm) (by k_asm) (by k_asm) (by k_asm) (by k_asm) (by first | ((rename (∀ (_ _ _ : Obj), GS _ _ _ _ _ _ _ _ _ _ _) => hG9); exact hG9 _ _ _) | ktr_rel) (by k_asm) (by rfl) (by omega) (by omega) (by ktr_room) ?_); intro h' tk' F' N'; (try dsimp only at N')))
local macro_rules | `(tactic| walk_at "subscriptTail") => `(tactic| (k_here; (with_reducible show wpAny _ _ (subscriptTail _ _ (Value.ref _) (Value.int _ _)) _ _ _); k_dflt (refine' item3 ?N ?m ?r ?_ ?_ ?_ ?s; (case N => k_asm); (case m => k_mem); (case r => assumption); (case s => (intro _; with_unfolding_all rfl))) <;> intro hkey'))
local macro_rules | `(tactic| walk_at "setItem ref int") => `(tactic| (k_here; (with_reducible show wpAny _ _ (setItem (Value.ref _) (Value.int _ _) (Value.ref _)) _ _ _); k_dflt (refine' set3 ?F ?N ?U ?r ?_ ?_ ?_; (case F => k_asm); (case N => k_asm); (case U => k_updF); (case r => assumption)) <;> (intro hkey' h' F' N'; (try dsimp only at N'))))
local macro_rules | `(tactic| walk_at "call builtin:list.append") => `(tactic| (k_here; (with_reducible show wpAny _ _ (call (Value.builtin _) [Value.ref _, Value.ref _]) _ _ _); k_dflt (refine' app_row ?F ?N ?U ?z ?_; (case F => k_asm); (case N => k_asm); (case U => k_updF); (case z => omega)); intro h' F' N'; (try dsimp only at N')))

local macro_rules | `(tactic| walk_at "exec For Tuple Subscript cons nil") => `(tactic| (k_here; (rename Fr _ _ _ _ => lF'); (with_unfolding_all refine' For_turns lF' ?_ ?hs ?hE; (case hs => (intro _; rfl)); (case hE => exact PassesOwn.never)); k_whole))

local macro_rules | `(tactic| walk_at "ite") => `(tactic| (k_here; first
  | (with_reducible show ite ((_ : Int) != _) _ _; k_dflt (refine my_ine_f (by assumption) ?_))
  | (with_reducible show ite (decide _ = true) _ _; k_dflt (first | refine my_dec_t (by assumption) ?_ | refine my_dec_f (by assumption) ?_))))
section
variable {w : World} {p : Program} {loose : List Str} {mean : ExcName → Option Value} {mg mb : Str → Option Value}
  {dp un : Nat} {gd : Option (List Code)} {a : Addr} {outer : List Env} {A₀ : Around} {base h₀ : Heap} {L : Addr} {m u : Str → Option Value} {s : Shared} {E : Value → Shared → Prop} {Q : Flow → Shared → Prop}
  {it : Obj} {C : LC} {V : LV} {now : Int} {tn : Tok} {nl : Nat} {b : Nat} {n : Int} {tN : Tok} {ns : List Int} {pn : Pos}


def endB : List Stmt := match lawB with | _ :: _ :: _ :: _ :: r => r | _ => []

theorem law_start {D dd a2 a1 a0 dV dE dS x dx f c ln cl : Addr} {ws : List Value} {oV oE oS oc ocl : Obj} {now : Int} {tn : Tok} {t1 t2 t3 t4 : Tok} {p1 p2 p3 : Pos} {qual : Str} {pm ctv : Value} {ps : Array Value} {vs : Array Value} {t : Tok} {m' : Str → Option Value}
    (B : Below A₀ base outer h₀) (X : (hd01.heap_39 w.params).In h₀) (T : Top p loose mean mg mb h₀)
    (N : News h₀ L s.heap [(D, W.listOf ws.toArray 0), (dd, W.listOf #[.ref a0, .ref a1, .ref a2] 0), (a2, W.listOf #[] 0), (a1, W.listOf #[] 0), (a0, W.listOf #[] 0), (dV, oV), (dE, oE), (dS, oS), (x, instObj 171 dx),
      (dx, W.dictOf [{ hash := PyData.keyHash w.params (Str.ofString "clock"), key := .str (Str.ofString "clock") t1, val := .ref f }, { hash := PyData.keyHash w.params (Str.ofString "storage"), key := .str (Str.ofString "storage") t2, val := .ref dS },
        { hash := PyData.keyHash w.params (Str.ofString "expirations"), key := .str (Str.ofString "expirations") t3, val := .ref dE }, { hash := PyData.keyHash w.params (Str.ofString "events"), key := .str (Str.ofString "events") t4, val := .ref dV }] 4),
      (f, lamObj p1 p2 p3 qual cl c pm ctv), (c, oc), (ln, W.listOf #[.int now tn] 0), (cl, ocl), (68, tabObj #[]), (175, tabObj ps)])
    (F : Fr h₀ L s.heap m') (m1 : m' (Str.ofString "deeds") = some (.ref dd)) (m2 : m' (Str.ofString "store") = some (.ref x))
    (d1 : oc.data = .fields vs) (d2 : vs[1]? = some (.str qual t)) (d3 : ocl.data = .cell (some (.ref ln)))
    (o0 : @LT.lt Nat _ 175 cl) (o1 : @LT.lt Nat _ cl ln) (o2 : @LT.lt Nat _ ln c) (o3 : @LT.lt Nat _ c f) (o4 : @LT.lt Nat _ f dx) (o5 : @LT.lt Nat _ dx x) (o6 : @LT.lt Nat _ x dS) (o7 : @LT.lt Nat _ dS dE) (o8 : @LT.lt Nat _ dE dV)
    (q1 : @LT.lt Nat _ dV a0) (q2 : @LT.lt Nat _ a0 a1) (q3 : @LT.lt Nat _ a1 a2) (q4 : @LT.lt Nat _ a2 dd) (q5 : @LT.lt Nat _ dd D)
    (lS : (dS == sysModules) = false) (lE : (dE == sysModules) = false) (lV : (dV == sysModules) = false)
    (hS : oS.IsDictOf (PySem.strKind Challenge.rw_jb0019_01.row.prog w) []) (hE : oE.IsDictOf (PySem.strKind Challenge.rw_jb0019_01.row.prog w) []) (hV : oV.IsDictOf (PySem.strKind Challenge.rw_jb0019_01.row.prog w) [])
    (hi : IntsAre ws ns) (hlen : ns.length ≤ 64) (hd : dp + 5 < recursionLimit) (hnow : 0 ≤ now)
    (done : ∀ (C' : LC) (V' : LV) h' tk' (u' : Str → Option Value) now' tn' nl' b', C'.Ok → C'.cl = cl → Fr h₀ L h' (fun y => if y = Str.ofString "deeds" then some (.ref V'.dd) else if y = Str.ofString "store" then some (.ref C'.x) else u' y) →
      News h₀ L h' (LL w.params C' V' (W.listOf #[.int now' tn'] nl')) → V'.Ok w C' b' → b' ≤ 64 → PInv V'.q V'.d0 V'.d1 V'.d2 now' → Q .next { s with heap := h', toks := tk' }) :
    wpAny (model Challenge.rw_jb0019_01.row.prog w) (ktrTop dp un gd (Str.ofString "law") lawScope L a (.ref 179) [(Str.ofString "now", cl)] outer) (pyIter (.ref D))
      (fun i9 s₂ => TurnsAt Challenge.rw_jb0019_01.row.prog w (ktrTop dp un gd (Str.ofString "law") lawScope L a (.ref 179) [(Str.ofString "now", cl)] outer) h₀ (envX (Str.ofString "law") lawScope L a (.ref 179) [(Str.ofString "now", cl)]) (.Name (Str.ofString "n") pn) turnB Q E i9 s₂) E s := by
  have e0 : ∀ o : Obj, o.IsDictOf (PySem.strKind Challenge.rw_jb0019_01.row.prog w) [] → DictI Challenge.rw_jb0019_01.row.prog w o FM.nil 0 := fun o h => ⟨[], h, Nat.le_refl _, RepI.nil⟩
  refine law_iter (u := m') (C := ⟨D, dS, dE, dV, ln, x, dx, f, c, cl, 0, ws, 0, t1, t2, t3, t4, p1, p2, p3, qual, pm, ctv, oc, ocl, ps⟩) (V := ⟨dd, a0, a1, a2, 0, 0, 0, 0, [], [], [], [], [], [], oS, oE, oV, ⟨FM.nil, FM.nil⟩, []⟩) (now := now) (tn := tn) (nl := 0) (ns := ns)
    B X T ?_ ?_ ⟨⟨⟨vs, t, d1, d2⟩, d3, o1, o2, o3, o4, o5, o6, o7, o8, lS, lE, lV⟩, o0, by dsimp only; omega⟩ ?_ hi hlen hd (.reset hnow) ?_
  · rw [map2 m' m1 m2]; exact F
  · (repeat (refine List.forall_mem_cons.mpr ⟨N _ (by k_memK), ?_⟩))
    exact List.forall_mem_nil _
  · intro I hI
    have h1 : @LT.lt Nat _ D I := hI _ (.head _)
    clear hI N F
    refine ⟨by dsimp only; omega, by dsimp only; omega, by dsimp only; omega, by dsimp only; omega, by dsimp only; omega, by dsimp only; omega, by dsimp only; omega, by dsimp only; omega, by dsimp only; omega, by dsimp only; omega, by dsimp only; omega, by dsimp only; omega, by dsimp only; omega, by dsimp only; omega,
      by dsimp only; omega, by dsimp only; omega, by dsimp only; omega, by dsimp only; omega, fun _ h => (nomatch h), e0 _ hS, e0 _ hE, e0 _ hV, .nil, .nil, .nil, Nat.le_refl _, Nat.le_refl _, Nat.le_refl _⟩
  · rintro C' V' h' tk' u' now' tn' nl' b' O' hx F' N' K' hb' P' ⟨I, rfl⟩
    exact done _ V' h' tk' u' now' tn' nl' b' O' rfl F' N' K' hb' P'

theorem end_walk
    (B : Below A₀ base outer h₀) (X : (hd01.heap_39 w.params).In h₀) (T : Top p loose mean mg mb h₀)
    (F : Fr h₀ L s.heap (fun y => if y = Str.ofString "deeds" then some (.ref V.dd) else if y = Str.ofString "store" then some (.ref C.x) else u y))
    (N : News h₀ L s.heap (LL w.params C V (W.listOf #[.int now tn] nl)))
    (O : C.Ok) (K : V.Ok w C b) (hb : b ≤ 64) (hd : dp + 5 < recursionLimit) (PI : PInv V.q V.d0 V.d1 V.d2 now)
    (hret : ∀ h' tk' m', Fr h₀ L h' m' → News h₀ L h' [(68, tabObj #[]), (175, tabObj C.ps)] → Q (.ret (.bool true)) { s with heap := h', toks := tk' }) :
    wpAny (model Challenge.rw_jb0019_01.row.prog w) (ktrTop dp un gd (Str.ofString "law") lawScope L a (.ref 179) [(Str.ofString "now", C.cl)] outer) (execs endB (envX (Str.ofString "law") lawScope L a (.ref 179) [(Str.ofString "now", C.cl)])) Q E s := by
  have hnow := PI.now0
  have hg : ((V.q.get (Str.ofString "none") now).S (Str.ofString "none")).getD 0 = 0 := by rw [get_S hnow, PI.rn]
  have hx : ((V.q.get (Str.ofString "none") now).X (Str.ofString "none")).getD now = now := by rw [get_X hnow, PI.rn]; rfl
  revert X; k_fill; intro X
  obtain ⟨D, dS, dE, dV, ln, x, dx, f, c0, cl, I, sv, nD, t1, t2, t3, t4, p1, p2, p3, qual, pm, ctv, oc, ocl, ps⟩ := C
  obtain ⟨dd, a0, a1, a2, nd, n0, n1, n2, v0, v1, v2, d0, d1, d2, oS, oE, oV, q, tl⟩ := V
  have hS := K.hS
  have hX := K.hX
  have hV := K.hV
  have so := O.so
  have g0 := K.g0
  have g1 := K.g1
  have g2 := K.g2
  have g3 := K.g3
  have g4 := O.g4
  have hc := O.hc
  have off := K.off
  dsimp only at *
  dsimp only [LL, SL] at N
  have so' := so
  obtain ⟨⟨vs, t, f1, f2⟩, f3, o1, o2, o3, o4, o5, o6, o7, o8, lS, lE, lV⟩ := so'
  conv in endB => whnf
  conv in (occs := *) lawScope => all_goals whnf
  (try k_fold)
  k_steps
  · refine hret _ _ _ (by k_asm) ?_
    rename News _ _ _ _ => N9
    exact List.forall_mem_cons.mpr ⟨N9 _ (by k_memK), List.forall_mem_cons.mpr ⟨N9 _ (by k_memK), List.forall_mem_nil _⟩⟩
  · exact absurd hx (by assumption)
  · exact absurd hg (by assumption)
end
end Mine

namespace Mine
open PySem PySem.W PySem.Calls PyProof.Rows PyProof.V PySem.Spec
local macro_rules | `(tactic| walk_at "exec For Name Subscript cons nil") => `(tactic| (k_here; (rename Fr _ _ _ _ => lF'); (with_unfolding_all refine' For_turns lF' ?_ ?hs ?hE; (case hs => (intro _; rfl)); (case hE => passes_own)); k_whole))
theorem lawHolds : PySem.Challenge.rw_jb0019_01.Holds := hd01 (by
  w_strict (k_go0; (all_goals try k_fold); k_steps)
  all_goals
    refine' law_start ?B ?X ?T ?N ?F ?m1 ?m2 ?d1 ?d2 ?d3 ?o0 ?o1 ?o2 ?o3 ?o4 ?o5 ?o6 ?o7 ?o8 ?q1 ?q2 ?q3 ?q4 ?q5 ?lS ?lE ?lV ?hS ?hE ?hV ?hi ?hlen ?hd ?hnow ?done
    case N => k_asm
    case F => k_asm
    case m1 => rfl
    case m2 => rfl
    case B => k_asm
    case X => k_asm
    case T => k_asm
    case d1 => assumption
    case d2 => assumption
    case d3 => assumption
    case o0 => omega
    case o1 => omega
    case o2 => omega
    case o3 => omega
    case o4 => omega
    case o5 => omega
    case o6 => omega
    case o7 => omega
    case o8 => omega
    case q1 => omega
    case q2 => omega
    case q3 => omega
    case q4 => omega
    case q5 => omega
    case lS => assumption
    case lE => assumption
    case lV => assumption
    case hS => assumption
    case hE => assumption
    case hV => assumption
    case hi => assumption
    case hlen => (refine Nat.le_trans (List.length_take_le _ _) ?_; omega)
    case hd => ktr_room
    case hnow => first | exact Int.le_refl 0 | exact Int.fmod_nonneg_of_pos _ (by decide)
    case done =>
      intro C' V' h9 tk9 u9 now9 tn9 nl9 b9 O9 hcl F9 N9 K9 hb9 P9
      obtain ⟨D, dS, dE, dV, ln, x, dx, f, c0, cl, I, sv, nD, t1, t2, t3, t4, p1, p2, p3, qual, pm, ctv, oc, ocl, ps⟩ := C'
      dsimp only at hcl
      subst hcl
      refine' end_walk ?eB ?eX ?eT F9 N9 O9 K9 hb9 ?ed P9 (fun h2 tk2 m2 F2 N2 => ?_)
      case eB => k_asm
      case eX => k_asm
      case eT => k_asm
      case ed => ktr_room
      clear F9 N9
      k_steps)
end Mine

theorem PySem.Challenge.cw_jb0019_01_holds : PySem.Challenge.rw_jb0019_01.Holds := by
  exact Mine.lawHolds
