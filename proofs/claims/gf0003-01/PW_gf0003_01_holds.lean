import PyProof.Rows.All
import Wide.All
import OpenK.AllK
import Wide.FinOn
import PySem.Challenge.RW_gf0003_01
set_option Elab.async false
section
open PySem PySem.W PyProof.Rows
namespace Mine
set_option maxRecDepth 100000
set_option maxHeartbeats 8000000
open_top hd for PySem.Challenge.rw_gf0003_01
end Mine
end
section
open PySem PySem.W PyProof.Rows
set_option maxRecDepth 100000
namespace Mine
/-- the sum of the ways, number by number, with fuel -/
def waysN : Nat → Int → Int → Int
  | 0, _, _ => 0
  | n + 1, w, m => if w = 0 then 1 else ((rangeKs 1 (min w m).toNat).map fun k => waysN n (w - k) k).sum
def wy (w m : Int) : Int := waysN (w.toNat + 1) w m
theorem waysN_fuel : ∀ (n n' : Nat) (w m : Int), 0 ≤ w → w.toNat < n → w.toNat < n' → waysN n w m = waysN n' w m := by
  intro n
  induction n with
  | zero => intro n' w m _ h; omega
  | succ n ih =>
    intro n' w m h0 h h'
    cases n' with
    | zero => omega
    | succ n' =>
      unfold waysN
      split
      · rfl
      · congr 1
        refine List.map_congr_left fun k hk => ?_
        have := mem_rangeKs hk
        exact ih n' _ _ (by omega) (by omega) (by omega)
theorem wy_eq {w m : Int} (h0 : 0 ≤ w) : wy w m = if w = 0 then 1 else ((rangeKs 1 (min w m).toNat).map fun k => wy (w - k) k).sum := by
  unfold wy
  rw [waysN]
  split
  · rfl
  · congr 1
    refine List.map_congr_left fun k hk => ?_
    have := mem_rangeKs hk
    exact waysN_fuel _ _ _ _ (by omega) (by omega) (by omega)
end Mine
end
section
local macro_rules | `(tactic| walk_at "mine dummy 2 0") => `(tactic| skip)
local macro_rules | `(tactic| walk_at "mine dummy 2 1") => `(tactic| skip)
local macro_rules | `(tactic| walk_at "mine dummy 2 2") => `(tactic| skip)
local macro_rules | `(tactic| walk_at "mine dummy 2 3") => `(tactic| skip)
local macro_rules | `(tactic| walk_at "mine dummy 2 4") => `(tactic| skip)
local macro_rules | `(tactic| walk_at "mine dummy 2 5") => `(tactic| skip)
local macro_rules | `(tactic| walk_at "mine dummy 2 6") => `(tactic| skip)
local macro_rules | `(tactic| walk_at "mine dummy 2 7") => `(tactic| skip)
local macro_rules | `(tactic| walk_at "mine dummy 2 8") => `(tactic| skip)
local macro_rules | `(tactic| walk_at "mine dummy 2 9") => `(tactic| skip)
local macro_rules | `(tactic| walk_at "mine dummy 2 10") => `(tactic| skip)
local macro_rules | `(tactic| walk_at "mine dummy 2 11") => `(tactic| skip)
local macro_rules | `(tactic| walk_at "mine dummy 2 12") => `(tactic| skip)
local macro_rules | `(tactic| walk_at "mine dummy 2 13") => `(tactic| skip)
local macro_rules | `(tactic| walk_at "mine dummy 2 14") => `(tactic| skip)
local macro_rules | `(tactic| walk_at "mine dummy 2 15") => `(tactic| skip)
local macro_rules | `(tactic| walk_at "mine dummy 2 16") => `(tactic| skip)
local macro_rules | `(tactic| walk_at "mine dummy 2 17") => `(tactic| skip)
local macro_rules | `(tactic| walk_at "mine dummy 2 18") => `(tactic| skip)
local macro_rules | `(tactic| walk_at "mine dummy 2 19") => `(tactic| skip)
local macro_rules | `(tactic| walk_at "mine dummy 2 20") => `(tactic| skip)
local macro_rules | `(tactic| walk_at "mine dummy 2 21") => `(tactic| skip)
local macro_rules | `(tactic| walk_at "mine dummy 2 22") => `(tactic| skip)
local macro_rules | `(tactic| walk_at "mine dummy 2 23") => `(tactic| skip)
local macro_rules | `(tactic| walk_at "mine dummy 2 24") => `(tactic| skip)
local macro_rules | `(tactic| walk_at "mine dummy 2 25") => `(tactic| skip)
local macro_rules | `(tactic| walk_at "mine dummy 2 26") => `(tactic| skip)
local macro_rules | `(tactic| walk_at "mine dummy 2 27") => `(tactic| skip)
local macro_rules | `(tactic| walk_at "mine dummy 2 28") => `(tactic| skip)
local macro_rules | `(tactic| walk_at "mine dummy 2 29") => `(tactic| skip)
local macro_rules | `(tactic| walk_at "mine dummy 2 30") => `(tactic| skip)
local macro_rules | `(tactic| walk_at "mine dummy 2 31") => `(tactic| skip)
local macro_rules | `(tactic| walk_at "mine dummy 2 32") => `(tactic| skip)
local macro_rules | `(tactic| walk_at "mine dummy 2 33") => `(tactic| skip)
local macro_rules | `(tactic| walk_at "mine dummy 2 34") => `(tactic| skip)
local macro_rules | `(tactic| walk_at "mine dummy 2 35") => `(tactic| skip)
open PySem PySem.W PyProof.Rows
set_option maxRecDepth 100000
set_option maxHeartbeats 4000000
namespace Mine
def WaysC (w : World) (loose : List Str) (mean : ExcName → Option Value) (mg mb : Str → Option Value) (N : Nat) : Prop :=
  ∀ (V0 : Int) (T0 : Tok) (V1 : Int) (T1 : Tok) (news : List (Addr × Obj)),
    CbRec Challenge.rw_gf0003_01.row.prog w (hd.heap_39 w.params) hd.view_39 loose mean mg mb 68 news []
      ((0 ≤ V0 ∧ V0 ≤ 10 ∧ 0 ≤ V1 ∧ V1 ≤ 10) ∧ V0.toNat < N) V0.toNat [.int V0 T0, .int V1 T1] (fun t => .int (wy V0 V1) t)
section
variable {w : World} {loose : List Str} {mean : ExcName → Option Value} {mg mb : Str → Option Value} {M : Nat} {dp un : Nat} {gd : Option (List Code)} {cn : Str} {cs : Scope} {a : Addr} {ccd : Value} {cl : List (Str × Addr)} {outer : List Env} {A₀ : Around} {base h₀ : Heap} {L : Addr} {m : Str → Option Value} {news : List (Addr × Obj)} {s : Shared} {Q E : Value → Shared → Prop}
theorem ways_use {V0 V1 : Int} {T0 T1 : Tok} (C : WaysC w loose mean mg mb M) (B : Below A₀ base outer h₀) (F : Fr h₀ L s.heap m) (X : (hd.heap_39 w.params).In h₀) (N : News h₀ L s.heap news) (T : Top hd.view_39 loose mean mg mb h₀) (hk : cs.kind = .function)
    (hp : 0 ≤ V0 ∧ V0 ≤ 10 ∧ 0 ≤ V1 ∧ V1 ≤ 10) (hl : V0.toNat < M) (hd : dp + V0.toNat + 1 < recursionLimit) (hu : un + 8 * (V0.toNat + 1) < cLine)
    (ret : ∀ (t : Tok) (h' : Heap) (tk' : Nat), Fr h₀ L h' m → News h₀ L h' news → Q (.int (wy V0 V1) t) { s with heap := h', toks := tk' }) :
    wpAny (model Challenge.rw_gf0003_01.row.prog w) (ktrTop dp un gd cn cs L a ccd cl outer) (call (.ref 68) [.int V0 T0, .int V1 T1]) Q E s :=
  C V0 T0 V1 T1 news dp un gd cn cs a ccd cl outer A₀ base h₀ L m s Q E B F X N T hk ⟨hp, hl⟩ hd hu ret
end
local macro_rules | `(tactic| walk_at "call ref") => `(tactic| (k_here; (with_reducible show wpAny _ _ (call (Value.ref 68) _) _ _ _); k_dflt (refine' ways_use ?C ?B ?F ?X ?N ?T ?hk ?hp ?hl ?hd ?hu ?_; (case C => assumption); (case B => k_asm); (case F => k_asm); (case X => k_asm); (case N => k_asm); (case T => k_asm); (case hk => first | exact rfl | assumption); (case hp => first | omega | ktn_no "ways: pre"); (case hl => first | omega | ktn_no "ways: size"); (case hd => first | cb_room | ktn_no "ways: room"); (case hu => first | cb_units | ktn_no "ways: units"); intro t9 h9 tk9 F9 N9; (try dsimp only); (try k_fold))))
theorem ways_step (w : World) (loose : List Str) (mean : ExcName → Option Value) (mg mb : Str → Option Value) (M : Nat) (ih : WaysC w loose mean mg mb M) : WaysC w loose mean mg mb (M + 1) := by
  unfold WaysC
  k_fill
  dsimp only [CbRec, CbLists, CbRet]
  intro V0 T0 V1 T1 news dp un gd cn cs a ccd cl outer A₀ base h₀ L m s Q E B F X N T hk hpre hd hu hret
  refine wpAny_call ?_
  k_dflt (refine' code_defC ?k1 ?k2 ?k3 ?k4 ?k5 ?kA ?kF ?kK ?k6 ?k7 ?k8 ?k9 ?kB ?kD ?_ ?c2 ?c3 ?c4; (case kA => exact rfl); (case kF => exact rfl); (case kK => assumption); (case k1 => k_asm); (case k2 => k_asm); (case k3 => k_asm); (case k4 => k_asm); (case k5 => k_asm); (case k6 => k_is); (case k7 => k_is); (case k8 => ktr_room); (case k9 => exact BindsTo.of_eq rfl); (case kB => exact rfl); (case kD => decide +kernel); (case c2 => exact rfl); (case c3 => exact rfl); (case c4 => exact rfl); k_whole; intro g' L' h' tk' cells' FG' F' N' Y' B' X' T' l1; k_cells Y'; (try simp only [List.cons_append, List.nil_append] at N'); (try dsimp only); (try k_lift B'); (try k_fold))
  k_steps
  · refine' cb_retI (Q := Q) hret ?e1 ?e2 ?e3
    case e2 => k_asm
    case e3 => exact cb_drop (by assumption) fun p hp => .tail _ hp
    case e1 =>
      rw [wy_eq (by omega), if_pos (show V0 = 0 by assumption)]
  · refine' cb_retI (Q := Q) hret ?e1 ?e2 ?e3
    case e2 => k_asm
    case e3 => exact cb_drop (by assumption) fun p hp => .tail _ (.tail _ hp)
    case e1 =>
      rw [wy_eq (by omega), if_neg (show ¬ (V0 = 0) by assumption)]
      congr 3
      have : (if V1 < V0 then V1 else V0) + 1 - 1 = min V0 V1 := by split <;> omega
      rw [this]
theorem ways_all (w : World) (loose : List Str) (mean : ExcName → Option Value) (mg mb : Str → Option Value) : ∀ N, WaysC w loose mean mg mb N := by
  intro N
  induction N with
  | zero =>
    intro V0 T0 V1 T1 news
    dsimp only [CbRec, CbLists, CbRet]
    intros
    omega
  | succ N ih => exact ways_step w loose mean mg mb N ih
end Mine
end
section
open PySem PySem.W PyProof.Rows PyProof.V
set_option maxRecDepth 100000
set_option maxHeartbeats 4000000
namespace Mine
abbrev MKey := Sum PySem.Str Int
def mixIs : MKey → Value → Bool
  | .inl x, v => Value.isStrOf x v
  | .inr n, v => Value.isInt n v
def mixHash (w : World) : MKey → Int
  | .inl x => hashStr w x
  | .inr n => hashInt n
theorem mixIs_shape {k : MKey} {v : Value} (h : mixIs k v = true) : (∃ x t, k = .inl x ∧ v = .str x t) ∨ ∃ n t, k = .inr n ∧ v = .int n t := by
  cases k with
  | inl x => obtain ⟨t, rfl⟩ := Value.isStrOf_shape h; exact .inl ⟨x, t, rfl, rfl⟩
  | inr n => obtain ⟨t, rfl⟩ := Value.isInt_shape h; exact .inr ⟨n, t, rfl, rfl⟩
section
variable {prog : Program} {w : World} {A : Around} {E : Value → Shared → Prop} {s : Shared}
theorem eqBool_str_int {a : PySem.Str} {t : Tok} {b : Int} {u : Tok} {Q : Bool → Shared → Prop} (h : Q false s) : wpAny (model prog w) A (eqBool (.str a t) (.int b u)) Q E s := by
  unfold eqBool
  refine wpAny_holding ?_
  rw [if_neg (show ¬ (Value.str a t == Value.int b u) = true by simp)]
  exact wpAny_bind (EqMixed.eq_str_int (wpAny_truthy_bool h))
theorem eqBool_int_str {a : Int} {t : Tok} {b : PySem.Str} {u : Tok} {Q : Bool → Shared → Prop} (h : Q false s) : wpAny (model prog w) A (eqBool (.int a t) (.str b u)) Q E s := by
  unfold eqBool
  refine wpAny_holding ?_
  rw [if_neg (show ¬ (Value.int a t == Value.str b u) = true by simp)]
  exact wpAny_bind (EqMixed.eq_int_str (wpAny_truthy_bool h))
end
def mixKind (prog : Program) (w : World) : KeyKind prog w MKey where
  is := mixIs
  hash := mixHash w
  inj := fun v a b ha hb => by
    rcases mixIs_shape ha with ⟨x, t, rfl, rfl⟩ | ⟨n, t, rfl, rfl⟩ <;> rcases mixIs_shape hb with ⟨y, u, rfl, e⟩ | ⟨k, u, rfl, e⟩ <;> cases e <;> rfl
  byValue := fun k v h => by rcases mixIs_shape h with ⟨x, t, rfl, rfl⟩ | ⟨n, t, rfl, rfl⟩ <;> rfl
  pyHash := fun hv h => by
    rcases mixIs_shape hv with ⟨x, t, rfl, rfl⟩ | ⟨n, t, rfl, rfl⟩
    · exact wpAny_pyHash_str h
    · exact wpAny_pyHash_int h
  eqBool := fun hu hv h => by
    rcases mixIs_shape hu with ⟨x, t, rfl, rfl⟩ | ⟨n, t, rfl, rfl⟩ <;> rcases mixIs_shape hv with ⟨y, u, rfl, rfl⟩ | ⟨k, u, rfl, rfl⟩
    · exact wpAny_eqBool_str (by simpa using h)
    · exact eqBool_str_int (by simpa using h)
    · exact eqBool_int_str (by simpa using h)
    · refine wpAny_eqBool_int ?_
      have e : (n == k) = decide ((Sum.inr n : MKey) = Sum.inr k) := by rw [Bool.eq_iff_iff]; simp
      rw [e]; exact h
  «strs» := fun k x t v h => by
    rcases mixIs_shape h with ⟨y, u, rfl, e⟩ | ⟨n, u, rfl, e⟩
    · cases e
      cases v <;> rfl
    · cases e
def mixEnc : MKey → PyData
  | .inl x => .str x
  | .inr n => .int n
theorem same_mix (a b : MKey) : Spec.same (mixEnc a) (mixEnc b) = decide (a = b) := by
  cases a with
  | inl x => cases b with
    | inl y => simp [mixEnc, same_str]
    | inr n => simp [mixEnc, Spec.same]
  | inr n => cases b with
    | inl y => simp [mixEnc, Spec.same]
    | inr k => simp [mixEnc, same_int]
/-- the key of a number -/
def keyOf (n : Int) : List MKey := [.inl (Str.ofString "at"), .inr n, .inl (Str.ofString "sum")]
theorem keyOf_inj {a b : Int} : keyOf a = keyOf b ↔ a = b := by simp [keyOf]
abbrev encK (n : Int) : PyData := encTuple mixEnc (keyOf n)
theorem same_encK (a b : Int) : Spec.same (encK a) (encK b) = decide (a = b) := by
  rw [same_encTuple same_mix]; simp [keyOf_inj]
/-- a table of numbers, as data -/
def encT (T : List (Int × Int)) : List (PyData × PyData) := T.map fun p => (encK p.1, .int p.2)
def getT (n : Int) (T : List (Int × Int)) : Option Int := (T.find? fun p => decide (p.1 = n)).map (·.2)
def putT (n c : Int) (T : List (Int × Int)) : List (Int × Int) := if T.any (fun p => decide (p.1 = n)) then T.map (fun p => if p.1 = n then (p.1, c) else p) else T ++ [(n, c)]
theorem lookup_encT (n : Int) (T : List (Int × Int)) : Spec.lookup (encK n) (encT T) = (getT n T).map .int := by
  induction T with
  | nil => rfl
  | cons p T ih =>
    simp only [encT, List.map_cons, Spec.lookup, same_encK, getT, List.find?_cons] at ih ⊢
    by_cases h : p.1 = n
    · simp [h]
    · simp only [h, decide_false, Bool.false_eq_true, if_false]; exact ih
theorem putD_encT (n c : Int) (T : List (Int × Int)) : putD (encK n) (.int c) (encT T) = encT (putT n c T) := by
  have h1 : ((encT T).any fun p => Spec.same p.1 (encK n)) = T.any fun p => decide (p.1 = n) := by
    simp only [encT, List.any_map]
    congr 1
    funext p
    exact same_encK _ _
  unfold putD putT
  rw [h1]
  split
  · simp only [encT, List.map_map]
    refine List.map_congr_left fun p _ => ?_
    simp only [Function.comp, same_encK]
    by_cases h : p.1 = n <;> simp [h]
  · simp [encT]
/-- a dict of the ledger that is the table -/
def TT (prog : Program) (w : World) (news : List (Addr × Obj)) (d : Addr) (T : List (Int × Int)) : Prop := TupTab (mixKind prog w) mixEnc news d (encT T)
/-- a tuple of the ledger that is a number's key -/
def KT (prog : Program) (w : World) (news : List (Addr × Obj)) (a : Addr) (n : Int) : Prop := ∃ ok, (a, ok) ∈ news ∧ TupKeyObj (mixKind prog w) (keyOf n) ok
section
variable {prog : Program} {w : World} {news news' : List (Addr × Obj)} {d a : Addr} {T : List (Int × Int)} {n : Int}
theorem TT.sub (h : TT prog w news d T) (hs : ∀ p ∈ news, p ∈ news') : TT prog w news' d T := by
  obtain ⟨lo, o, es, ep, xs, hm, hc, hd, he, hn, hk, hf⟩ := h
  exact ⟨lo, o, es, ep, xs, hs _ hm, hc, hd, he, hn, fun x hx => let ⟨ok, h1, h2⟩ := hk x hx; ⟨ok, hs _ h1, h2⟩, hf⟩
theorem KT.sub (h : KT prog w news a n) (hs : ∀ p ∈ news, p ∈ news') : KT prog w news' a n := let ⟨ok, h1, h2⟩ := h; ⟨ok, hs _ h1, h2⟩
theorem fp_inv {K : Type} {enc : K → PyData} {k : K} {v : Value} {kvs : List (K × Value)} {q : PyData × PyData} {D : List (PyData × PyData)} (h : FlatPairs enc ((k, v) :: kvs) (q :: D)) : q.1 = enc k ∧ Flat v q.2 ∧ FlatPairs enc kvs D := by
  cases h with
  | cons hv hr => exact ⟨rfl, hv, hr⟩
/-- the entries, one by one -/
theorem TT.entries (h : TT prog w news d T) : ∃ o es ep, (d, o) ∈ news ∧ o.ExactDict ∧ o.data = .dict es ep ∧ es.size = T.length ∧
    ∀ (i : Nat) (e : DictEntry), es[i]? = some e → ∃ p ak t, T[i]? = some p ∧ e.key = .ref ak ∧ e.val = .int p.2 t ∧ KT prog w news ak p.1 := by
  obtain ⟨lo, o, es, ep, xs, hm, hc, hd, he, hn, hk, hf⟩ := h
  have hx : ∀ (xs : List (List MKey × Addr × Value)) (T : List (Int × Int)), FlatPairs (encTuple mixEnc) (kvsOf xs) (encT T) → xs.length = T.length ∧ ∀ (i : Nat) (x : List MKey × Addr × Value), xs[i]? = some x → ∃ p t, T[i]? = some p ∧ x.1 = keyOf p.1 ∧ x.2.2 = .int p.2 t := by
    intro xs
    induction xs with
    | nil =>
      intro T hf
      cases T with
      | nil => exact ⟨rfl, fun i x h => by simp at h⟩
      | cons p T => simp only [kvsOf, encT, List.map_nil, List.map_cons] at hf; cases hf
    | cons x xs ih =>
      intro T hf
      cases T with
      | nil => simp only [kvsOf, encT, List.map_nil, List.map_cons] at hf; cases hf
      | cons p T =>
        obtain ⟨ks, ax, v⟩ := x
        simp only [kvsOf, encT, List.map_cons] at hf
        obtain ⟨hE, hv, hr⟩ := fp_inv hf
        obtain ⟨hl, hi⟩ := ih T hr
        obtain ⟨t, ht⟩ := hv.int_inv
        have hks : ks = keyOf p.1 := by
          have h1 := same_encTuple same_mix ks (keyOf p.1)
          have h2 := same_encTuple same_mix ks ks
          rw [decide_eq_true rfl] at h2
          have hE' : encTuple mixEnc (keyOf p.1) = encTuple mixEnc ks := hE
          rw [hE', h2] at h1
          exact of_decide_eq_true h1.symm
        refine ⟨by simp [hl], fun i x h => ?_⟩
        cases i with
        | zero => simp only [List.getElem?_cons_zero, Option.some.injEq] at h; subst h; exact ⟨p, t, rfl, hks, ht⟩
        | succ i => simp only [List.getElem?_cons_succ] at h ⊢; exact hi i x h
  obtain ⟨hl, hi⟩ := hx xs T hf
  refine ⟨o, es, ep, hm, hc, hd, ?_, fun i e h => ?_⟩
  · rw [← Array.length_toList, he, List.length_map, hl]
  · rw [← Array.getElem?_toList, he, List.getElem?_map] at h
    obtain ⟨x, hxi, rfl⟩ := Option.map_eq_some_iff.mp h
    obtain ⟨p, t, h1, h2, h3⟩ := hi i x hxi
    obtain ⟨ok, hok, tk⟩ := hk x (List.mem_of_getElem? hxi)
    exact ⟨p, x.2.1, t, h1, rfl, h3, ok, hok, h2 ▸ tk⟩
end
end Mine
end
section
open PySem PySem.W PyProof.Rows PyProof.V
set_option maxRecDepth 100000
set_option maxHeartbeats 4000000
namespace Mine
/-- a dict by its raw entries, whatever its keys -/
def RawD (h : Heap) (d : Addr) (es : Array DictEntry) (ep : Nat) : Prop := ∃ o, h.get? d = some o ∧ o.data = .dict es ep
theorem RawD.at {h h' : Heap} {d : Addr} {es : Array DictEntry} {ep : Nat} (x : RawD h d es ep) (e : ∀ o, h.get? d = some o → h'.get? d = some o) : RawD h' d es ep := let ⟨o, a, b⟩ := x; ⟨o, e _ a, b⟩
section
variable {prog : Program} {w : World} {A : Around} {E : Value → Shared → Prop} {s : Shared} {d it v : Addr} {es : Array DictEntry} {ep i : Nat}
theorem raw_items (hT : s.TypeIs (.ref d) "dict") (lo : (d == sysModules) = false) {Q : Value → Shared → Prop}
    (h : Q (.ref s.heap.objs.size) { s with heap := s.heap.push { cls := .type "dict_items", data := .fields #[.ref d] } }) :
    wpAny (model prog w) A (call (.builtin "dict.items") [.ref d]) Q E s := by
  refine wpAny_call_entry PySem.F.slot_dict_items hT PySem.F.entry_dict_items ?_ (PySem.F.args_dict_items_1 _)
  unfold Builtin.«dict.items» Builtin.Dict.noArgs
  refine wpAny_bind (wpAny_bind (wpAny_notOrdered_dict hT ?_))
  refine wpAny_pure ?_
  unfold Builtin.Dict.showsAll
  rw [if_neg (by rw [lo]; exact Bool.false_ne_true)]
  refine wpAny_bind (wpAny_pure ?_)
  exact wpAny_bind (wpAny_newObj_type (wpAny_pure ⟨_, rfl, h⟩))
theorem raw_values (hT : s.TypeIs (.ref d) "dict") (lo : (d == sysModules) = false) {Q : Value → Shared → Prop}
    (h : Q (.ref s.heap.objs.size) { s with heap := s.heap.push { cls := .type "dict_values", data := .fields #[.ref d] } }) :
    wpAny (model prog w) A (call (.builtin "dict.values") [.ref d]) Q E s := by
  refine wpAny_call_entry PySem.F.slot_dict_values hT PySem.F.entry_dict_values ?_ (PySem.F.args_dict_values_1 _)
  refine wpAny_bind ?_
  unfold Builtin.Dict.noArgs
  refine wpAny_bind (wpAny_notOrdered_dict hT ?_)
  show wpAny _ _ (pure d) _ _ s
  refine wpAny_pure ?_
  show wpAny _ _ (Builtin.Dict.showsAll d >>= _) _ _ s
  unfold Builtin.Dict.showsAll
  rw [if_neg (by rw [lo]; exact Bool.false_ne_true)]
  refine wpAny_bind (wpAny_pure ?_)
  exact wpAny_bind (wpAny_newObj_type (wpAny_pure ⟨_, rfl, h⟩))
theorem raw_iter_items {Q : Value → Shared → Prop} (hv : s.heap.IsItemsView v d) (hm : RawD s.heap d es ep)
    (hQ : Q (.ref s.heap.objs.size) { s with heap := s.heap.push { cls := .type "dict_itemiterator", data := .fields #[.none, .bool false, .ref d, .int 0 0, .int es.size 0, .int ep 0, .none, .none] } }) :
    wpAny (model prog w) A (pyIter (.ref v)) Q E s := by
  obtain ⟨ov, hov, hcv, hdv⟩ := id hv
  obtain ⟨o, ho, hdat⟩ := hm
  refine wpAny_pyIter_slot hv.typeIs PySem.F.slot_dict_items_iter (wpAny_call_entry PySem.F.slot_dict_items_iter hv.typeIs PySem.F.entry_dict_items_iter ?_ (PySem.F.args_dict_items_iter_1 _))
  unfold Builtin.«dict_items.__iter__»
  refine wpAny_bind (wpAny_pure (wpAny_bind ?_))
  unfold Builtin.Dict_items.dictOf
  refine wpAny_bind (wpAny_field hov hdv (x := .ref d) rfl (wpAny_pure (wpAny_bind ?_)))
  unfold Builtin.Dict_items.newIterator
  refine wpAny_bind (wpAny_dictEntries ho hdat (wpAny_bind (wpAny_dictEpoch ho hdat ?_)))
  simp only [show Builtin.Dict_items.ownsTuple "dict_itemiterator" = true by decide, if_true]
  refine wpAny_newObj_type (wpAny_pure ⟨_, rfl, "dict_itemiterator", _, ⟨_, Heap.get?_push_size _ rfl, rfl⟩, PySem.F.slot_dict_itemiterator_next.lookup, ?_⟩)
    (by simp only [sizeOk, Builtin.Dict_items.ownedTupleFields, List.size_toArray, List.length_append, List.length_cons, List.length_nil, PySem.sizeLine_eq]; omega)
  simpa [rawInt, Builtin.Dict_items.ownedTupleFields] using hQ
theorem raw_iter_values {Q : Value → Shared → Prop} (hv : s.heap.IsValuesView v d) (hm : RawD s.heap d es ep)
    (hQ : Q (.ref s.heap.objs.size) { s with heap := s.heap.push { cls := .type "dict_valueiterator", data := .fields #[.ref d, .int 0 0, .int es.size 0, .int ep 0] } }) :
    wpAny (model prog w) A (pyIter (.ref v)) Q E s := by
  obtain ⟨ov, hov, hcv, hdv⟩ := id hv
  obtain ⟨o, ho, hdat⟩ := hm
  refine wpAny_pyIter_slot hv.typeIs PySem.F.slot_dict_values_iter (wpAny_call_entry PySem.F.slot_dict_values_iter hv.typeIs PySem.F.entry_dict_values_iter ?_ (PySem.F.args_dict_values_iter_1 _))
  unfold Builtin.«dict_values.__iter__»
  refine wpAny_bind (wpAny_pure (wpAny_bind ?_))
  unfold Builtin.Dict_items.dictOf
  refine wpAny_bind (wpAny_field hov hdv (x := .ref d) rfl (wpAny_pure (wpAny_bind ?_)))
  unfold Builtin.Dict_items.newIterator
  refine wpAny_bind (wpAny_dictEntries ho hdat (wpAny_bind (wpAny_dictEpoch ho hdat ?_)))
  simp only [show Builtin.Dict_items.ownsTuple "dict_valueiterator" = false by decide, Bool.false_eq_true, if_false]
  refine wpAny_newObj_type (wpAny_pure ⟨_, rfl, "dict_valueiterator", _, ⟨_, Heap.get?_push_size _ rfl, rfl⟩, PySem.F.slot_dict_valueiterator_next.lookup, ?_⟩)
  simpa [rawInt] using hQ
theorem raw_next_value {e : DictEntry} {Q : Option Value → Shared → Prop} (hit : s.heap.IsValIter it d i es.size ep) (hm : RawD s.heap d es ep) (hx : es[i]? = some e)
    (hQ : ∀ h', h'.IsValIter it d (i + 1) es.size ep → Heap.SameBut it s.heap h' → Q (some e.val) { s with heap := h' }) :
    wpAny (model prog w) A (pyNext (.ref it)) Q E s := by
  obtain ⟨o, ho, hc, hd⟩ := id hit
  obtain ⟨od, hod, hdd⟩ := hm
  have hlt : i < es.size := (Array.getElem?_eq_some_iff.mp hx).1
  have hval : es[i] = e := (Array.getElem?_eq_some_iff.mp hx).2
  unfold pyNext
  refine wpAny_bind (wpAny_attempt (wpAny_callSpecial?_slot (name := Str.ofString "__next__") hit.typeIs PySem.F.slot_dict_valueiterator_next
    (wpAny_call_entry PySem.F.slot_dict_valueiterator_next hit.typeIs PySem.F.entry_dict_valueiterator_next ?_ (PySem.F.args_dict_valueiterator_next_1 _))))
  refine wpAny_bind (wpAny_pure (wpAny_bind (wpAny_bind ?_)))
  first | refine wpAny_bind (wpAny_typeNameOfWhole_valiter hit.typeIs (wpAny_pure ?_)) | refine wpAny_bind (wpAny_typeNameOf_valiter hit.typeIs (wpAny_pure ?_))
  refine wpAny_bind (wpAny_fieldsOf ho hd ?_)
  simp only [show Builtin.Dict_items.ownsTuple "dict_valueiterator" = false by decide, Bool.false_eq_true, if_false]
  show wpAny _ _ (if (Value.ref d == Value.none) = true then _ else _) _ _ s
  rw [if_neg (show ¬ ((Value.ref d == Value.none) = true) from Bool.false_ne_true)]
  refine wpAny_bind (wpAny_pure (wpAny_bind (wpAny_dictEntries hod hdd ?_)))
  rw [if_neg (by simp)]
  refine wpAny_bind (wpAny_pure (wpAny_bind (wpAny_dictEpoch hod hdd ?_)))
  rw [if_neg (by simp)]
  refine wpAny_pure ?_
  simp only [show ¬ ((i : Int) < 0) from by omega, if_false, Int.toNat_natCast, Array.getElem?_eq_getElem hlt]
  refine wpAny_bind ?_
  first | refine wpAny_bind (wpAny_typeNameOfWhole_valiter hit.typeIs (wpAny_pure ?_)) | refine wpAny_bind (wpAny_typeNameOf_valiter hit.typeIs (wpAny_pure ?_))
  refine wpAny_bind (wpAny_isOneOf_valiter hit.typeIs ?_)
  show wpAny _ _ (setField (.ref it) 1 (rawInt ((i : Int) + 1)) >>= _) _ _ s
  refine wpAny_bind (wpAny_setField ho hd (by simp) ?_)
  have hit' : (s.heap.update it (Obj.mapFields (·.setIfInBounds 1 (rawInt ((i : Int) + 1))))).IsValIter it d (i + 1) es.size ep :=
    ⟨_, Heap.get?_update_self _ ho (Obj.isFreed_of_fields (Obj.data_mapFields hd _)), (Obj.cls_mapFields ..).trans hc, by rw [Obj.data_mapFields hd]; simp [rawInt]⟩
  refine wpAny_bind (wpAny_holding ?_)
  refine wpAny_bind (wpAny_isOneOf_valiter (s := { s with heap := s.heap.update it (Obj.mapFields (·.setIfInBounds 1 (rawInt ((i : Int) + 1)))) }) hit'.typeIs ?_)
  refine wpAny_bind (wpAny_isOneOf_valiter (s := { s with heap := s.heap.update it (Obj.mapFields (·.setIfInBounds 1 (rawInt ((i : Int) + 1)))) }) hit'.typeIs ?_)
  show wpAny _ _ (pure es[i].val) _ _ _
  exact wpAny_pure (wpAny_pure ⟨_, rfl, wpAny_pure (hval ▸ hQ _ hit' (Heap.SameBut.update ..))⟩)
theorem raw_end_value {Q : Option Value → Shared → Prop} (hh : A.handled = none) (hit : s.heap.IsValIter it d i es.size ep) (hm : RawD s.heap d es ep) (hge : es.size ≤ i)
    (hQ : ∀ h', Heap.ExtBut it s.heap h' → Q none { s with heap := h' }) : wpAny (model prog w) A (pyNext (.ref it)) Q E s := by
  obtain ⟨o, ho, hc, hd⟩ := id hit
  obtain ⟨od, hod, hdd⟩ := hm
  have hT := hit.typeIs
  unfold pyNext
  refine wpAny_bind (wpAny_attempt (wpAny_callSpecial?_slot (name := Str.ofString "__next__") hT PySem.F.slot_dict_valueiterator_next
    (wpAny_call_entry PySem.F.slot_dict_valueiterator_next hT PySem.F.entry_dict_valueiterator_next ?_ (PySem.F.args_dict_valueiterator_next_1 _))))
  refine wpAny_bind (wpAny_pure (wpAny_bind (wpAny_bind ?_)))
  first | refine wpAny_bind (wpAny_typeNameOfWhole_valiter hT (wpAny_pure ?_)) | refine wpAny_bind (wpAny_typeNameOf_valiter hT (wpAny_pure ?_))
  refine wpAny_bind (wpAny_fieldsOf ho hd ?_)
  simp only [show Builtin.Dict_items.ownsTuple "dict_valueiterator" = false by decide, Bool.false_eq_true, if_false]
  show wpAny _ _ (if (Value.ref d == Value.none) = true then _ else _) _ _ s
  rw [if_neg (show ¬ ((Value.ref d == Value.none) = true) from Bool.false_ne_true)]
  refine wpAny_bind (wpAny_pure (wpAny_bind (wpAny_dictEntries hod hdd ?_)))
  rw [if_neg (by simp)]
  refine wpAny_bind (wpAny_pure (wpAny_bind (wpAny_dictEpoch hod hdd ?_)))
  rw [if_neg (by simp)]
  refine wpAny_pure ?_
  simp only [show ¬ ((i : Int) < 0) from by omega, if_false, Int.toNat_natCast, Array.getElem?_eq_none hge]
  refine wpAny_bind ?_
  first | refine wpAny_bind (wpAny_typeNameOfWhole_valiter hT (wpAny_pure ?_)) | refine wpAny_bind (wpAny_typeNameOf_valiter hT (wpAny_pure ?_))
  show wpAny _ _ (setField (.ref it) 0 .none >>= _) _ _ s
  refine wpAny_bind (wpAny_setField ho hd (by simp) ?_)
  show wpAny _ _ (newExc (.type "StopIteration") [] >>= _) _ _ _
  refine wpAny_bind ?_
  simp only [newExc, newTuple]
  refine wpAny_bind (wpAny_newObj_type ?_ (by size_fits))
  refine wpAny_bind (m := firstArgMember _ _) (wpAny_of_eq (a := Value.none) (by first | rfl | (simp only [firstArgMember]; rfl)) ?_)
  refine wpAny_newObj_type ?_ (by size_fits)
  simp only [raiseNew]
  refine wpAny_bind (wpAny_handled ?_)
  rw [show A.in1.handled = none from hh]
  refine wpAny_bind (wpAny_pure (wpAny_throw ?_))
  refine wpAny_bind (wpAny_isInstance (T := "StopIteration") (b := true) ⟨_, Heap.get?_push_size _ rfl, rfl⟩ isSubtype_stop ?_)
  exact wpAny_pure (hQ _ (((Heap.SameBut.update ..).extBut.push _).push _))
theorem raw_end_item {ok ov : Value} {Q : Option Value → Shared → Prop} (hh : A.handled = none) (hit : IsItemIter s.heap it d i es.size ep ok ov) (hm : RawD s.heap d es ep) (hge : es.size ≤ i)
    (hQ : ∀ h', Heap.ExtBut it s.heap h' → Q none { s with heap := h' }) : wpAny (model prog w) A (pyNext (.ref it)) Q E s := by
  obtain ⟨od, hod, hdd⟩ := hm
  have hT : s.TypeIs (.ref it) "dict_itemiterator" := ⟨_, hit, rfl⟩
  have ho := hit
  have hd : ({ cls := .type "dict_itemiterator", dict := none, data := .fields #[.none, .bool false, .ref d, .int i 0, .int es.size 0, .int ep 0, ok, ov], slots := #[] } : Obj).data = .fields #[.none, .bool false, .ref d, .int i 0, .int es.size 0, .int ep 0, ok, ov] := rfl
  unfold pyNext
  refine wpAny_bind (wpAny_attempt (wpAny_callSpecial?_slot (name := Str.ofString "__next__") hT PySem.F.slot_dict_itemiterator_next
    (wpAny_call_entry PySem.F.slot_dict_itemiterator_next hT PySem.F.entry_dict_itemiterator_next ?_ (PySem.F.args_dict_itemiterator_next_1 _))))
  refine wpAny_bind (wpAny_pure (wpAny_bind (wpAny_bind ?_)))
  first | refine wpAny_bind (wpAny_typeNameOfWhole_itemiter hT (wpAny_pure ?_)) | refine wpAny_bind (wpAny_typeNameOf_itemiter hT (wpAny_pure ?_))
  refine wpAny_bind (wpAny_fieldsOf hit rfl ?_)
  simp only [show Builtin.Dict_items.ownsTuple "dict_itemiterator" = true by decide, if_true]
  show wpAny _ _ (if (Value.ref d == Value.none) = true then _ else _) _ _ s
  rw [if_neg (show ¬ ((Value.ref d == Value.none) = true) from Bool.false_ne_true)]
  refine wpAny_bind (wpAny_pure (wpAny_bind (wpAny_dictEntries hod hdd ?_)))
  rw [if_neg (by simp)]
  refine wpAny_bind (wpAny_pure (wpAny_bind (wpAny_dictEpoch hod hdd ?_)))
  rw [if_neg (by simp)]
  refine wpAny_pure ?_
  simp only [show ¬ ((i : Int) < 0) from by omega, if_false, Int.toNat_natCast, Array.getElem?_eq_none hge]
  refine wpAny_bind ?_
  first | refine wpAny_bind (wpAny_typeNameOfWhole_itemiter hT (wpAny_pure ?_)) | refine wpAny_bind (wpAny_typeNameOf_itemiter hT (wpAny_pure ?_))
  show wpAny _ _ (setField (.ref it) 2 .none >>= _) _ _ s
  refine wpAny_bind (wpAny_setField ho hd (by simp) ?_)
  show wpAny _ _ (newExc (.type "StopIteration") [] >>= _) _ _ _
  refine wpAny_bind ?_
  simp only [newExc, newTuple]
  refine wpAny_bind (wpAny_newObj_type ?_ (by size_fits))
  refine wpAny_bind (m := firstArgMember _ _) (wpAny_of_eq (a := Value.none) (by first | rfl | (simp only [firstArgMember]; rfl)) ?_)
  refine wpAny_newObj_type ?_ (by size_fits)
  simp only [raiseNew]
  refine wpAny_bind (wpAny_handled ?_)
  rw [show A.in1.handled = none from hh]
  refine wpAny_bind (wpAny_pure (wpAny_throw ?_))
  refine wpAny_bind (wpAny_isInstance (T := "StopIteration") (b := true) ⟨_, Heap.get?_push_size _ rfl, rfl⟩ isSubtype_stop ?_)
  exact wpAny_pure (hQ _ (((Heap.SameBut.update ..).extBut.push _).push _))
theorem raw_next_item {e : DictEntry} {ok ov : Value} {Q : Option Value → Shared → Prop} (hit : IsItemIter s.heap it d i es.size ep ok ov) (hm : RawD s.heap d es ep) (hx : es[i]? = some e)
    (hQ : ∀ h', IsItemIterOut h' it d (i + 1) es.size ep e.key e.val s.heap.objs.size → h'.get? s.heap.objs.size = some { cls := .type "tuple", data := .seq #[e.key, e.val] } →
      (∀ b o, b ≠ it → s.heap.get? b = some o → h'.get? b = some o) → Q (some (.ref s.heap.objs.size)) { s with heap := h' }) :
    wpAny (model prog w) A (pyNext (.ref it)) Q E s := by
  obtain ⟨hp, g, dr, tk, os⟩ := s
  obtain ⟨od, hod, hdd⟩ := hm
  have hlt : i < es.size := (Array.getElem?_eq_some_iff.mp hx).1
  have hval : es[i] = e := (Array.getElem?_eq_some_iff.mp hx).2
  have hT : Shared.TypeIs ⟨hp, g, dr, tk, os⟩ (.ref it) "dict_itemiterator" := ⟨_, hit, rfl⟩
  unfold pyNext
  refine wpAny_bind (wpAny_attempt (wpAny_callSpecial?_slot (name := Str.ofString "__next__") hT PySem.F.slot_dict_itemiterator_next
    (wpAny_call_entry PySem.F.slot_dict_itemiterator_next hT PySem.F.entry_dict_itemiterator_next ?_ (PySem.F.args_dict_itemiterator_next_1 _))))
  refine wpAny_bind (wpAny_pure (wpAny_bind (wpAny_bind ?_)))
  first | refine wpAny_bind (wpAny_typeNameOfWhole_itemiter hT (wpAny_pure ?_)) | refine wpAny_bind (wpAny_typeNameOf_itemiter hT (wpAny_pure ?_))
  refine wpAny_bind (wpAny_fieldsOf hit rfl ?_)
  simp only [show Builtin.Dict_items.ownsTuple "dict_itemiterator" = true by decide, if_true]
  show wpAny _ _ (if (Value.ref d == Value.none) = true then _ else _) _ _ _
  rw [if_neg (show ¬ ((Value.ref d == Value.none) = true) from Bool.false_ne_true)]
  refine wpAny_bind (wpAny_pure (wpAny_bind (wpAny_dictEntries hod hdd ?_)))
  rw [if_neg (by simp)]
  refine wpAny_bind (wpAny_pure (wpAny_bind (wpAny_dictEpoch hod hdd ?_)))
  rw [if_neg (by simp)]
  refine wpAny_pure ?_
  simp only [show ¬ ((i : Int) < 0) from by omega, if_false, Int.toNat_natCast, Array.getElem?_eq_getElem hlt, hval]
  refine wpAny_bind ?_
  first | refine wpAny_bind (wpAny_typeNameOfWhole_itemiter hT (wpAny_pure ?_)) | refine wpAny_bind (wpAny_typeNameOf_itemiter hT (wpAny_pure ?_))
  refine wpAny_bind (wpAny_isOneOf_itemiter hT ?_)
  show wpAny _ _ (setField (.ref it) 3 (rawInt ((i : Int) + 1)) >>= _) _ _ ⟨hp, g, dr, tk, os⟩
  refine wpAny_bind (wpAny_setField_rec hit (by simp) fun h₁ he₁ hs₁ => ?_)
  replace hs₁ : Heap.SameBut it hp h₁ := hs₁
  replace he₁ : IsItemIter h₁ it d (i + 1) es.size ep ok ov := by
    have e : ((i + 1 : Nat) : Int) = (i : Int) + 1 := by omega
    unfold IsItemIter; rw [e]; simpa [rawInt] using he₁
  have hT₁ : Shared.TypeIs ⟨h₁, g, dr, tk, os⟩ (.ref it) "dict_itemiterator" := ⟨_, he₁, rfl⟩
  refine wpAny_bind (wpAny_holding (wpAny_bind (wpAny_isOneOf_itemiter hT₁ (wpAny_bind (wpAny_isOneOf_itemiter hT₁ ?_)))))
  show wpAny _ _ (Builtin.Dict_items.pairFromOwner (.ref it) 6 e.key e.val) _ _ ⟨h₁, g, dr, tk, os⟩
  unfold Builtin.Dict_items.pairFromOwner
  refine wpAny_bind (wpAny_newTuple ?_)
  have he₂ : IsItemIter (h₁.push { cls := .type "tuple", data := .seq #[e.key, e.val] }) it d (i + 1) es.size ep ok ov := Heap.get?_push_of_some _ he₁
  generalize hh₂ : h₁.push { cls := .type "tuple", data := .seq #[e.key, e.val] } = h₂ at he₂
  have hz₁ : h₁.objs.size = hp.objs.size := hs₁.1
  have hil : it < hp.objs.size := Heap.lt_size hit
  have ht₂ : h₂.get? hp.objs.size = some { cls := .type "tuple", data := .seq #[e.key, e.val] } := by rw [← hh₂, ← hz₁]; exact Heap.get?_push_size _ rfl
  have hk₂ : ∀ b o, b ≠ it → hp.get? b = some o → h₂.get? b = some o := fun b o hb x => by rw [← hh₂]; exact Heap.get?_push_of_some _ (hs₁.extBut b o hb x)
  show wpAny _ _ (Builtin.Dict_items.ownedTupleIsFree (.ref it) >>= _) _ _ ⟨h₂, g, dr, tk, os⟩
  rw [hz₁]
  clear hh₂ he₁ hs₁ hT₁ hz₁ h₁
  refine wpAny_bind ?_
  unfold Builtin.Dict_items.ownedTupleIsFree
  refine wpAny_bind (wpAny_field he₂ rfl (x := .none) rfl (wpAny_pure ?_))
  simp only [if_true]
  refine wpAny_bind (wpAny_field he₂ rfl (x := ok) rfl (wpAny_bind (wpAny_field he₂ rfl (x := ov) rfl ?_)))
  refine wpAny_bind (wpAny_setField_rec he₂ (by simp) fun h₃ he₃ hs₃ => ?_)
  replace hs₃ : Heap.SameBut it h₂ h₃ := hs₃
  replace he₃ : IsItemIter h₃ it d (i + 1) es.size ep e.key ov := he₃
  refine wpAny_bind (wpAny_setField_rec he₃ (by simp) fun h₄ he₄ hs₄ => ?_)
  replace hs₄ : Heap.SameBut it h₃ h₄ := hs₄
  replace he₄ : IsItemIter h₄ it d (i + 1) es.size ep e.key e.val := he₄
  refine wpAny_bind (wpAny_setField_rec he₄ (by simp) fun h₅ he₅ hs₅ => ?_)
  replace hs₅ : Heap.SameBut it h₄ h₅ := hs₅
  replace he₅ : IsItemIterOut h₅ it d (i + 1) es.size ep e.key e.val hp.objs.size := he₅
  refine wpAny_bind (wpAny_setField_rec he₅ (by simp) fun h₆ he₆ hs₆ => ?_)
  replace hs₆ : Heap.SameBut it h₅ h₆ := hs₆
  replace he₆ : IsItemIterOut h₆ it d (i + 1) es.size ep e.key e.val hp.objs.size := he₆
  refine wpAny_bind (wpAny_letGo (wpAny_pure (wpAny_pure ⟨_, rfl, wpAny_pure (hQ h₆ he₆ ?_ ?_)⟩)))
  · exact hs₆.extBut _ _ (Nat.ne_of_gt hil) (hs₅.extBut _ _ (Nat.ne_of_gt hil) (hs₄.extBut _ _ (Nat.ne_of_gt hil) (hs₃.extBut _ _ (Nat.ne_of_gt hil) ht₂)))
  · exact fun b o hb x => hs₆.extBut b o hb (hs₅.extBut b o hb (hs₄.extBut b o hb (hs₃.extBut b o hb (hk₂ b o hb x))))
/-- an items' iterator, turn by turn -/
theorem rawItemTurns {elts : List Expr} {kk : Nat} {pos : Pos} (hh : A.handled = none) (I d : Addr) (hne : d ≠ I) (es : Array DictEntry) (ep : Nat) :
    KTurns prog w A (.Tuple elts kk pos) I [I, d] [I] es.size
      (fun i v h => ∃ T e, v = .ref T ∧ es[i]? = some e ∧ h.get? T = some { cls := .type "tuple", data := .seq #[e.key, e.val] } ∧ @LT.lt Nat _ I T ∧ T ≠ d)
      (fun i v h => ∃ T e, v = .ref T ∧ es[i]? = some e ∧ h.get? T = some { cls := .type "tuple", data := .seq #[e.key, e.val] } ∧ @LT.lt Nat _ I T ∧ T ≠ d ∧ IsItemIterOut h I d (i + 1) es.size ep e.key e.val T ∧ RawD h d es ep)
      (fun i h => (∃ ok ov, IsItemIter h I d i es.size ep ok ov) ∧ RawD h d es ep) where
  sub := fun b hb => by simp at hb; simp [hb]
  frame := fun i h h' st hk => by
    obtain ⟨⟨ok, ov, he⟩, hm⟩ := st
    exact ⟨⟨ok, ov, hk I (by simp) _ he⟩, hm.at fun o e => hk d (by simp) o e⟩
  item := fun i s Q E hi st hQ => by
    obtain ⟨⟨ok, ov, he⟩, hm⟩ := st
    have hx : es[i]? = some es[i] := Array.getElem?_eq_getElem hi
    refine raw_next_item he hm hx fun h' ho hT hk => ?_
    have hdlt : d < s.heap.objs.size := let ⟨_, a, _⟩ := hm; Heap.lt_size a
    exact hQ (.ref s.heap.objs.size) h' s.toks ⟨s.heap.objs.size, es[i], rfl, hx, hT, Heap.lt_size he, Nat.ne_of_gt hdlt, ho, hm.at fun o e => hk d o hne e⟩ fun b o hb e => hk b o (fun h => hb (by simp [h])) e
  go := fun i v s Q E hm hQ => by
    obtain ⟨T, e, rfl, hx, hT, hTI, hTd, ho, hd⟩ := hm
    refine wpAny_letOwnedTupleGo_items ho fun h' he hs => ?_
    exact hQ h' ⟨T, e, rfl, hx, hs.extBut T _ (Nat.ne_of_gt hTI) hT, hTI, hTd⟩ ⟨⟨_, _, he⟩, hd.at fun o x => hs.extBut d o hne x⟩ fun b o hb x => hs.extBut b o (fun h => hb (by simp [h])) x
  done := fun s Q E st hQ => by
    obtain ⟨⟨ok, ov, he⟩, hm⟩ := st
    exact raw_end_item hh he hm (Nat.le_refl _) fun h' hx => hQ h' s.toks fun b o hb e => hx b o (fun h => hb (by simp [h])) e
/-- a values' iterator, turn by turn -/
theorem rawValTurns {x : PySem.Str} {pos : Pos} (hh : A.handled = none) (I d : Addr) (hne : d ≠ I) (es : Array DictEntry) (ep : Nat) :
    KTurns prog w A (.Name x pos) I [I, d] [I] es.size
      (fun i v _ => ∃ e, v = e.val ∧ es[i]? = some e)
      (fun i v h => ∃ e, v = e.val ∧ es[i]? = some e ∧ h.IsValIter I d (i + 1) es.size ep ∧ RawD h d es ep)
      (fun i h => h.IsValIter I d i es.size ep ∧ RawD h d es ep) where
  sub := fun b hb => by simp at hb; simp [hb]
  frame := fun i h h' st hk => ⟨let ⟨o, a, r⟩ := st.1; ⟨o, hk I (by simp) _ a, r⟩, st.2.at fun o e => hk d (by simp) o e⟩
  item := fun i s Q E hi st hQ => by
    have hx : es[i]? = some es[i] := Array.getElem?_eq_getElem hi
    refine raw_next_value st.1 st.2 hx fun h' ho hs => ?_
    exact hQ _ h' s.toks ⟨es[i], rfl, hx, ho, st.2.at fun o e => hs.extBut d o hne e⟩ fun b o hb e => hs.extBut b o (fun h => hb (by simp [h])) e
  go := fun i v s Q E hm hQ => by
    obtain ⟨e, rfl, hx, hv, hd⟩ := hm
    show wpAny (model prog w) A (pure ()) Q E s
    exact wpAny_pure (hQ s.heap ⟨e, rfl, hx⟩ ⟨hv, hd⟩ fun _ _ _ x => x)
  done := fun s Q E st hQ => raw_end_value hh st.1 st.2 (Nat.le_refl _) fun h' hx => hQ h' s.toks fun b o hb e => hx b o (fun h => hb (by simp [h])) e
end
end Mine
end
section
open PySem PySem.W PyProof.Rows PyProof.V
set_option maxRecDepth 100000
set_option maxHeartbeats 4000000
namespace Mine
/-- the ledger without one address -/
def off (I : Addr) (news : List (Addr × Obj)) : List (Addr × Obj) := news.filter fun p => decide (p.1 ≠ I)
theorem off_sub {I : Addr} {news : List (Addr × Obj)} : ∀ p ∈ off I news, p ∈ news := fun _ hp => (List.mem_filter.mp hp).1
theorem off_ne {I : Addr} {news : List (Addr × Obj)} : ∀ p ∈ off I news, p.1 ≠ I := fun _ hp => of_decide_eq_true (List.mem_filter.mp hp).2
theorem off_mem {I : Addr} {news : List (Addr × Obj)} {p : Addr × Obj} (hp : p ∈ news) (h : p.1 ≠ I) : p ∈ off I news := List.mem_filter.mpr ⟨hp, decide_eq_true h⟩
section
variable {prog : Program} {w : World} {A : Around} {E : Value → Shared → Prop} {s : Shared} {env : Env} {h₀ h : Heap} {L I d vw : Addr} {news : List (Addr × Obj)} {T : List (Int × Int)} {oI : Obj} {m₀ : Str → Option Value} {body : List Stmt} {Q : Flow → Shared → Prop}
theorem News.same (N : News h₀ L h news) {a : Addr} {o o' : Obj} (h1 : (a, o) ∈ news) (h2 : (a, o') ∈ news) : o = o' := Option.some.inj ((N _ h1).1.symm.trans (N _ h2).1)
theorem TT.ne (hT : TT prog w news d T) (N : News h₀ L h news) (hI : h.get? I = some oI) (hc : oI.cls ≠ .type "dict") : d ≠ I := by
  obtain ⟨lo, o, es, ep, xs, hm, hc', _⟩ := hT
  rintro rfl
  have := (N _ hm).1
  rw [hI] at this
  cases this
  exact hc hc'.1
theorem TT.off (hT : TT prog w news d T) (N : News h₀ L h news) (hI : h.get? I = some oI) (hc : oI.cls ≠ .type "dict") (hc2 : oI.cls ≠ .type "tuple") : TT prog w (off I news) d T := by
  have hd := hT.ne N hI hc
  obtain ⟨lo, o, es, ep, xs, hm, hcx, hdd, he, hn, hk, hf⟩ := hT
  refine ⟨lo, o, es, ep, xs, off_mem hm hd, hcx, hdd, he, hn, fun x hx => ?_, hf⟩
  obtain ⟨ok, h1, h2⟩ := hk x hx
  refine ⟨ok, off_mem h1 ?_, h2⟩
  intro e
  have := (N _ h1).1
  have e' : x.2.1 = I := e
  rw [e', hI] at this
  cases this
  exact hc2 h2.1
theorem TT.typeIs (hT : TT prog w news d T) (N : News h₀ L s.heap news) : s.TypeIs (.ref d) "dict" := let ⟨_, o, _, _, _, hm, hc, _⟩ := hT; ⟨o, (N _ hm).1, hc.1⟩
theorem TT.lo (hT : TT prog w news d T) : (d == sysModules) = false := hT.1
theorem TT.mem (hT : TT prog w news d T) : ∃ o, (d, o) ∈ news := let ⟨_, o, _, _, _, hm, _⟩ := hT; ⟨o, hm⟩
theorem TT.noDict (hT : TT prog w news d T) (N : News h₀ L s.heap news) : ∀ b, Value.ref d = .ref b → ∃ ob, s.heap.get? b = some ob ∧ ob.dict = none := dictOfH_noDict (TupTab.at hT N).2.choose_spec.1
theorem getItems_TT {pl : Sem Bool} {Q : Value × List Value → Shared → Prop} (N : News h₀ L s.heap news) (hT : TT prog w news d T) (h : Q (.builtin "dict.items", [.ref d]) s) :
    wpAny (model prog w) A (getMethod (.ref d) (Str.ofString "items") pl) Q E s := getMethod_tabH PySem.F.slot_dict_items PySem.F.type_dict_items (TupTab.at hT N) h
theorem getValues_TT {pl : Sem Bool} {Q : Value × List Value → Shared → Prop} (N : News h₀ L s.heap news) (hT : TT prog w news d T) (h : Q (.builtin "dict.values", [.ref d]) s) :
    wpAny (model prog w) A (getMethod (.ref d) (Str.ofString "values") pl) Q E s := getMethod_tabH PySem.F.slot_dict_values PySem.F.type_dict_values (TupTab.at hT N) h
theorem getGet_TT {pl : Sem Bool} {Q : Value × List Value → Shared → Prop} (N : News h₀ L s.heap news) (hT : TT prog w news d T) (h : Q (.builtin "dict.get", [.ref d]) s) :
    wpAny (model prog w) A (getMethod (.ref d) (Str.ofString "get") pl) Q E s := getMethod_tabH PySem.F.slot_dict_get PySem.F.type_dict_get (TupTab.at hT N) h
theorem callItems_TT {Q : Value → Shared → Prop} (F : Fr h₀ L s.heap m₀) (N : News h₀ L s.heap news) (hT : TT prog w news d T)
    (h : ∀ v h', Fr h₀ L h' m₀ → News h₀ L h' ((v, { cls := .type "dict_items", data := .fields #[.ref d] }) :: news) → Q (.ref v) { s with heap := h' }) :
    wpAny (model prog w) A (call (.builtin "dict.items") [.ref d]) Q E s := raw_items (hT.typeIs N) hT.lo (h _ _ (F.push _) (N.push F _))
theorem callValues_TT {Q : Value → Shared → Prop} (F : Fr h₀ L s.heap m₀) (N : News h₀ L s.heap news) (hT : TT prog w news d T)
    (h : ∀ v h', Fr h₀ L h' m₀ → News h₀ L h' ((v, { cls := .type "dict_values", data := .fields #[.ref d] }) :: news) → Q (.ref v) { s with heap := h' }) :
    wpAny (model prog w) A (call (.builtin "dict.values") [.ref d]) Q E s := raw_values (hT.typeIs N) hT.lo (h _ _ (F.push _) (N.push F _))

/-- a for over a table's items, by an invariant over the frame and the ledger -/
theorem items_turns {elts : List Expr} {kk : Nat} {pos : Pos} (hh : A.handled = none) (F : Fr h₀ env.locals s.heap m₀) (N : News h₀ env.locals s.heap news)
    (hvw : (vw, { cls := .type "dict_items", data := .fields #[.ref d] }) ∈ news) {newsK : List (Addr × Obj)} (hK : ∀ p ∈ newsK, p ∈ news) (hT : TT prog w newsK d T)
    (J : Nat → (Str → Option Value) → List (Addr × Obj) → Prop) (h0 : J 0 m₀ news)
    (step : ∀ i p m₁ news₁ h₁ tk₁ own I oI Tt ak t, T[i]? = some p → J i m₁ news₁ → KT prog w newsK ak p.1 → (∀ q ∈ own, q.1 = I ∨ q.1 = d) → (I, oI) ∈ own → oI.cls = .type "dict_itemiterator" → (∀ q ∈ news₁, q.1 ≠ I) →
      Fr h₀ env.locals h₁ m₁ → News h₀ env.locals h₁ ((Tt, { cls := .type "tuple", data := .seq #[.ref ak, .int p.2 t] }) :: (own ++ news₁)) →
      wpAny (model prog w) A (assign (.Tuple elts kk pos) env (.ref Tt)) (fun _ s₃ => wpAny (model prog w) A (execs body env)
        (LoopStepV h₀ env.locals [I] own (J (i + 1)) { s with heap := h₁, toks := tk₁ } (fun v s' => Q (.ret v) s') fun s' => Q .next s') E s₃) E { s with heap := h₁, toks := tk₁ })
    (fin : ∀ h' tk m' news', Fr h₀ env.locals h' m' → News h₀ env.locals h' news' → J T.length m' news' → Q .next { s with heap := h', toks := tk }) :
    wpAny (model prog w) A (pyIter (.ref vw)) (fun it s₂ => TurnsAt prog w A h₀ env (.Tuple elts kk pos) body Q E it s₂) E s := by
  obtain ⟨o, es, ep, hm', hc, hd, hsz, hes⟩ := hT.entries
  have hm := hK _ hm'
  have hraw : RawD s.heap d es ep := ⟨o, (N _ hm).1, hd⟩
  have hdlt : d < s.heap.objs.size := Heap.lt_size (N _ hm).1
  have hLlt : env.locals < s.heap.objs.size := F.ns.lt
  refine raw_iter_items (es := es) (ep := ep) ⟨_, (N _ hvw).1, rfl, rfl⟩ hraw ?_
  refine ⟨s.heap.objs.size, [s.heap.objs.size, d], [s.heap.objs.size], es.size, _, _, _, m₀, news, J, rfl, rawItemTurns hh s.heap.objs.size d (Nat.ne_of_lt hdlt) es ep, ?_, ?_, ?_, ?_, F.push _, ?_, h0, ?_, ?_⟩
  · intro hI
    rcases List.mem_cons.mp hI with e | hI
    · exact absurd hLlt (e ▸ Nat.lt_irrefl _)
    · exact (N _ hm).2.1 (List.mem_singleton.mp hI).symm
  · intro b hb
    rw [List.mem_singleton.mp hb]
    exact next_is_new F
  · intro p hp hI
    exact absurd (Heap.lt_size (N p hp).1) ((List.mem_singleton.mp hI) ▸ Nat.lt_irrefl _)
  · exact ⟨⟨.none, .none, Heap.get?_push_size _ rfl⟩, hraw.at fun o e => Heap.get?_push_of_some _ e⟩
  · exact fun p hp => ⟨Heap.get?_push_of_some _ (N p hp).1, (N p hp).2⟩
  · rintro i v m₁ news₁ h₁ tk₁ own hi ⟨Tt, e, rfl, hx, ht, hlt, hTd⟩ hJ hoff hsub hget hall hst F₁ N₁
    obtain ⟨p, ak, t, hp, hkey, hval, hKT⟩ := hes i e hx
    obtain ⟨⟨ok, ov, hIo⟩, _⟩ := hst
    rw [hkey, hval] at ht
    have hTt0 : h₀.get? Tt = none := by
      cases q : h₀.get? Tt with
      | none => rfl
      | some o' => exact absurd (Nat.lt_trans (Nat.lt_of_lt_of_le (Heap.lt_size q) F.above) (Nat.lt_trans hLlt hlt)) (Nat.lt_irrefl _)
    have hI0 : h₀.get? s.heap.objs.size = none := next_is_new F
    refine step i p m₁ news₁ h₁ tk₁ own s.heap.objs.size _ Tt ak t hp hJ hKT ?_ (hall _ (by simp) hI0 _ hIo) rfl ?_ F₁ ?_
    · intro q hq
      have := hsub q hq
      simpa using this
    · intro q hq e
      exact hoff q hq (by simp [e])
    · intro q hq
      rcases List.mem_cons.mp hq with rfl | hq
      · exact ⟨ht, Nat.ne_of_gt (Nat.lt_trans hLlt hlt), hTt0⟩
      · exact N₁ q hq
  · intro h' tk m' news' F' N' _ hJ
    exact fin h' tk m' news' F' N' (hsz ▸ hJ)
/-- a for over a table's values -/
theorem values_turns {x : Str} {pos : Pos} (hh : A.handled = none) (F : Fr h₀ env.locals s.heap m₀) (N : News h₀ env.locals s.heap news)
    (hvw : (vw, { cls := .type "dict_values", data := .fields #[.ref d] }) ∈ news) {newsK : List (Addr × Obj)} (hK : ∀ p ∈ newsK, p ∈ news) (hT : TT prog w newsK d T)
    (J : Nat → (Str → Option Value) → List (Addr × Obj) → Prop) (h0 : J 0 m₀ news)
    (step : ∀ i p m₁ news₁ h₁ tk₁ own I oI t, T[i]? = some p → J i m₁ news₁ → (∀ q ∈ own, q.1 = I ∨ q.1 = d) → (I, oI) ∈ own → oI.cls = .type "dict_valueiterator" → (∀ q ∈ news₁, q.1 ≠ I) →
      Fr h₀ env.locals h₁ m₁ → News h₀ env.locals h₁ (own ++ news₁) →
      wpAny (model prog w) A (assign (.Name x pos) env (.int p.2 t)) (fun _ s₃ => wpAny (model prog w) A (execs body env)
        (LoopStepV h₀ env.locals [I] own (J (i + 1)) { s with heap := h₁, toks := tk₁ } (fun v s' => Q (.ret v) s') fun s' => Q .next s') E s₃) E { s with heap := h₁, toks := tk₁ })
    (fin : ∀ h' tk m' news', Fr h₀ env.locals h' m' → News h₀ env.locals h' news' → J T.length m' news' → Q .next { s with heap := h', toks := tk }) :
    wpAny (model prog w) A (pyIter (.ref vw)) (fun it s₂ => TurnsAt prog w A h₀ env (.Name x pos) body Q E it s₂) E s := by
  obtain ⟨o, es, ep, hm', hc, hd, hsz, hes⟩ := hT.entries
  have hm := hK _ hm'
  have hraw : RawD s.heap d es ep := ⟨o, (N _ hm).1, hd⟩
  have hdlt : d < s.heap.objs.size := Heap.lt_size (N _ hm).1
  have hLlt : env.locals < s.heap.objs.size := F.ns.lt
  refine raw_iter_values (es := es) (ep := ep) ⟨_, (N _ hvw).1, rfl, rfl⟩ hraw ?_
  refine ⟨s.heap.objs.size, [s.heap.objs.size, d], [s.heap.objs.size], es.size, _, _, _, m₀, news, J, rfl, rawValTurns hh s.heap.objs.size d (Nat.ne_of_lt hdlt) es ep, ?_, ?_, ?_, ?_, F.push _, ?_, h0, ?_, ?_⟩
  · intro hI
    rcases List.mem_cons.mp hI with e | hI
    · exact absurd hLlt (e ▸ Nat.lt_irrefl _)
    · exact (N _ hm).2.1 (List.mem_singleton.mp hI).symm
  · intro b hb
    rw [List.mem_singleton.mp hb]
    exact next_is_new F
  · intro p hp hI
    exact absurd (Heap.lt_size (N p hp).1) ((List.mem_singleton.mp hI) ▸ Nat.lt_irrefl _)
  · exact ⟨⟨_, Heap.get?_push_size _ rfl, rfl, rfl⟩, hraw.at fun o e => Heap.get?_push_of_some _ e⟩
  · exact fun p hp => ⟨Heap.get?_push_of_some _ (N p hp).1, (N p hp).2⟩
  · rintro i v m₁ news₁ h₁ tk₁ own hi ⟨e, rfl, hx⟩ hJ hoff hsub hget hall hst F₁ N₁
    obtain ⟨p, ak, t, hp, hkey, hval, hKT⟩ := hes i e hx
    obtain ⟨⟨oI, hIo, hcI, _⟩, _⟩ := hst
    have hI0 : h₀.get? s.heap.objs.size = none := next_is_new F
    rw [hval]
    refine step i p m₁ news₁ h₁ tk₁ own s.heap.objs.size oI t hp hJ ?_ (hall _ (by simp) hI0 _ hIo) hcI ?_ F₁ N₁
    · intro q hq
      have := hsub q hq
      simpa using this
    · intro q hq e
      exact hoff q hq (by simp [e])
  · intro h' tk m' news' F' N' _ hJ
    exact fin h' tk m' news' F' N' (hsz ▸ hJ)
end
end Mine
namespace Mine
section
variable {prog : Program} {w : World} {A : Around} {E : Value → Shared → Prop} {s : Shared} {h₀ : Heap} {L d a : Addr} {m : Str → Option Value} {news : List (Addr × Obj)} {T : List (Int × Int)} {n c : Int} {t : Tok}
theorem TT.len (hT : TT prog w news d T) : T.length = (encT T).length := by simp [encT]
theorem setItem_TT {Q : Unit → Shared → Prop} (hu : A.units + 1 < cLine) (hsz : T.length ≤ sizeLine) (F : Fr h₀ L s.heap m) (N : News h₀ L s.heap news) (hT : TT prog w news d T) (hK : KT prog w news a n)
    (h : ∀ h' news', Fr h₀ L h' m → News h₀ L h' news' → TT prog w news' d (putT n c T) → (∀ p ∈ news, p.1 ≠ d → p ∈ news') → Q () { s with heap := h', toks := s.toks + (3 + 1) }) :
    wpAny (model prog w) A (setItem (.ref d) (.ref a) (.int c t)) Q E s := by
  obtain ⟨ok, hm, tk⟩ := hK
  refine setItem_tupTab (knd := mixKind prog w) (enc := mixEnc) (ks := keyOf n) (dv := .int c) same_mix hu (Flat.int c t) F N hT hm tk (fun h' news' F' N' T' _ k' => ?_) (by rw [← hT.len]; exact hsz)
  rw [show encTuple mixEnc (keyOf n) = encK n from rfl, putD_encT] at T'
  exact h h' news' F' N' T' k'
theorem in_TT {Q : Value → Shared → Prop} (hu : A.units + 1 < cLine) (N : News h₀ L s.heap news) (hT : TT prog w news d T) (hK : KT prog w news a n)
    (h : Q (.bool (getT n T).isSome) { s with toks := s.toks + (3 + 1) }) : wpAny (model prog w) A (compareOp .In (.ref a) (.ref d)) Q E s := by
  obtain ⟨ok, hm, tk⟩ := hK
  refine in_tupTab (knd := mixKind prog w) (enc := mixEnc) (ks := keyOf n) same_mix hu N hT hm tk ?_
  rw [show encTuple mixEnc (keyOf n) = encK n from rfl, lookup_encT, Option.isSome_map]
  exact h
theorem getItem_TT {x : Int} {Q : Value → Shared → Prop} (hu : A.units + 1 < cLine) (N : News h₀ L s.heap news) (hT : TT prog w news d T) (hK : KT prog w news a n) (hx : getT n T = some x)
    (h : ∀ t, Q (.int x t) { s with toks := s.toks + (3 + 1) }) : wpAny (model prog w) A (getItem (.ref d) (.ref a)) Q E s := by
  obtain ⟨ok, hm, tk⟩ := hK
  obtain ⟨lo, xs, hd, hf⟩ := TupTab.at hT N
  have hl : Spec.lookup (encTuple mixEnc (keyOf n)) (encT T) = some (.int x) := by rw [show encTuple mixEnc (keyOf n) = encK n from rfl, lookup_encT, hx]; rfl
  obtain ⟨v, hv, hfl⟩ := hf.of_lookup (same_encTuple same_mix) hl
  rw [valueAt_kvsOf] at hv
  obtain ⟨p, hp, rfl⟩ := Option.map_eq_some_iff.mp hv
  obtain ⟨t, ht⟩ := hfl.int_inv
  refine wpAny_getItem_heap (tupleKind_room_in1 hu) (tk.key (N.get hm)) hd hp ?_
  rw [ht]
  exact h t
theorem get2_TT {dc : Int} {dt : Tok} {Q : Value → Shared → Prop} (hu : A.units + 1 < cLine) (N : News h₀ L s.heap news) (hT : TT prog w news d T) (hK : KT prog w news a n)
    (h : ∀ t, Q (.int ((getT n T).getD dc) t) { s with toks := s.toks + (3 + 1) }) : wpAny (model prog w) A (call (.builtin "dict.get") [.ref d, .ref a, .int dc dt]) Q E s := by
  obtain ⟨ok, hm, tk⟩ := hK
  refine call_get2_tupTab (knd := mixKind prog w) (enc := mixEnc) (ks := keyOf n) same_mix hu N hT hm tk (Flat.int dc dt) fun v hv => ?_
  rw [show encTuple mixEnc (keyOf n) = encK n from rfl, lookup_encT] at hv
  have : ((getT n T).map PyData.int).getD (PyData.int dc) = PyData.int ((getT n T).getD dc) := by cases getT n T <;> rfl
  rw [this] at hv
  obtain ⟨t, rfl⟩ := hv.int_inv
  exact h t
end
theorem mset {m : Str → Option Value} {x : Str} {v : Value} (h : m x = some v) : m = fun y => if y = x then some v else m y := by
  funext y
  split
  · rename_i e; rw [e, h]
  · rfl
end Mine
namespace Mine
section
variable {prog : Program} {w : World} {A : Around} {E : Value → Shared → Prop} {s : Shared} {env : Env} {h₀ : Heap} {r : Addr} {news : List (Addr × Obj)} {m₀ : Str → Option Value} {body : List Stmt} {Q : Flow → Shared → Prop}
/-- a for over a range, by an invariant over the frame and the ledger -/
theorem range_turns {x : Str} {pos : Pos} {a₀ b₀ : Int} {t₀ u₀ v₀ : Tok} {n : Nat} (hh : A.handled = none) (hr : IsRange s.heap r a₀ b₀ 1 t₀ u₀ v₀) (hsmall : Builtin.Range.small a₀ b₀ 1 = true) (hn : Builtin.Range.rangeSize a₀ b₀ 1 = (n : Int)) (F : Fr h₀ env.locals s.heap m₀) (N : News h₀ env.locals s.heap news)
    (J : Nat → (Str → Option Value) → List (Addr × Obj) → Prop) (h0 : J 0 m₀ news)
    (step : ∀ (i : Nat) m₁ news₁ h₁ tk₁ own I oI t, i < n → J i m₁ news₁ → (∀ q ∈ own, q.1 = I) → (I, oI) ∈ own → oI.cls = .type "range_iterator" → (∀ q ∈ news₁, q.1 ≠ I) →
      Fr h₀ env.locals h₁ m₁ → News h₀ env.locals h₁ (own ++ news₁) →
      wpAny (model prog w) A (assign (.Name x pos) env (.int (a₀ + (i : Int)) t)) (fun _ s₃ => wpAny (model prog w) A (execs body env)
        (LoopStepV h₀ env.locals [I] own (J (i + 1)) { s with heap := h₁, toks := tk₁ } (fun v s' => Q (.ret v) s') fun s' => Q .next s') E s₃) E { s with heap := h₁, toks := tk₁ })
    (fin : ∀ h' tk m' news', Fr h₀ env.locals h' m' → News h₀ env.locals h' news' → J n m' news' → Q .next { s with heap := h', toks := tk }) :
    wpAny (model prog w) A (pyIter (.ref r)) (fun it s₂ => TurnsAt prog w A h₀ env (.Name x pos) body Q E it s₂) E s := by
  refine wpAny_pyIter_range hr hsmall ?_
  have W : Walks prog w A s.heap.objs.size [s.heap.objs.size] [s.heap.objs.size] n (fun i v => i < n ∧ ∃ t, v = .int (a₀ + i * 1) t)
      (fun i h => IsRangeIter h s.heap.objs.size (a₀ + (i : Nat) * 1) ((n : Int) - (i : Nat)) 1) := (Walks.range hh _ a₀ 1 n).bound
  have hLlt : env.locals < s.heap.objs.size := F.ns.lt
  refine ⟨s.heap.objs.size, [s.heap.objs.size], [s.heap.objs.size], n, _, _, _, m₀, news, J, rfl, KTurns.ofWalks W (fun i v s Q E _ hq => wpAny_pure hq), ?_, ?_, ?_, ?_, F.push _, ?_, h0, ?_, ?_⟩
  · intro hI
    exact absurd hLlt ((List.mem_singleton.mp hI) ▸ Nat.lt_irrefl _)
  · intro b hb
    rw [List.mem_singleton.mp hb]
    exact next_is_new F
  · intro p hp hI
    exact absurd (Heap.lt_size (N p hp).1) ((List.mem_singleton.mp hI) ▸ Nat.lt_irrefl _)
  · show IsRangeIter _ _ _ _ _
    rw [hn]
    simpa using Heap.get?_push_size _ rfl
  · exact fun p hp => ⟨Heap.get?_push_of_some _ (N p hp).1, (N p hp).2⟩
  · rintro i v m₁ news₁ h₁ tk₁ own hi ⟨_, t, rfl⟩ hJ hoff hsub hget hall hst F₁ N₁
    have hI0 : h₀.get? s.heap.objs.size = none := next_is_new F
    have e1 : a₀ + (i : Int) * 1 = a₀ + (i : Int) := by omega
    rw [e1]
    refine step i m₁ news₁ h₁ tk₁ own s.heap.objs.size _ t hi hJ ?_ (hall _ (by simp) hI0 _ hst) rfl ?_ F₁ N₁
    · intro q hq
      have := hsub q hq
      simpa using this
    · intro q hq e
      exact hoff q hq (by simp [e])
  · intro h' tk m' news' F' N' _ hJ
    exact fin h' tk m' news' F' N' hJ
end
section
variable {prog : Program} {w : World} {A : Around} {E : Value → Shared → Prop} {s : Shared} {h₀ : Heap} {L d a : Addr} {m : Str → Option Value} {news : List (Addr × Obj)} {n c : Int} {t : Tok}
/-- a dict's display of one key tuple -/
theorem stores_one {K' : Type} [DecidableEq K'] {knd' : KeyKind prog w K'} {o : Obj} {Q : Value → Shared → Prop} (hu : A.units < cLine) (F : Fr h₀ L s.heap m) (N : News h₀ L s.heap news) (hm : (d, o) ∈ news) (lo : (d == sysModules) = false) (hd : o.IsDictOf knd' []) (hK : KT prog w news a n)
    (h : ∀ h' news' tk, Fr h₀ L h' m → News h₀ L h' news' → TT prog w news' d [(n, c)] → (∀ p ∈ news, p.1 ≠ d → p ∈ news') → Q (.ref d) { s with heap := h', toks := tk }) :
    TupStores prog w A E d Q [(.ref a, .int c t)] s := by
  obtain ⟨ok, hka, tk⟩ := hK
  refine TupStores.intro (knd := mixKind prog w) (enc := mixEnc) (ps := [(encK n, .int c)]) same_mix hu F N (TupTab.ofEmpty hm lo hd) (.cons hka tk (Flat.int c t) .nil) (fun h' news' tk' F' N' T' k' => ?_) (by simp [PySem.sizeLine_eq])
  exact h h' news' tk' F' N' T' k'
end
theorem conO_steps : True := trivial
end Mine
end
section
local macro_rules | `(tactic| walk_at "mine dummy 6 0") => `(tactic| skip)
local macro_rules | `(tactic| walk_at "mine dummy 6 1") => `(tactic| skip)
local macro_rules | `(tactic| walk_at "mine dummy 6 2") => `(tactic| skip)
local macro_rules | `(tactic| walk_at "mine dummy 6 3") => `(tactic| skip)
local macro_rules | `(tactic| walk_at "mine dummy 6 4") => `(tactic| skip)
local macro_rules | `(tactic| walk_at "mine dummy 6 5") => `(tactic| skip)
local macro_rules | `(tactic| walk_at "mine dummy 6 6") => `(tactic| skip)
local macro_rules | `(tactic| walk_at "mine dummy 6 7") => `(tactic| skip)
local macro_rules | `(tactic| walk_at "mine dummy 6 8") => `(tactic| skip)
local macro_rules | `(tactic| walk_at "mine dummy 6 9") => `(tactic| skip)
local macro_rules | `(tactic| walk_at "mine dummy 6 10") => `(tactic| skip)
local macro_rules | `(tactic| walk_at "mine dummy 6 11") => `(tactic| skip)
local macro_rules | `(tactic| walk_at "mine dummy 6 12") => `(tactic| skip)
local macro_rules | `(tactic| walk_at "mine dummy 6 13") => `(tactic| skip)
local macro_rules | `(tactic| walk_at "mine dummy 6 14") => `(tactic| skip)
local macro_rules | `(tactic| walk_at "mine dummy 6 15") => `(tactic| skip)
local macro_rules | `(tactic| walk_at "mine dummy 6 16") => `(tactic| skip)
local macro_rules | `(tactic| walk_at "mine dummy 6 17") => `(tactic| skip)
local macro_rules | `(tactic| walk_at "mine dummy 6 18") => `(tactic| skip)
local macro_rules | `(tactic| walk_at "mine dummy 6 19") => `(tactic| skip)
local macro_rules | `(tactic| walk_at "mine dummy 6 20") => `(tactic| skip)
local macro_rules | `(tactic| walk_at "mine dummy 6 21") => `(tactic| skip)
local macro_rules | `(tactic| walk_at "mine dummy 6 22") => `(tactic| skip)
local macro_rules | `(tactic| walk_at "mine dummy 6 23") => `(tactic| skip)
local macro_rules | `(tactic| walk_at "mine dummy 6 24") => `(tactic| skip)
local macro_rules | `(tactic| walk_at "mine dummy 6 25") => `(tactic| skip)
local macro_rules | `(tactic| walk_at "mine dummy 6 26") => `(tactic| skip)
local macro_rules | `(tactic| walk_at "mine dummy 6 27") => `(tactic| skip)
local macro_rules | `(tactic| walk_at "mine dummy 6 28") => `(tactic| skip)
local macro_rules | `(tactic| walk_at "mine dummy 6 29") => `(tactic| skip)
local macro_rules | `(tactic| walk_at "mine dummy 6 30") => `(tactic| skip)
local macro_rules | `(tactic| walk_at "mine dummy 6 31") => `(tactic| skip)
local macro_rules | `(tactic| walk_at "mine dummy 6 32") => `(tactic| skip)
local macro_rules | `(tactic| walk_at "mine dummy 6 33") => `(tactic| skip)
local macro_rules | `(tactic| walk_at "mine dummy 6 34") => `(tactic| skip)
local macro_rules | `(tactic| walk_at "mine dummy 6 35") => `(tactic| skip)
local macro_rules | `(tactic| walk_at "mine dummy 6 36") => `(tactic| skip)
local macro_rules | `(tactic| walk_at "mine dummy 6 37") => `(tactic| skip)
local macro_rules | `(tactic| walk_at "mine dummy 6 38") => `(tactic| skip)
local macro_rules | `(tactic| walk_at "mine dummy 6 39") => `(tactic| skip)
local macro_rules | `(tactic| walk_at "mine dummy 6 40") => `(tactic| skip)
local macro_rules | `(tactic| walk_at "mine dummy 6 41") => `(tactic| skip)
local macro_rules | `(tactic| walk_at "mine dummy 6 42") => `(tactic| skip)
local macro_rules | `(tactic| walk_at "mine dummy 6 43") => `(tactic| skip)
local macro_rules | `(tactic| walk_at "mine dummy 6 44") => `(tactic| skip)
local macro_rules | `(tactic| walk_at "mine dummy 6 45") => `(tactic| skip)
local macro_rules | `(tactic| walk_at "mine dummy 6 46") => `(tactic| skip)
local macro_rules | `(tactic| walk_at "mine dummy 6 47") => `(tactic| skip)
local macro_rules | `(tactic| walk_at "mine dummy 6 48") => `(tactic| skip)
local macro_rules | `(tactic| walk_at "mine dummy 6 49") => `(tactic| skip)
local macro_rules | `(tactic| walk_at "mine dummy 6 50") => `(tactic| skip)
local macro_rules | `(tactic| walk_at "mine dummy 6 51") => `(tactic| skip)
local macro_rules | `(tactic| walk_at "mine dummy 6 52") => `(tactic| skip)
local macro_rules | `(tactic| walk_at "mine dummy 6 53") => `(tactic| skip)
local macro_rules | `(tactic| walk_at "mine dummy 6 54") => `(tactic| skip)
local macro_rules | `(tactic| walk_at "mine dummy 6 55") => `(tactic| skip)
local macro_rules | `(tactic| walk_at "mine dummy 6 56") => `(tactic| skip)
local macro_rules | `(tactic| walk_at "mine dummy 6 57") => `(tactic| skip)
local macro_rules | `(tactic| walk_at "mine dummy 6 58") => `(tactic| skip)
local macro_rules | `(tactic| walk_at "mine dummy 6 59") => `(tactic| skip)
local macro_rules | `(tactic| walk_at "mine dummy 6 60") => `(tactic| skip)
local macro_rules | `(tactic| walk_at "mine dummy 6 61") => `(tactic| skip)
local macro_rules | `(tactic| walk_at "mine dummy 6 62") => `(tactic| skip)
local macro_rules | `(tactic| walk_at "mine dummy 6 63") => `(tactic| skip)
local macro_rules | `(tactic| walk_at "mine dummy 6 64") => `(tactic| skip)
local macro_rules | `(tactic| walk_at "mine dummy 6 65") => `(tactic| skip)
local macro_rules | `(tactic| walk_at "mine dummy 6 66") => `(tactic| skip)
local macro_rules | `(tactic| walk_at "mine dummy 6 67") => `(tactic| skip)
local macro_rules | `(tactic| walk_at "mine dummy 6 68") => `(tactic| skip)
local macro_rules | `(tactic| walk_at "mine dummy 6 69") => `(tactic| skip)
local macro_rules | `(tactic| walk_at "mine dummy 6 70") => `(tactic| skip)
local macro_rules | `(tactic| walk_at "mine dummy 6 71") => `(tactic| skip)
local macro_rules | `(tactic| walk_at "mine dummy 6 72") => `(tactic| skip)
local macro_rules | `(tactic| walk_at "mine dummy 6 73") => `(tactic| skip)
local macro_rules | `(tactic| walk_at "mine dummy 6 74") => `(tactic| skip)
local macro_rules | `(tactic| walk_at "mine dummy 6 75") => `(tactic| skip)
local macro_rules | `(tactic| walk_at "mine dummy 6 76") => `(tactic| skip)
local macro_rules | `(tactic| walk_at "mine dummy 6 77") => `(tactic| skip)
local macro_rules | `(tactic| walk_at "mine dummy 6 78") => `(tactic| skip)
local macro_rules | `(tactic| walk_at "mine dummy 6 79") => `(tactic| skip)
local macro_rules | `(tactic| walk_at "mine dummy 6 80") => `(tactic| skip)
local macro_rules | `(tactic| walk_at "mine dummy 6 81") => `(tactic| skip)
local macro_rules | `(tactic| walk_at "mine dummy 6 82") => `(tactic| skip)
local macro_rules | `(tactic| walk_at "mine dummy 6 83") => `(tactic| skip)
open PySem PySem.W PyProof.Rows
set_option maxRecDepth 100000
set_option maxHeartbeats 4000000
namespace Mine
abbrev TTg (w : World) (news : List (Addr × Obj)) (d : Addr) (T : List (Int × Int)) : Prop := TT Challenge.rw_gf0003_01.row.prog w news d T
/-- a call of a def of the text that gives back an object: the ledger may grow -/
def ConO (w : World) (loose : List Str) (mean : ExcName → Option Value) (mg mb : Str → Option Value) (f : Addr) (sz : Nat) (news : List (Addr × Obj)) (vs : List Value) (post : List (Addr × Obj) → Value → Prop) : Prop :=
  ∀ (dp un : Nat) (gd : Option (List Code)) (cn : Str) (cs : Scope) (a : Addr) (ccd : Value) (cl : List (Str × Addr)) (outer : List Env) (A₀ : Around) (base h₀ : Heap) (L : Addr) (m : Str → Option Value) (s : Shared) (Q E : Value → Shared → Prop),
    Below A₀ base outer h₀ → Fr h₀ L s.heap m → (hd.heap_39 w.params).In h₀ → News h₀ L s.heap news → Top hd.view_39 loose mean mg mb h₀ → cs.kind = .function →
    dp + sz + 1 < recursionLimit → un + 8 * (sz + 1) < cLine →
    (∀ r news' h' tk', Fr h₀ L h' m → News h₀ L h' news' → (∀ p ∈ news, p ∈ news') → post news' r → Q r { s with heap := h', toks := tk' }) →
    wpAny (model Challenge.rw_gf0003_01.row.prog w) (ktrTop dp un gd cn cs L a ccd cl outer) (call (.ref f) vs) Q E s
def copyT (T : List (Int × Int)) : List (Int × Int) := T.foldl (fun N p => putT p.1 p.2 N) []
def addT (T U : List (Int × Int)) : List (Int × Int) := U.foldl (fun N p => putT p.1 (match getT p.1 N with | some x => x + p.2 | none => p.2) N) (copyT T)
local macro_rules | `(tactic| walk_at "getMethod ref") => `(tactic| (k_here; k_dflt (first | (refine' getItems_TT ?N ?T ?_; (case N => k_asm); (case T => assumption)) | (refine' getValues_TT ?N ?T ?_; (case N => k_asm); (case T => assumption)))))
local macro_rules | `(tactic| walk_at "call builtin:dict.items") => `(tactic| (k_here; k_dflt (refine' callItems_TT ?F ?N ?T ?_; (case F => k_asm); (case N => k_asm); (case T => assumption)); intro v' h' F' N'; (try k_sweep)))
theorem putT_len (n c : Int) (T : List (Int × Int)) : (putT n c T).length ≤ T.length + 1 := by
  unfold putT
  split
  · rw [List.length_map]; omega
  · rw [List.length_append]; simp
theorem foldT_len (g : List (Int × Int) → Int × Int → Int) : ∀ (U N : List (Int × Int)), (U.foldl (fun N p => putT p.1 (g N p) N) N).length ≤ N.length + U.length
  | [], N => by simp
  | p :: U, N => by
    rw [List.foldl_cons, List.length_cons]
    have h1 := foldT_len g U (putT p.1 (g N p) N)
    have h2 := putT_len p.1 (g N p) N
    omega
theorem foldl_take {α β : Type} (f : β → α → β) (z : β) {T : List α} {i : Nat} {p : α} (hp : T[i]? = some p) : (T.take (i + 1)).foldl f z = f ((T.take i).foldl f z) p := by
  simp [List.take_add_one, hp, List.foldl_append]
theorem take_len_le {α : Type} (T : List α) (i : Nat) : (T.take i).length ≤ T.length := by simp; omega
/-- a turn's end behind a store into the dict that grows -/
theorem turn_end {prog : Program} {w : World} {h₀ h3 : Heap} {L I d d' : Addr} {oI : Obj} {ob : Addr × Obj} {own news news₁ news3 : List (Addr × Obj)} {m : Str → Option Value} {Tn : List (Int × Int)} {Jn : (Str → Option Value) → List (Addr × Obj) → Prop} {s₁ : Shared} {tk : Nat}
    (F3 : Fr h₀ L h3 m) (N3 : News h₀ L h3 news3) (T3 : TT prog w news3 d' Tn) (K3 : ∀ p ∈ ob :: (own ++ news₁), p.1 ≠ d' → p ∈ news3) (hI' : d' ≠ I) (hdd : d ≠ d') (hown : ∀ q ∈ own, q.1 = I ∨ q.1 = d) (hIo : (I, oI) ∈ own) (hcI : oI.cls = .type "dict_itemiterator")
    (hs : ∀ p ∈ news, p ∈ news₁) (l1 : ∀ p ∈ news, p.1 < d') (hoff : ∀ q ∈ news₁, q.1 ≠ I)
    (hJ : ∀ nw, (∀ p ∈ news, p ∈ nw) → TT prog w nw d' Tn → Jn m nw) : LoopStepU h₀ L [I] own Jn s₁ .next { s₁ with heap := h3, toks := tk } := by
  have hIn : (I, oI) ∈ news3 := K3 _ (.tail _ (List.mem_append_left _ hIo)) (Ne.symm hI')
  refine LoopStepU.intro F3 (news₂ := off I news3) ?_ (fun q hq => by simpa using off_ne q hq) (hJ _ (fun q hq => ?_) ?_)
  · intro q hq
    rcases List.mem_append.mp hq with hq | hq
    · refine N3 q (K3 q (.tail _ (List.mem_append_left _ hq)) ?_)
      rcases hown q hq with e | e
      · rw [e]; exact Ne.symm hI'
      · rw [e]; exact hdd
    · exact N3 q (off_sub q hq)
  · exact off_mem (K3 q (.tail _ (List.mem_append_right _ (hs q hq))) (Nat.ne_of_lt (l1 q hq))) (hoff q (hs q hq))
  · exact T3.off N3 ((N3 _ hIn).1) (by rw [hcI]; decide) (by rw [hcI]; decide)
theorem add_con (w : World) (loose : List Str) (mean : ExcName → Option Value) (mg mb : Str → Option Value) (news : List (Addr × Obj)) (d u : Addr) (T U : List (Int × Int))
    (hT : TTg w news d T) (hU : TTg w news u U) (hTl : T.length ≤ 1000) (hUl : U.length ≤ 1000) :
    ConO w loose mean mg mb 21 0 news [.ref d, .ref u] (fun news' r => ∃ e, r = .ref e ∧ TTg w news' e (addT T U)) := by
  unfold ConO
  k_fill
  intro dp un gd cn cs a ccd cl outer A₀ base h₀ L m s Q E B F X N Tp hk hd hu hret
  refine wpAny_call ?_
  k_dflt ktr_enter
  k_steps
  rename_i d' h1 o' l1 lo' hs' _ _ _ h2 F' N'
  have hT' := hT.sub (news' := (d', o') :: news) (fun p hp => .tail _ hp)
  have hU' := hU.sub (news' := (d', o') :: news) (fun p hp => .tail _ hp)
  have hN' : TTg w ((d', o') :: news) d' [] := TupTab.ofEmpty (.head _) lo' hs'
  clear hs'
  refine For_turns F' ?_
  k_steps
  refine items_turns (T := T) rfl (by assumption) (by assumption) (.head _) (fun p hp => .tail _ (.tail _ hp)) hT
    (fun i m₁ news₁ => (∀ p ∈ news, p ∈ news₁) ∧ m₁ (Str.ofString "new_callers") = some (.ref d') ∧ m₁ (Str.ofString "source") = some (.ref u) ∧
      TTg w news₁ d' ((T.take i).foldl (fun N p => putT p.1 p.2 N) [])) ⟨fun p hp => .tail _ (.tail _ hp), rfl, rfl, by simpa using hN'.sub fun p hp => .tail _ hp⟩ ?_ ?_
  · rintro i p m₁ news₁ h₁ tk₁ own I oI Tt ak t hp ⟨hs, hm1, hm2, hN1⟩ hK hown hIo hcI hoff F₁ N₁
    rw [mset hm2, mset hm1] at F₁
    have hlen := foldT_len (fun _ p => p.2) (T.take i) []
    have hlen2 := take_len_le T i
    k_steps
    rename Fr _ _ _ _ => F2
    rename News _ _ _ _ => N2
    have hdd : d ≠ d' := by
      obtain ⟨o, ho⟩ := hT.mem
      exact Nat.ne_of_lt (l1 _ ho)
    have hI' : d' ≠ I := hN1.ne ((kti_tail N2).right) ((N2 _ (.tail _ (List.mem_append_left _ hIo))).1) (by rw [hcI]; decide)
    refine setItem_TT (n := p.1) (c := p.2) (T := (T.take i).foldl (fun N p => putT p.1 p.2 N) []) (by cb_units) (by rw [PySem.sizeLine_eq]; simp at hlen; omega) F2 N2
      (hN1.sub fun q hq => .tail _ (List.mem_append_right _ hq)) (hK.sub fun q hq => .tail _ (List.mem_append_right _ (hs q hq))) ?_
    intro h3 news3 F3 N3 T3 K3
    k_steps
    refine turn_end F3 N3 T3 K3 hI' hdd hown hIo hcI hs l1 hoff fun nw h1 h2 => ⟨h1, rfl, rfl, ?_⟩
    rw [foldl_take _ _ hp]
    exact h2
  · rintro h3 tk3 m3 news3 F3 N3 ⟨hs3, hm1, hm2, hN3⟩
    rw [List.take_length] at hN3
    rw [mset hm2, mset hm1] at F3
    k_steps
    refine For_turns F3 ?_
    have hU3 := hU.sub hs3
    k_steps
    rename Fr _ _ _ _ => F4
    rename News _ _ _ _ => N4
    refine items_turns (T := U) rfl F4 N4 (.head _) (fun p hp => .tail _ (hs3 p hp)) hU
      (fun i m₁ news₁ => (∀ p ∈ news, p ∈ news₁) ∧ m₁ (Str.ofString "new_callers") = some (.ref d') ∧
        TTg w news₁ d' ((U.take i).foldl (fun N p => putT p.1 (match getT p.1 N with | some x => x + p.2 | none => p.2) N) (copyT T))) ⟨fun p hp => .tail _ (hs3 p hp), rfl, by simpa [copyT] using hN3.sub fun p hp => .tail _ hp⟩ ?_ ?_
    · rintro i p m₁ news₁ h₁ tk₁ own I oI Tt ak t hp ⟨hs, hm1, hN1⟩ hK hown hIo hcI hoff F₁ N₁
      rw [mset hm1] at F₁
      have hlen := foldT_len (fun N p => (match getT p.1 N with | some x => x + p.2 | none => p.2)) (U.take i) (copyT T)
      have hlen1 := foldT_len (fun _ p => p.2) T []
      have hlen2 := take_len_le U i
      have hdd : u ≠ d' := by
        obtain ⟨o, ho⟩ := hU.mem
        exact Nat.ne_of_lt (l1 _ ho)
      have hI' : d' ≠ I := hN1.ne ((kti_tail N₁).right) ((N₁ _ (.tail _ (List.mem_append_left _ hIo))).1) (by rw [hcI]; decide)
      k_steps
      rename Fr _ _ _ _ => F2
      rename News _ _ _ _ => N2
      refine in_TT (n := p.1) (T := (U.take i).foldl (fun N p => putT p.1 (match getT p.1 N with | some x => x + p.2 | none => p.2) N) (copyT T)) (by cb_units) N2
        (hN1.sub fun q hq => .tail _ (List.mem_append_right _ hq)) (hK.sub fun q hq => .tail _ (List.mem_append_right _ (hs q hq))) ?_
      generalize hNx : (U.take i).foldl (fun N p => putT p.1 (match getT p.1 N with | some x => x + p.2 | none => p.2) N) (copyT T) = Nx at hN1 hlen ⊢
      cases hg : getT p.1 Nx with
      | none =>
        simp only [Option.isSome_none]
        k_steps
        rename Fr _ _ _ _ => F3
        rename News _ _ _ _ => N3
        refine setItem_TT (n := p.1) (c := p.2) (T := Nx) (by cb_units) (by rw [PySem.sizeLine_eq]; simp [copyT] at hlen hlen1; omega) F3 N3
          (hN1.sub fun q hq => .tail _ (List.mem_append_right _ hq)) (hK.sub fun q hq => .tail _ (List.mem_append_right _ (hs q hq))) ?_
        intro h4 news4 F4 N4 T4 K4
        k_steps
        refine turn_end F4 N4 T4 K4 hI' hdd hown hIo hcI hs l1 hoff fun nw h1 h2 => ⟨h1, rfl, ?_⟩
        rw [foldl_take _ _ hp, hNx, hg]
        exact h2
      | some y =>
        simp only [Option.isSome_some]
        k_steps
        rename Fr _ _ _ _ => F3
        rename News _ _ _ _ => N3
        refine getItem_TT (n := p.1) (T := Nx) (by cb_units) N3
          (hN1.sub fun q hq => .tail _ (List.mem_append_right _ hq)) (hK.sub fun q hq => .tail _ (List.mem_append_right _ (hs q hq))) hg ?_
        intro t4
        (try dsimp only)
        k_steps
        refine setItem_TT (n := p.1) (c := y + p.2) (T := Nx) (by cb_units) (by rw [PySem.sizeLine_eq]; simp [copyT] at hlen hlen1; omega) F3 N3
          (hN1.sub fun q hq => .tail _ (List.mem_append_right _ hq)) (hK.sub fun q hq => .tail _ (List.mem_append_right _ (hs q hq))) ?_
        intro h4 news4 F4 N4 T4 K4
        k_steps
        refine turn_end F4 N4 T4 K4 hI' hdd hown hIo hcI hs l1 hoff fun nw h1 h2 => ⟨h1, rfl, ?_⟩
        rw [foldl_take _ _ hp, hNx, hg]
        exact h2
    · rintro h5 tk5 m5 news5 F5 N5 ⟨hs5, hm5, hN5⟩
      rw [List.take_length] at hN5
      rw [mset hm5] at F5
      k_steps
      exact hret _ _ _ _ (by assumption) (by assumption) hs5 ⟨_, rfl, hN5⟩
end Mine
end
section
local macro_rules | `(tactic| walk_at "mine dummy 7 0") => `(tactic| skip)
local macro_rules | `(tactic| walk_at "mine dummy 7 1") => `(tactic| skip)
local macro_rules | `(tactic| walk_at "mine dummy 7 2") => `(tactic| skip)
local macro_rules | `(tactic| walk_at "mine dummy 7 3") => `(tactic| skip)
local macro_rules | `(tactic| walk_at "mine dummy 7 4") => `(tactic| skip)
local macro_rules | `(tactic| walk_at "mine dummy 7 5") => `(tactic| skip)
local macro_rules | `(tactic| walk_at "mine dummy 7 6") => `(tactic| skip)
local macro_rules | `(tactic| walk_at "mine dummy 7 7") => `(tactic| skip)
local macro_rules | `(tactic| walk_at "mine dummy 7 8") => `(tactic| skip)
local macro_rules | `(tactic| walk_at "mine dummy 7 9") => `(tactic| skip)
local macro_rules | `(tactic| walk_at "mine dummy 7 10") => `(tactic| skip)
local macro_rules | `(tactic| walk_at "mine dummy 7 11") => `(tactic| skip)
local macro_rules | `(tactic| walk_at "mine dummy 7 12") => `(tactic| skip)
local macro_rules | `(tactic| walk_at "mine dummy 7 13") => `(tactic| skip)
local macro_rules | `(tactic| walk_at "mine dummy 7 14") => `(tactic| skip)
local macro_rules | `(tactic| walk_at "mine dummy 7 15") => `(tactic| skip)
local macro_rules | `(tactic| walk_at "mine dummy 7 16") => `(tactic| skip)
local macro_rules | `(tactic| walk_at "mine dummy 7 17") => `(tactic| skip)
local macro_rules | `(tactic| walk_at "mine dummy 7 18") => `(tactic| skip)
local macro_rules | `(tactic| walk_at "mine dummy 7 19") => `(tactic| skip)
local macro_rules | `(tactic| walk_at "mine dummy 7 20") => `(tactic| skip)
local macro_rules | `(tactic| walk_at "mine dummy 7 21") => `(tactic| skip)
local macro_rules | `(tactic| walk_at "mine dummy 7 22") => `(tactic| skip)
local macro_rules | `(tactic| walk_at "mine dummy 7 23") => `(tactic| skip)
local macro_rules | `(tactic| walk_at "mine dummy 7 24") => `(tactic| skip)
local macro_rules | `(tactic| walk_at "mine dummy 7 25") => `(tactic| skip)
local macro_rules | `(tactic| walk_at "mine dummy 7 26") => `(tactic| skip)
local macro_rules | `(tactic| walk_at "mine dummy 7 27") => `(tactic| skip)
local macro_rules | `(tactic| walk_at "mine dummy 7 28") => `(tactic| skip)
local macro_rules | `(tactic| walk_at "mine dummy 7 29") => `(tactic| skip)
local macro_rules | `(tactic| walk_at "mine dummy 7 30") => `(tactic| skip)
local macro_rules | `(tactic| walk_at "mine dummy 7 31") => `(tactic| skip)
local macro_rules | `(tactic| walk_at "mine dummy 7 32") => `(tactic| skip)
local macro_rules | `(tactic| walk_at "mine dummy 7 33") => `(tactic| skip)
local macro_rules | `(tactic| walk_at "mine dummy 7 34") => `(tactic| skip)
local macro_rules | `(tactic| walk_at "mine dummy 7 35") => `(tactic| skip)
local macro_rules | `(tactic| walk_at "mine dummy 7 36") => `(tactic| skip)
local macro_rules | `(tactic| walk_at "mine dummy 7 37") => `(tactic| skip)
local macro_rules | `(tactic| walk_at "mine dummy 7 38") => `(tactic| skip)
local macro_rules | `(tactic| walk_at "mine dummy 7 39") => `(tactic| skip)
local macro_rules | `(tactic| walk_at "mine dummy 7 40") => `(tactic| skip)
local macro_rules | `(tactic| walk_at "mine dummy 7 41") => `(tactic| skip)
local macro_rules | `(tactic| walk_at "mine dummy 7 42") => `(tactic| skip)
local macro_rules | `(tactic| walk_at "mine dummy 7 43") => `(tactic| skip)
local macro_rules | `(tactic| walk_at "mine dummy 7 44") => `(tactic| skip)
local macro_rules | `(tactic| walk_at "mine dummy 7 45") => `(tactic| skip)
local macro_rules | `(tactic| walk_at "mine dummy 7 46") => `(tactic| skip)
local macro_rules | `(tactic| walk_at "mine dummy 7 47") => `(tactic| skip)
local macro_rules | `(tactic| walk_at "mine dummy 7 48") => `(tactic| skip)
local macro_rules | `(tactic| walk_at "mine dummy 7 49") => `(tactic| skip)
local macro_rules | `(tactic| walk_at "mine dummy 7 50") => `(tactic| skip)
local macro_rules | `(tactic| walk_at "mine dummy 7 51") => `(tactic| skip)
local macro_rules | `(tactic| walk_at "mine dummy 7 52") => `(tactic| skip)
local macro_rules | `(tactic| walk_at "mine dummy 7 53") => `(tactic| skip)
local macro_rules | `(tactic| walk_at "mine dummy 7 54") => `(tactic| skip)
local macro_rules | `(tactic| walk_at "mine dummy 7 55") => `(tactic| skip)
local macro_rules | `(tactic| walk_at "mine dummy 7 56") => `(tactic| skip)
local macro_rules | `(tactic| walk_at "mine dummy 7 57") => `(tactic| skip)
local macro_rules | `(tactic| walk_at "mine dummy 7 58") => `(tactic| skip)
local macro_rules | `(tactic| walk_at "mine dummy 7 59") => `(tactic| skip)
local macro_rules | `(tactic| walk_at "mine dummy 7 60") => `(tactic| skip)
local macro_rules | `(tactic| walk_at "mine dummy 7 61") => `(tactic| skip)
local macro_rules | `(tactic| walk_at "mine dummy 7 62") => `(tactic| skip)
local macro_rules | `(tactic| walk_at "mine dummy 7 63") => `(tactic| skip)
local macro_rules | `(tactic| walk_at "mine dummy 7 64") => `(tactic| skip)
local macro_rules | `(tactic| walk_at "mine dummy 7 65") => `(tactic| skip)
local macro_rules | `(tactic| walk_at "mine dummy 7 66") => `(tactic| skip)
local macro_rules | `(tactic| walk_at "mine dummy 7 67") => `(tactic| skip)
local macro_rules | `(tactic| walk_at "mine dummy 7 68") => `(tactic| skip)
local macro_rules | `(tactic| walk_at "mine dummy 7 69") => `(tactic| skip)
local macro_rules | `(tactic| walk_at "mine dummy 7 70") => `(tactic| skip)
local macro_rules | `(tactic| walk_at "mine dummy 7 71") => `(tactic| skip)
local macro_rules | `(tactic| walk_at "mine dummy 7 72") => `(tactic| skip)
local macro_rules | `(tactic| walk_at "mine dummy 7 73") => `(tactic| skip)
local macro_rules | `(tactic| walk_at "mine dummy 7 74") => `(tactic| skip)
local macro_rules | `(tactic| walk_at "mine dummy 7 75") => `(tactic| skip)
local macro_rules | `(tactic| walk_at "mine dummy 7 76") => `(tactic| skip)
local macro_rules | `(tactic| walk_at "mine dummy 7 77") => `(tactic| skip)
local macro_rules | `(tactic| walk_at "mine dummy 7 78") => `(tactic| skip)
local macro_rules | `(tactic| walk_at "mine dummy 7 79") => `(tactic| skip)
local macro_rules | `(tactic| walk_at "mine dummy 7 80") => `(tactic| skip)
local macro_rules | `(tactic| walk_at "mine dummy 7 81") => `(tactic| skip)
local macro_rules | `(tactic| walk_at "mine dummy 7 82") => `(tactic| skip)
local macro_rules | `(tactic| walk_at "mine dummy 7 83") => `(tactic| skip)
local macro_rules | `(tactic| walk_at "mine dummy 7 84") => `(tactic| skip)
local macro_rules | `(tactic| walk_at "mine dummy 7 85") => `(tactic| skip)
local macro_rules | `(tactic| walk_at "mine dummy 7 86") => `(tactic| skip)
local macro_rules | `(tactic| walk_at "mine dummy 7 87") => `(tactic| skip)
local macro_rules | `(tactic| walk_at "mine dummy 7 88") => `(tactic| skip)
local macro_rules | `(tactic| walk_at "mine dummy 7 89") => `(tactic| skip)
local macro_rules | `(tactic| walk_at "mine dummy 7 90") => `(tactic| skip)
local macro_rules | `(tactic| walk_at "mine dummy 7 91") => `(tactic| skip)
local macro_rules | `(tactic| walk_at "mine dummy 7 92") => `(tactic| skip)
local macro_rules | `(tactic| walk_at "mine dummy 7 93") => `(tactic| skip)
local macro_rules | `(tactic| walk_at "mine dummy 7 94") => `(tactic| skip)
local macro_rules | `(tactic| walk_at "mine dummy 7 95") => `(tactic| skip)
open PySem PySem.W PyProof.Rows
set_option maxRecDepth 100000
set_option maxHeartbeats 4000000
namespace Mine
local macro_rules | `(tactic| walk_at "getMethod ref") => `(tactic| (k_here; k_dflt (first | (refine' getValues_TT ?N ?T ?_; (case N => k_asm); (case T => assumption)))))
local macro_rules | `(tactic| walk_at "call builtin:dict.values") => `(tactic| (k_here; k_dflt (refine' callValues_TT ?F ?N ?T ?_; (case F => k_asm); (case N => k_asm); (case T => assumption)); intro v' h' F' N'; (try k_sweep)))
local macro_rules | `(tactic| walk_at "exec For Name Call cons nil") => `(tactic| (k_here; k_dflt (refine' For_turns ?F ?_; (case F => k_asm))))
def sumT (T : List (Int × Int)) : Int := T.foldl (fun n p => n + p.2) 0
/-- a call of a def of the text that gives back an int -/
def ConI (w : World) (loose : List Str) (mean : ExcName → Option Value) (mg mb : Str → Option Value) (f : Addr) (sz : Nat) (news : List (Addr × Obj)) (vs : List Value) (x : Int) : Prop :=
  ∀ (dp un : Nat) (gd : Option (List Code)) (cn : Str) (cs : Scope) (a : Addr) (ccd : Value) (cl : List (Str × Addr)) (outer : List Env) (A₀ : Around) (base h₀ : Heap) (L : Addr) (m : Str → Option Value) (s : Shared) (Q E : Value → Shared → Prop),
    Below A₀ base outer h₀ → Fr h₀ L s.heap m → (hd.heap_39 w.params).In h₀ → News h₀ L s.heap news → Top hd.view_39 loose mean mg mb h₀ → cs.kind = .function →
    dp + sz + 1 < recursionLimit → un + 8 * (sz + 1) < cLine →
    (∀ (t : Tok) (h' : Heap) (tk' : Nat), Fr h₀ L h' m → News h₀ L h' news → Q (.int x t) { s with heap := h', toks := tk' }) →
    wpAny (model Challenge.rw_gf0003_01.row.prog w) (ktrTop dp un gd cn cs L a ccd cl outer) (call (.ref f) vs) Q E s
theorem count_con (w : World) (loose : List Str) (mean : ExcName → Option Value) (mg mb : Str → Option Value) (news : List (Addr × Obj)) (d : Addr) (T : List (Int × Int))
    (hT : TTg w news d T) : ConI w loose mean mg mb 28 0 news [.ref d] (sumT T) := by
  unfold ConI
  k_fill
  intro dp un gd cn cs a ccd cl outer A₀ base h₀ L m s Q E B F X N Tp hk hd hu hret
  refine wpAny_call ?_
  k_dflt ktr_enter
  k_steps
  rename Fr _ _ _ _ => F3
  rename News _ _ _ _ => N3
  refine values_turns (T := T) rfl F3 N3 (.head _) (fun p hp => .tail _ hp) hT
    (fun i m₁ news₁ => (∀ p ∈ news, p ∈ news₁) ∧ ∃ t, m₁ (Str.ofString "nc") = some (.int ((T.take i).foldl (fun n p => n + p.2) 0) t)) ?_ ?_ ?_
  · exact ⟨fun p hp => .tail _ hp, _, rfl⟩
  · rintro i p m₁ news₁ h₁ tk₁ own I oI t hp ⟨hs, t1, hm1⟩ hown hIo hcI hoff F₁ N₁
    rw [mset hm1] at F₁
    k_steps
    rename Fr _ _ _ _ => F2
    rename News _ _ _ _ => N2
    refine LoopStepU.intro F2 N2 (fun q hq => by simpa using hoff q hq) ⟨hs, ?_⟩
    rw [foldl_take _ _ hp]
    exact ⟨_, rfl⟩
  · rintro h5 tk5 m5 news5 F5 N5 ⟨hs5, t5, hm5⟩
    rw [List.take_length] at hm5
    rw [mset hm5] at F5
    k_steps
    exact hret _ _ _ (by assumption) (cb_drop (by assumption) hs5)
end Mine
end
section
open PySem PySem.W PyProof.Rows PyProof.V
set_option maxRecDepth 100000
set_option maxHeartbeats 4000000
namespace Mine
theorem list_no_keys : typeLookup (.type "list") (Str.ofString "keys") = pure none := by rw [typeLookup_type, builtinLookup_eq_fast]; kernel_rfl
theorem plain_update_loop : plainId "dict.update.loop" = true := by decide +kernel
theorem entry_update_loop : entryFor table "dict.update.loop" = some Builtin.«dict.update.loop» := entryFor_of_tree (by kernel_rfl)
section
variable {prog : Program} {w : World} {A : Around} {E : Value → Shared → Prop} {s : Shared}
/-- a list has no «keys» -/
theorem no_keys {a : Addr} {o : Obj} {xs : Array Value} {k : Nat} {Q : Option Value → Shared → Prop} (hx : s.heap.get? a = some o) (hc : o.cls = .type "list") (hdat : o.data = .seq xs k) (hd : o.dict = none) (hA : A.handled = none)
    (h : ∀ h' tk, (∀ b ob, s.heap.get? b = some ob → h'.get? b = some ob) → Q none { s with heap := h', toks := tk }) :
    wpAny (model prog w) A (getAttr? (.ref a) (Str.ofString "keys")) Q E s := by
  obtain ⟨c, dct, dat, sl⟩ := o
  simp only at hc hdat hd
  subst hc hdat hd
  obtain ⟨hp, g, d, tk, os⟩ := s
  have hT : ∀ tk', (⟨hp, g, d, tk', os⟩ : Shared).TypeIs (.ref a) "list" := fun _ => ⟨_, hx, rfl⟩
  have f1 := sub_AttributeError
  have f3 := PySem.F.slot_list_getattribute.lookup
  have f4 := PySem.F.slot_list_getattribute.bind (.ref a)
  have f5 := am_list_getattr_none
  unfold getAttr? getAttrBy? getAttrBy
  repeat (any_goals (first | assumption | exact hT _ | ((with_reducible show wpAny _ _ (call (Value.builtin "list.__getattribute__") _ _) _ _ _); refine call_meets PySem.F.slot_list_getattribute (hT _) am_entry_list_getattribute (PySem.F.args_list_getattribute_2 _ _) (meets_getattribute_miss_list a xs k sl (Str.ofString "keys") _ list_no_keys (by decide) (by size_fits)) ⟨hx, hA, fun h' tk' e hx' => ?_⟩) | wp_step))
  obtain ⟨t', u', he⟩ := hx'.there
  have hTe : ∀ tk, (⟨h', g, d, tk, os⟩ : Shared).TypeIs (.ref e) "AttributeError" := fun _ => ⟨_, he, rfl⟩
  show wpAny _ _ (getattributeRaised _ _ _ _ _ _ _) _ _ _
  unfold getattributeRaised
  refine wpAny_bind (wpAny_isInstance (hTe _) f1 ?_)
  simp only [if_true]
  refine wpAny_bind ?_
  unfold hookBehind
  rw [if_neg (by decide)]
  rw [f5]
  refine wpAny_pure ?_
  unfold hookOrError attributeErrorLeaves
  simp only [Bool.not_false, if_true]
  refine wpAny_throw ?_
  show wpAny _ _ (isInstance (.ref e) (.type "AttributeError") >>= _) _ _ _
  refine wpAny_bind (wpAny_isInstance (hTe _) f1 ?_)
  simp only [if_true]
  exact wpAny_pure (h h' tk' hx'.keeps)
/-- what a list of pairs holds: each a tuple of a key and a number -/
def PairsIn (prog : Program) (w : World) (news : List (Addr × Obj)) (vs : List Value) (U : List (Int × Int)) : Prop :=
  vs.length = U.length ∧ ∀ (i : Nat) (v : Value), vs[i]? = some v → ∃ p b ak t, U[i]? = some p ∧ v = .ref b ∧ (b, ({ cls := .type "tuple", data := .seq #[.ref ak, .int p.2 t] } : Obj)) ∈ news ∧ KT prog w news ak p.1
theorem PairsIn.sub {news news' : List (Addr × Obj)} {vs : List Value} {U : List (Int × Int)} (h : PairsIn prog w news vs U) (hs : ∀ p ∈ news, p ∈ news') : PairsIn prog w news' vs U :=
  ⟨h.1, fun i v e => let ⟨p, b, ak, t, h1, h2, h3, h4⟩ := h.2 i v e; ⟨p, b, ak, t, h1, h2, hs _ h3, h4.sub hs⟩⟩
def copyU (U : List (Int × Int)) : List (Int × Int) := U.foldl (fun N p => putT p.1 p.2 N) []
theorem putT_len' (n c : Int) (T : List (Int × Int)) : (putT n c T).length ≤ T.length + 1 := by
  unfold putT
  split
  · rw [List.length_map]; omega
  · rw [List.length_append]; simp
theorem copyU_len (U : List (Int × Int)) : ∀ N : List (Int × Int), (U.foldl (fun N p => putT p.1 p.2 N) N).length ≤ N.length + U.length := by
  induction U with
  | nil => intro N; simp
  | cons p U ih => intro N; rw [List.foldl_cons, List.length_cons]; have h1 := ih (putT p.1 p.2 N); have h2 := putT_len' p.1 p.2 N; omega
variable {h₀ : Heap} {L l : Addr} {m : Str → Option Value}
theorem dictSet_TT {d a : Addr} {news : List (Addr × Obj)} {T : List (Int × Int)} {n c : Int} {t : Tok} {Q : Unit → Shared → Prop} (hu : A.units < cLine) (hsz : T.length ≤ sizeLine) (F : Fr h₀ L s.heap m) (N : News h₀ L s.heap news) (hT : TT prog w news d T) (hK : KT prog w news a n)
    (h : ∀ h' news', Fr h₀ L h' m → News h₀ L h' news' → TT prog w news' d (putT n c T) → (∀ p ∈ news, p.1 ≠ d → p ∈ news') → Q () { s with heap := h', toks := s.toks + (3 + 1) }) :
    wpAny (model prog w) A (dictSet d (.ref a) (.int c t)) Q E s := by
  obtain ⟨ok, hm, tk⟩ := hK
  refine dictSet_tupTab (knd := mixKind prog w) (enc := mixEnc) (ks := keyOf n) (dv := .int c) same_mix hu (Flat.int c t) F N hT hm tk (fun h' news' F' N' T' k' => ?_) (by rw [← hT.len]; exact hsz)
  rw [show encTuple mixEnc (keyOf n) = encK n from rfl, putD_encT] at T'
  exact h h' news' F' N' T' k'
/-- the loop of dict.update over a list of pairs -/
theorem update_loop {R : Result → Shared → Prop} {I d : Addr} {vs : List Value} {U : List (Int × Int)} {news : List (Addr × Obj)} {ol : Obj} {nl : Nat} (hh : A.handled = none) (hu : A.units + 1 < cLine) (hU : U.length ≤ 1000)
    (hol : ol.cls = .type "list") (hdl : ol.data = .seq vs.toArray nl) (hP : PairsIn prog w news vs U) (hml : (l, ol) ∈ news) (hdn : ∀ p ∈ news, p.1 ≠ d) (hLI : L ≠ I) (hI₀ : h₀.get? I = none) :
    ∀ (k i : Nat) (s : Shared) (newsA : List (Addr × Obj)), vs.length - i = k → i ≤ vs.length → Fr h₀ L s.heap m → News h₀ L s.heap newsA → (∀ p ∈ news, p ∈ newsA) → (∀ p ∈ newsA, p.1 ≠ I) → s.heap.IsListIter I l i →
      TT prog w newsA d ((U.take i).foldl (fun N p => putT p.1 p.2 N) []) →
      (∀ h' newsB tk', Fr h₀ L h' m → News h₀ L h' newsB → (∀ p ∈ news, p ∈ newsB) → TT prog w newsB d (copyU U) → R (.ok (.ret .none)) { s with heap := h', toks := tk' }) →
      codeAny (model prog w) A (.builtin "dict.update.loop" ⟨[.ref d, .ref I, rawInt i, .none], []⟩) R s := by
  intro k
  induction k with
  | zero =>
    intro i s newsA hk hi F N hs hoff hit hT hR
    have hin : i = vs.length := by omega
    subst hin
    refine codeAny_builtin entry_update_loop ?_
    rw [Around.under_plainId plain_update_loop _]
    show wpAny _ A.in1 (pyNext (.ref I) >>= _) _ _ s
    refine wpAny_bind (wpAny_pyNext_list_end hh hit ⟨ol, (N _ (hs _ hml)).1, hol, nl, hdl⟩ (by simp) fun h' he' => ?_)
    show wpAny _ A.in1 (Builtin.Dict.addKeywords d [] >>= _) _ _ _
    refine wpAny_bind (wpAny_pure (wpAny_pure ?_))
    rw [hP.1, List.take_length] at hT
    exact hR h' newsA s.toks ⟨F.ns.at' fun o e => he' _ o hLI e, fun b o e => he' b o (fun q => by rw [q, hI₀] at e; cases e) (F.keep b o e), F.above⟩ (fun p hp => ⟨he' _ _ (hoff p hp) (N p hp).1, (N p hp).2⟩) hs hT
  | succ k ih =>
    intro i s newsA hk hi F N hs hoff hit hT hR
    have hlt : i < vs.length := by omega
    obtain ⟨p, b, ak, t, hp, hv, hb, hK⟩ := hP.2 i vs[i] (by simp [hlt])
    refine codeAny_builtin entry_update_loop ?_
    rw [Around.under_plainId plain_update_loop _]
    show wpAny _ A.in1 (pyNext (.ref I) >>= _) _ _ s
    refine wpAny_bind (wpAny_pyNext_list_item (x := .ref b) hit ⟨ol, (N _ (hs _ hml)).1, hol, nl, hdl⟩ (by simp [hlt, hv]) fun h' hit' hs' => ?_)
    have F' : Fr h₀ L h' m := F.change hs' (Ne.symm hLI) hI₀
    have N' : News h₀ L h' newsA := fun q hq => ⟨hs'.extBut _ _ (hoff q hq) (N q hq).1, (N q hq).2⟩
    obtain ⟨oI, hoI, hcI, hdI⟩ := id hit'
    have N2 : News h₀ L h' ((I, oI) :: newsA) := fun q hq => by
      rcases List.mem_cons.mp hq with rfl | hq
      · exact ⟨hoI, Ne.symm hLI, hI₀⟩
      · exact N' q hq
    have hbT := (N' _ (hs _ hb)).1
    refine wpAny_bind (wpAny_holding (wpAny_bind (wpAny_tryCatch ?_)))
    unfold Builtin.Dict.pairItems
    refine wpAny_bind (wpAny_typeOf (T := "tuple") ⟨_, hbT, rfl⟩ ?_)
    rw [if_pos (by decide)]
    refine wpAny_bind (wpAny_seqItems hbT rfl (wpAny_pure ?_))
    refine wpAny_holding ?_
    have hlen := copyU_len (U.take i) []
    have hlen2 : (U.take i).length ≤ U.length := by simp; omega
    have hdI' : d ≠ I := hT.ne N' hoI (by rw [hcI]; decide)
    refine dictSet_TT (n := p.1) (c := p.2) (by simpa using hu) (by rw [PySem.sizeLine_eq]; simp at hlen; omega) F' N2 (hT.sub fun q hq => .tail _ hq) (hK.sub fun q hq => .tail _ (hs q hq)) fun h3 news3 F3 N3 T3 K3 => ?_
    have hIn : (I, oI) ∈ news3 := K3 _ (.head _) (Ne.symm hdI')
    refine wpAny_pure ⟨plainId_quiet plain_update_loop _, ?_⟩
    have e1 : rawInt ((i : Int) + 1) = rawInt ((i + 1 : Nat) : Int) := by congr 1
    rw [e1]
    refine ih (i + 1) _ (off I news3) (by omega) hlt F3 (fun q hq => N3 q (off_sub q hq)) (fun q hq => off_mem (K3 q (.tail _ (hs q hq)) (hdn q hq)) (hoff q (hs q hq))) off_ne ⟨oI, (N3 _ hIn).1, hcI, hdI⟩ ?_ ?_
    · rw [List.take_add_one, hp]
      simp only [Option.toList_some, List.foldl_append, List.foldl_cons, List.foldl_nil]
      exact T3.off N3 ((N3 _ hIn).1) (by rw [hcI]; decide) (by rw [hcI]; decide)
    · intro h4 newsB tk4 F4 N4 hs4 hT4
      exact hR h4 newsB tk4 F4 N4 hs4 hT4
/-- dict(a list of pairs) -/
theorem dict_of_list {Q : Value → Shared → Prop} {vs : List Value} {U : List (Int × Int)} {news : List (Addr × Obj)} {ol : Obj} {nl : Nat} (hh : A.handled = none) (hu : A.units + 5 < cLine) (hU : U.length ≤ 1000) (hbig : sysModules < h₀.objs.size)
    (F : Fr h₀ L s.heap m) (N : News h₀ L s.heap news) (hml : (l, ol) ∈ news) (hol : ol.cls = .type "list") (hdl : ol.data = .seq vs.toArray nl) (hnd : ol.dict = none) (hP : PairsIn prog w news vs U)
    (h : ∀ d h' news' tk', Fr h₀ L h' m → News h₀ L h' news' → (∀ p ∈ news, p ∈ news') → TT prog w news' d (copyU U) → Q (.ref d) { s with heap := h', toks := tk' }) :
    wpAny (model prog w) A (call (.type "dict") [.ref l]) Q E s := by
  refine callType_codes (Q₁ := fun obj s₁ => obj = .ref s.heap.objs.size ∧ s₁ = { s with heap := s.heap.push { cls := .type "dict", data := .dict #[] } }) PySem.F.kt_called_dict (PySem.F.kt_typeCall_dict_1 _) PySem.F.entry_dict_init (kt_code_dict_new _ ⟨rfl, rfl⟩) ?_
  rintro obj s₁ ⟨rfl, rfl⟩
  have F1 := F.push { cls := .type "dict", data := .dict #[] }
  have N1 := N.push F { cls := .type "dict", data := .dict #[] }
  have hT0 : TT prog w ((s.heap.objs.size, ({ cls := .type "dict", data := .dict #[] } : Obj)) :: news) s.heap.objs.size [] :=
    TupTab.ofEmpty (knd' := mixKind prog w) (.head _) (F.notModules hbig) (by
      obtain ⟨o, ho, hd⟩ := Heap.dictOf_iff.mp (Heap.DictOf.new (knd := mixKind prog w) s.heap)
      rw [Heap.get?_push_size _ rfl] at ho
      exact (Option.some.inj ho) ▸ hd)
  have hdn : ∀ p ∈ news, p.1 ≠ s.heap.objs.size := fun p hp => Nat.ne_of_lt (Heap.lt_size (N p hp).1)
  refine ⟨hT0.typeIs N1, PySem.F.args_dict_init_2 _ _, ?_⟩
  have hl1 := (N1 _ (.tail _ hml)).1
  unfold Builtin.«dict.__init__»
  refine wpAny_bind ?_
  unfold Builtin.Dict.selfAndRest
  refine wpAny_bind (wpAny_notOrdered_dict (hT0.typeIs N1) ?_)
  show wpAny _ _ (pure (s.heap.objs.size, [Value.ref l])) _ _ _
  refine wpAny_pure ?_
  show wpAny _ _ (Builtin.Dict.updateFrom "dict.__init__" s.heap.objs.size (.ref l) [] .none) _ _ _
  unfold Builtin.Dict.updateFrom
  refine wpAny_bind (wpAny_typeOf (T := "list") ⟨_, hl1, hol⟩ ?_)
  rw [if_pos (by decide)]
  refine wpAny_bind (no_keys hl1 hol hdl hnd hh fun h2 tk2 hk2 => ?_)
  simp only [Option.isNone_none, if_true]
  refine wpAny_bind (wpAny_rule (wpAny_bind ?_))
  have F2 := F1.keeps hk2
  have N2 := N1.grown hk2
  refine wpAny_pyIter_list ⟨ol, (N2 _ (.tail _ hml)).1, hol, nl, hdl⟩ ?_
  have F3 := F2.push { cls := .type "list_iterator", data := .fields #[.ref l, .int 0 0] }
  have N3 : News h₀ L (h2.push { cls := .type "list_iterator", data := .fields #[.ref l, .int 0 0] }) ((s.heap.objs.size, ({ cls := .type "dict", data := .dict #[] } : Obj)) :: news) := N2.grown fun b o e => Heap.get?_push_of_some _ e
  refine wpAny_pure ⟨plainId_quiet plain_update_loop _, ?_⟩
  refine' update_loop (U := U) (vs := vs) (news := news) (m := m) (ol := ol) ?a1 ?a2 hU hol hdl hP hml hdn ?a3 ?a4 vs.length 0 _ _ rfl (Nat.zero_le _) F3 N3 ?a7 ?a8 ?a9 hT0 ?a10
  case a1 => exact hh
  case a2 => simp only [Around.in1_units]; omega
  case a3 => exact Nat.ne_of_lt F2.ns.lt
  case a4 => exact next_is_new F2
  case a7 => exact fun p hp => .tail _ hp
  case a8 => exact fun p hp => Nat.ne_of_lt (Heap.lt_size (N2 p hp).1)
  case a9 => exact ⟨{ cls := .type "list_iterator", data := .fields #[.ref l, .int 0 0] }, Heap.get?_push_size _ rfl, rfl, rfl⟩
  intro h4 newsB tk4 F4 N4 hs4 hT4
  exact ⟨rfl, h _ _ _ _ F4 N4 hs4 hT4⟩
end
end Mine
end
section
open PySem PySem.W PyProof.Rows PyProof.V
set_option maxRecDepth 100000
set_option maxHeartbeats 4000000
namespace Mine
section
variable {prog : Program} {w : World} {A : Around} {E : Value → Shared → Prop} {s : Shared} {R : Result → Shared → Prop}
/-- a clause of a list comprehension, turn by turn -/
theorem comp_loop {elt target : PySem.Expr} {gens : List Comprehension} {scope : Scope} {pos ipos : Pos} {depth : Nat} {I : Addr} {acc : Value} {env : Env} {rest : Sem Fin} {fp wr : List Addr} {n : Nat} {P Md : Nat → Value → Heap → Prop} {St : Nat → Heap → Prop}
    (htree : compTurn (.ListComp elt gens scope pos) depth (.ref I) acc env = (standAt ipos >>= fun _ => pyNext (.ref I) >>= fun r => match r with
      | none => pure (.done .next)
      | some v => letOwnedTupleGo target (.ref I) v >>= fun _ => assign target env v >>= fun _ => rest))
    (W : KTurns prog w A target I fp wr n P Md St) (J : Nat → Heap → Prop)
    (hJ : ∀ i h h', J i h → (∀ b o, b ∉ wr → h.get? b = some o → h'.get? b = some o) → J i h')
    (step : ∀ i v h tk (E' : Value → Shared → Prop), i < n → P i v h → St (i + 1) h → J i h → wpAny (model prog w) A (assign target env v) (fun _ s₂ => wpAny (model prog w) A rest (fun f s₃ => f = .again (.compLoop (.ListComp elt gens scope pos) depth (.ref I) acc env) ∧ ∃ h' tk', s₃ = { s with heap := h', toks := tk' } ∧ St (i + 1) h' ∧ J (i + 1) h') E' s₂) E' { s with heap := h, toks := tk })
    (h0 : St 0 s.heap) (hJ0 : J 0 s.heap) (fin : ∀ h' tk, J n h' → R (.ok .next) { s with heap := h', toks := tk }) :
    codeAny (model prog w) A (.compLoop (.ListComp elt gens scope pos) depth (.ref I) acc env) R s := by
  refine codeAny_loop rfl (fun k s' => ∃ h' tk i, s' = { s with heap := h', toks := tk } ∧ i ≤ n ∧ k = n + 1 - i ∧ St i h' ∧ J i h') (fun k s' hI => ?_) (n + 1) ⟨s.heap, s.toks, 0, rfl, Nat.zero_le _, rfl, h0, hJ0⟩
  obtain ⟨h', tk, i, rfl, hi, rfl, hst, hj⟩ := hI
  show wpAny _ A ((compTurn (.ListComp elt gens scope pos) depth (.ref I) acc env).onRaise (fun x => do noteFrame x env; theTreesLotGoes x)) _ _ _
  refine wpAny_noted ?_
  rw [htree]
  refine wpAny_bind (wpAny_standAt (wpAny_bind ?_))
  by_cases hlt : i < n
  · refine W.item i _ _ _ hlt hst fun v h₁ tk₁ hMd hk₁ => ?_
    refine wpAny_bind (W.go i v _ _ _ hMd fun h₂ hP hst₂ hk₂ => ?_)
    refine wpAny_bind (wpAny_mono (step i v h₂ tk₁ _ hlt hP hst₂ (hJ i _ _ hj fun b o hb x => hk₂ b o hb (hk₁ b o hb x))) (fun _ s₂ h2 => wpAny_mono h2 (fun f s₃ h3 => ?_) fun _ _ e => e) fun _ _ e => e)
    obtain ⟨rfl, h4, tk4, rfl, hst4, hj4⟩ := h3
    exact ⟨rfl, n + 1 - (i + 1), by omega, h4, tk4, i + 1, rfl, hlt, rfl, hst4, hj4⟩
  · have hin : i = n := by omega
    subst hin
    refine W.done _ _ _ hst fun h₁ tk₁ hk₁ => ?_
    exact wpAny_pure (fin h₁ tk₁ (hJ _ _ _ hj hk₁))
theorem compTurn_one (elt target iter : PySem.Expr) (scope : Scope) (pos : Pos) (it acc : Value) (env : Env) :
    compTurn (.ListComp elt [⟨target, iter, [], 0⟩] scope pos) 0 it acc env = (standAt iter.pos >>= fun _ => pyNext it >>= fun r => match r with
      | none => pure (.done .next)
      | some v => letOwnedTupleGo target it v >>= fun _ => assign target env v >>= fun _ => (eval elt env >>= fun x => call (.builtin "list.append") [acc, x] >>= fun _ => pure ()) >>= fun _ =>
        again (.compLoop (.ListComp elt [⟨target, iter, [], 0⟩] scope pos) 0 it acc env)) := by rfl
theorem compTurn_two (elt target iter : PySem.Expr) (g : Comprehension) (scope : Scope) (pos : Pos) (it acc : Value) (env : Env) :
    compTurn (.ListComp elt [g, ⟨target, iter, [], 0⟩] scope pos) 1 it acc env = (standAt iter.pos >>= fun _ => pyNext it >>= fun r => match r with
      | none => pure (.done .next)
      | some v => letOwnedTupleGo target it v >>= fun _ => assign target env v >>= fun _ => (eval elt env >>= fun x => call (.builtin "list.append") [acc, x] >>= fun _ => pure ()) >>= fun _ =>
        again (.compLoop (.ListComp elt [g, ⟨target, iter, [], 0⟩] scope pos) 1 it acc env)) := by rfl
theorem compTurn_outer (elt target iter t2 i2 : PySem.Expr) (scope : Scope) (pos : Pos) (it acc : Value) (env : Env) :
    compTurn (.ListComp elt [⟨target, iter, [], 0⟩, ⟨t2, i2, [], 0⟩] scope pos) 0 it acc env = (standAt iter.pos >>= fun _ => pyNext it >>= fun r => match r with
      | none => pure (.done .next)
      | some v => letOwnedTupleGo target it v >>= fun _ => assign target env v >>= fun _ => eval i2 env >>= fun x => standAt i2.pos >>= fun _ => foldedSetIterable i2 env x >>= fun x => holding [x] (pyIter x) >>= fun it2 =>
          runOwn (.compStart (.ListComp elt [⟨target, iter, [], 0⟩, ⟨t2, i2, [], 0⟩] scope pos) 1 it2 acc env) env >>= fun _ =>
        again (.compLoop (.ListComp elt [⟨target, iter, [], 0⟩, ⟨t2, i2, [], 0⟩] scope pos) 0 it acc env)) := by rfl
theorem comp_start1 {elt t2 i2 : PySem.Expr} {g : Comprehension} {scope : Scope} {pos : Pos} {it acc : Value} {env : Env}
    (h0 : codeAny (model prog w) A (.compLoop (.ListComp elt [g, ⟨t2, i2, [], 0⟩] scope pos) 1 it acc env) R s)
    (h : ∀ E', wpAny (model prog w) A (pyIter it) (fun it' s' => codeAny (model prog w) A (.compLoop (.ListComp elt [g, ⟨t2, i2, [], 0⟩] scope pos) 1 it' acc env) R s') E' s) :
    codeAny (model prog w) A (.compStart (.ListComp elt [g, ⟨t2, i2, [], 0⟩] scope pos) 1 it acc env) R s := by
  refine codeAny_of_tree ?_
  show wpAny _ _ ((compStart (.ListComp elt [g, ⟨t2, i2, [], 0⟩] scope pos) 1 it acc env).onRaise (fun x => do noteFrame x env; standAt theWindowsPlace)) _ _ s
  refine wpAny_notedAt ?_
  unfold compStart
  show wpAny _ _ (ask >>= _) _ _ s
  refine wpAny_bind (wpAny_askSetting (wpAny_ite ?_))
  split
  · first
      | exact wpAny_bind (wpAny_pure (wpAny_pure (And.intro rfl h0)))
      | exact wpAny_pure (And.intro rfl h0)
  · refine wpAny_bind (wpAny_rule ?_)
    show wpAny _ _ (standAt i2.pos >>= _) _ _ s
    exact wpAny_bind (wpAny_standAt (wpAny_bind (wpAny_mono (h _) (fun it' s' h' => wpAny_pure (And.intro rfl h')) fun _ _ x => x)))
variable {h₀ : Heap} {L : Addr} {m : Str → Option Value} {env : Env}
/-- what stands behind a comprehension's loop -/
def LoopOk (h₀ : Heap) (L : Addr) (m : Str → Option Value) (s₂ : Shared) (C D : Addr) (PF : List Value → List (Addr × Obj) → Prop) (r : Result) (s' : Shared) : Prop :=
  ∃ h' tk m' ys news', r = .ok .next ∧ s' = { s₂ with heap := h', toks := tk } ∧ h'.Ns C m' ∧ Fr h₀ L h' m ∧ News h₀ L h' ((D, LCg.lst ys) :: news') ∧ (∀ p ∈ news', p.1 ≠ C) ∧ PF ys news'
def CompAt (prog : Program) (w : World) (A : Around) (h₀ : Heap) (L : Addr) (env : Env) (e : PySem.Expr) (scope : Scope) (cl : List (Str × Addr)) (Q : Value → Shared → Prop) (it : Value) (s₂ : Shared) : Prop :=
  ∃ m news PF, Fr h₀ L s₂.heap m ∧ News h₀ L s₂.heap news ∧
      (∀ D C h₁ tk, s₂.heap.objs.size ≤ D → s₂.heap.objs.size ≤ C → C ≠ D → (∀ b o, s₂.heap.get? b = some o → h₁.get? b = some o) → Fr h₀ L h₁ m → News h₀ L h₁ news → h₁.get? D = some (LCg.lst []) → (∃ mc, h₁.Ns C mc) → h₀.get? C = none → h₀.get? D = none → C ≠ L → D ≠ L →
        codeAny (model prog w) A (.compStart e 0 it (.ref D) (compEnvC scope cl C env)) (LoopOk h₀ L m s₂ C D PF) { s₂ with heap := h₁, toks := tk }) ∧
      (∀ D h tk ys news', s₂.heap.objs.size ≤ D → Fr h₀ L h m → News h₀ L h ((D, LCg.lst ys) :: news') → PF ys news' → Q (.ref D) { s₂ with heap := h, toks := tk })
/-- a list comprehension: the frame of its own, the list that it fills -/
theorem comp_eval {elt target iter : PySem.Expr} {rest : List Comprehension} {scope : Scope} {pos : Pos} {cl : List (Str × Addr)} {Q : Value → Shared → Prop} {m₀ : Str → Option Value} (_F₀ : Fr h₀ L s.heap m₀)
    (hclos : closureFor scope env = pure cl) (hcell : ∀ y ∈ scope.names, y.2 ≠ .cell) (hkind : scope.kind = .function) (hnames : ∀ y ∈ scope.names, y.2 = .local → scope.names.lookup y.1 = some .local)
    (h : wpAny (model prog w) A (eval iter env) (fun xv s₁ => wpAny (model prog w) A (pyIter xv) (fun it s₂ => CompAt prog w A h₀ L env (.ListComp elt (⟨target, iter, [], 0⟩ :: rest) scope pos) scope cl Q it s₂) E s₁) E s)
    (hs : ∀ x, foldedSetIterable iter env x = pure x := by intro _; rfl) :
    wpAny (model prog w) A (eval (.ListComp elt (⟨target, iter, [], 0⟩ :: rest) scope pos) env) Q E s := by
  rw [eval_ListComp]
  refine wpAny_comprehension_free (use := none) rfl hs hclos hkind hnames (wpAny_mono h (fun xv s₁ h₁ => wpAny_mono h₁ (fun it s₂ h₂ => ?_) fun _ _ e => e) fun _ _ e => e)
  obtain ⟨m, news, PF, F, N, hloop, hfin⟩ := h₂
  refine wpAny_newObj_type (wpAny_newFunctionEnv hcell (by intro y hy; simp at hy) (fun h₁ hns₁ hsb₁ => ?_) hkind)
  dsimp only at hns₁ hsb₁ ⊢
  generalize hH2 : s₂.heap.push { cls := .type "list", dict := none, data := .seq ([] : List Value).toArray } = H2 at hns₁ hsb₁ ⊢
  have hC : H2.objs.size = s₂.heap.objs.size + 1 := by rw [← hH2, Heap.size_push]
  have hDC : s₂.heap.objs.size ≠ H2.objs.size := by rw [hC]; exact Nat.ne_of_lt (Nat.lt_succ_self _)
  have below : ∀ b, b < s₂.heap.objs.size → b ≠ H2.objs.size ∧ b ≠ s₂.heap.objs.size := fun b hb => ⟨by rw [hC]; exact Nat.ne_of_lt (Nat.lt_succ_of_lt hb), Nat.ne_of_lt hb⟩
  have old : ∀ b o, s₂.heap.get? b = some o → h₁.get? b = some o := fun b o e => hsb₁.extBut b o (below b (Heap.lt_size e)).1 (Heap.get?_push_of_some _ (hH2 ▸ Heap.get?_push_of_some _ e))
  have hacc : h₁.get? s₂.heap.objs.size = some (LCg.lst []) := hsb₁.extBut _ _ hDC (Heap.get?_push_of_some _ (hH2 ▸ Heap.get?_push_size _ rfl))
  have fresh₀ : ∀ a, s₂.heap.objs.size ≤ a → h₀.get? a = none := fun a ha => by
    cases e : h₀.get? a with
    | none => rfl
    | some o' => exact absurd (Heap.lt_size (F.keep a o' e)) (Nat.not_lt.mpr ha)
  have hD₀ : h₀.get? s₂.heap.objs.size = none := fresh₀ _ (Nat.le_refl _)
  have hC₀ : h₀.get? H2.objs.size = none := fresh₀ _ (by rw [hC]; exact Nat.le_succ _)
  have hLlt : L < s₂.heap.objs.size := F.ns.lt
  have hDL : s₂.heap.objs.size ≠ L := Ne.symm (below L hLlt).2
  have hCL : H2.objs.size ≠ L := Ne.symm (below L hLlt).1
  refine codeAny_mono (hloop s₂.heap.objs.size H2.objs.size h₁ (s₂.toks + ([] : List (Str × Value)).length) (Nat.le_refl _) (by rw [hC]; exact Nat.le_succ _) (Ne.symm hDC) old (F.keeps old) (N.grown old) hacc ⟨_, hns₁⟩ hC₀ hD₀ hCL hDL) fun r s' hr => ?_
  obtain ⟨h', tk, m', ys, news', rfl, rfl, hn', F', N', hoff, hPF⟩ := hr
  refine ⟨m', hn', fun h'' hs'' => hfin _ h'' tk ys news' (Nat.le_refl _) (F'.change hs'' hCL hC₀) (fun p hp => ?_) hPF⟩
  refine ⟨hs''.extBut _ _ ?_ (N' p hp).1, (N' p hp).2⟩
  rcases List.mem_cons.mp hp with rfl | hp
  · exact hDC
  · exact hoff p hp
open LCg in
/-- the last clause of a comprehension: each turn's element goes to the list's end -/
theorem comp_last {elt target : PySem.Expr} {gens : List Comprehension} {scope : Scope} {pos ipos : Pos} {depth : Nat} {I C D : Addr} {cl : List (Str × Addr)} {fp : List Addr} {n : Nat} {P Md : Nat → Value → Heap → Prop} {St : Nat → Heap → Prop} {news : List (Addr × Obj)} {ys₀ : List Value}
    (htree : compTurn (.ListComp elt gens scope pos) depth (.ref I) (.ref D) (compEnvC scope cl C env) = (standAt ipos >>= fun _ => pyNext (.ref I) >>= fun r => match r with
      | none => pure (.done .next)
      | some v => letOwnedTupleGo target (.ref I) v >>= fun _ => assign target (compEnvC scope cl C env) v >>= fun _ => (eval elt (compEnvC scope cl C env) >>= fun x => call (.builtin "list.append") [.ref D, x] >>= fun _ => pure ()) >>= fun _ =>
        again (.compLoop (.ListComp elt gens scope pos) depth (.ref I) (.ref D) (compEnvC scope cl C env))))
    (W : KTurns prog w A target I fp [I] n P Md St) (hIo : ∀ i h, St i h → ∃ o, h.get? I = some o)
    (hSt : ∀ i h h' o nw, St i h → h.get? I = some o → h'.get? I = some o → (∀ b o, h₀.get? b = some o → h'.get? b = some o) → News h₀ L h' nw → (∀ p ∈ news, p ∈ nw) → St i h')
    (MC : (Str → Option Value) → Prop) (B : Nat → (Str → Option Value) → Prop)
    (hasg : ∀ i v h tk mc (Q' : Unit → Shared → Prop) (E' : Value → Shared → Prop), P i v h → h.Ns C mc → MC mc → (∀ h' tk' m₂, h'.Ns C m₂ → B i m₂ → MC m₂ → (∀ c o, c ≠ C → h.get? c = some o → h'.get? c = some o) → Q' () { s with heap := h', toks := tk' }) →
      wpAny (model prog w) A (assign target (compEnvC scope cl C env) v) Q' E' { s with heap := h, toks := tk })
    (PF : Nat → List Value → List (Addr × Obj) → Prop) (hsz : ∀ i ys nw, i < n → PF i ys nw → ys.length ≤ sizeLine)
    (F : Fr h₀ L s.heap m) (N : News h₀ L s.heap news) (hC : ∃ mc, s.heap.Ns C mc ∧ MC mc) (hD : s.heap.get? D = some (lst ys₀)) (hoff : Off3 I C D news) (hne : ((@Ne Nat I C) ∧ (@Ne Nat I D) ∧ (@Ne Nat C D)))
    (hCfp : C ∉ fp) (hDfp : D ∉ fp) (hLI : L ≠ I) (hCL : C ≠ L) (hDL : D ≠ L) (hI₀ : h₀.get? I = none) (hC₀ : h₀.get? C = none) (hD₀ : h₀.get? D = none) (hst : St 0 s.heap) (hPF : PF 0 ys₀ news)
    (step : ∀ i ys news₁ oI oC m₂ h tk (E' : Value → Shared → Prop), i < n → PF i ys news₁ → (∀ p ∈ news, p ∈ news₁) → NsObj oC m₂ → B i m₂ → MC m₂ → Fr h₀ L h m → News h₀ L h ((I, oI) :: (C, oC) :: (D, lst ys) :: news₁) → Off3 I C D news₁ →
      wpAny (model prog w) A (eval elt (compEnvC scope cl C env)) (CompEnd h₀ L m { s with heap := h, toks := tk } I oI C oC D (lst ys) (fun nw => ∀ p ∈ news₁, p ∈ nw) (fun y nw => PF (i + 1) (ys ++ [y]) nw)) E' { s with heap := h, toks := tk })
    (fin : ∀ h' tk ys news' mc, Fr h₀ L h' m → News h₀ L h' news' → h'.Ns C mc → MC mc → h'.get? D = some (lst ys) → Off3 I C D news' → (∀ p ∈ news, p ∈ news') → PF n ys news' → R (.ok .next) { s with heap := h', toks := tk }) :
    codeAny (model prog w) A (.compLoop (.ListComp elt gens scope pos) depth (.ref I) (.ref D) (compEnvC scope cl C env)) R s := by
  refine comp_loop htree W (fun i h => ∃ ys news₁ mc, Fr h₀ L h m ∧ News h₀ L h news₁ ∧ h.Ns C mc ∧ MC mc ∧ h.get? D = some (lst ys) ∧ Off3 I C D news₁ ∧ (∀ p ∈ news, p ∈ news₁) ∧ PF i ys news₁) ?_ ?_ hst (let ⟨mc, hc, hmc⟩ := hC; ⟨ys₀, news, mc, F, N, hc, hmc, hD, hoff, fun _ hp => hp, hPF⟩) ?_
  · rintro i h h' ⟨ys, news₁, mc, F1, N1, hn1, hmc1, hD1, o1, s1, p1⟩ hk
    exact ⟨ys, news₁, mc, fr_but F1 hk hLI hI₀, news_but N1 hk fun p hp => (o1.mem p hp).1, hn1.at' fun o e => hk _ o (by simpa using Ne.symm hne.1) e, hmc1, hk D _ (by simpa using Ne.symm hne.2.1) hD1, o1, s1, p1⟩
  · rintro i v h tk E' hlt hP hst1 ⟨ys, news₁, mc, F1, N1, hn1, hmc1, hD1, o1, s1, p1⟩
    refine hasg i v h tk mc _ _ hP hn1 hmc1 fun h2 tk2 m₂ hn2 hB hmc2 hk2 => ?_
    obtain ⟨oC, heC, hoC⟩ := ns_obj hn2
    have off1 := o1.mem
    have hst2 : St (i + 1) h2 := W.frame _ _ _ hst1 fun b hb o e => hk2 b o (fun q => hCfp (by have q' : b = C := q; rw [← q']; exact hb)) e
    obtain ⟨oI, heI⟩ := hIo _ _ hst2
    have F2 : Fr h₀ L h2 m := ⟨F1.ns.at' fun o e => hk2 L o (Ne.symm hCL) e, fun b o e => hk2 b o (fun q => by have q' : b = C := q; rw [q', hC₀] at e; cases e) (F1.keep b o e), F1.above⟩
    have hD2 : h2.get? D = some (lst ys) := hk2 D _ (Ne.symm hne.2.2) hD1
    have N2 : News h₀ L h2 news₁ := fun p hp => ⟨hk2 _ _ (off1 p hp).2.1 (N1 p hp).1, (N1 p hp).2⟩
    have N3 : News h₀ L h2 ((I, oI) :: (C, oC) :: (D, lst ys) :: news₁) := fun p hp => by
      rcases List.mem_cons.mp hp with rfl | hp
      · exact ⟨heI, Ne.symm hLI, hI₀⟩
      rcases List.mem_cons.mp hp with rfl | hp
      · exact ⟨heC, hCL, hC₀⟩
      rcases List.mem_cons.mp hp with rfl | hp
      · exact ⟨hD2, hDL, hD₀⟩
      · exact N2 p hp
    refine wpAny_bind (wpAny_bind (wpAny_mono (step i ys news₁ oI oC m₂ h2 tk2 _ hlt p1 s1 hoC hB hmc2 F2 N3 o1) (fun y s₄ h₄ => ?_) fun _ _ e => e))
    obtain ⟨h₄, tk₄, news₄, rfl, F₄, N₄, off₄, hS₄, R₄⟩ := h₄
    have zI := (N₄ (I, oI) List.mem_cons_self).1
    have zC := (N₄ (C, oC) (List.mem_cons_of_mem _ List.mem_cons_self)).1
    have zD := (N₄ (D, lst ys) (List.mem_cons_of_mem _ (List.mem_cons_of_mem _ List.mem_cons_self))).1
    have N₄' : News h₀ L h₄ news₄ := fun p hp => N₄ p (List.mem_cons_of_mem _ (List.mem_cons_of_mem _ (List.mem_cons_of_mem _ hp)))
    have hst₄ : St (i + 1) h₄ := hSt _ _ _ _ _ hst2 heI zI F₄.keep N₄' fun p hp => hS₄ p (s1 p hp)
    refine wpAny_bind (append_at (hsz := by show ys.toArray.size ≤ sizeLine; rw [List.size_toArray]; exact hsz i ys news₁ hlt p1) zD fun h₅ hs₅ hD₅ => ?_)
    have off4 := off₄.mem
    refine wpAny_pure (wpAny_pure ⟨rfl, h₅, _, rfl, W.frame _ _ _ hst₄ fun b hb o e => hs₅.extBut b o (fun q => hDfp (q ▸ hb)) e, ys ++ [y], news₄, m₂, F₄.change hs₅ hDL hD₀, fun p hp => ⟨hs₅.extBut _ _ (off4 p hp).2.2 (N₄' p hp).1, (N₄' p hp).2⟩, (hoC.ns zC).sameBut hs₅ hne.2.2, hmc2, hD₅.trans (congrArg some (lst_snoc ys y)), off₄, fun p hp => hS₄ p (s1 p hp), R₄⟩)
  · rintro h' tk ⟨ys, news₁, mc, F1, N1, hn1, hmc1, hD1, o1, s1, p1⟩
    exact fin h' tk ys news₁ mc F1 N1 hn1 hmc1 hD1 o1 s1 p1
open LCg in
/-- a comprehension over a table's items -/
theorem comp_items {elt iter : PySem.Expr} {a b : Str} {pa pb tp : Pos} {kk : Nat} {scope : Scope} {pos : Pos} {cl : List (Str × Addr)} {Q : Value → Shared → Prop} {d vw : Addr} {T : List (Int × Int)} {news newsK : List (Addr × Obj)}
    (hh : A.handled = none) (F : Fr h₀ L s.heap m) (N : News h₀ L s.heap news) (hvw : (vw, { cls := .type "dict_items", data := .fields #[.ref d] }) ∈ news) (hK : ∀ p ∈ newsK, p ∈ news) (hT : TT prog w newsK d T)
    (hkind : scope.kind = .function) (hxa : scope.names.lookup a = some .local) (hxb : scope.names.lookup b = some .local) (hab : ¬ a = b)
    (PF : Nat → List Value → List (Addr × Obj) → Prop) (hPF : PF 0 [] news) (hsz : ∀ i ys nw, i < T.length → PF i ys nw → ys.length ≤ sizeLine)
    (step : ∀ i p ys news₁ I oI C oC D m₂ h tk (E' : Value → Shared → Prop) ak t, T[i]? = some p → PF i ys news₁ → (∀ p ∈ news, p ∈ news₁) → KT prog w newsK ak p.1 → NsObj oC m₂ → m₂ a = some (.ref ak) → m₂ b = some (.int p.2 t) →
      Fr h₀ L h m → News h₀ L h ((I, oI) :: (C, oC) :: (D, lst ys) :: news₁) → Off3 I C D news₁ → ((@Ne Nat I C) ∧ (@Ne Nat I D) ∧ (@Ne Nat C D)) →
      wpAny (model prog w) A (eval elt (compEnvC scope cl C env)) (CompEnd h₀ L m { s with heap := h, toks := tk } I oI C oC D (lst ys) (fun nw => ∀ p ∈ news₁, p ∈ nw) (fun y nw => PF (i + 1) (ys ++ [y]) nw)) E' { s with heap := h, toks := tk })
    (fin : ∀ D h tk ys news', s.heap.objs.size ≤ D → Fr h₀ L h m → News h₀ L h ((D, lst ys) :: news') → (∀ p ∈ news, p ∈ news') → PF T.length ys news' → Q (.ref D) { s with heap := h, toks := tk }) :
    wpAny (model prog w) A (pyIter (.ref vw)) (fun it s₂ => CompAt prog w A h₀ L env (.ListComp elt [⟨.Tuple [.Name a pa, .Name b pb] kk tp, iter, [], 0⟩] scope pos) scope cl Q it s₂) E s := by
  obtain ⟨o, es, ep, hm', hc, hd, hes0, hes⟩ := hT.entries
  have hm := hK _ hm'
  have hraw : RawD s.heap d es ep := ⟨o, (N _ hm).1, hd⟩
  have hdlt : d < s.heap.objs.size := Heap.lt_size (N _ hm).1
  have hLlt : L < s.heap.objs.size := F.ns.lt
  refine raw_iter_items (es := es) (ep := ep) ⟨_, (N _ hvw).1, rfl, rfl⟩ hraw ?_
  refine ⟨m, news, fun ys nw => (∀ p ∈ news, p ∈ nw) ∧ PF T.length ys nw, F.push _, fun p hp => ⟨Heap.get?_push_of_some _ (N p hp).1, (N p hp).2⟩, ?_, ?_⟩
  · intro D C h₁ tk hDge hCge hCD old F1 N1 hD1 hC1 hC0 hD0 hCL hDL
    have hz : (s.heap.push { cls := .type "dict_itemiterator", data := .fields #[.none, .bool false, .ref d, .int 0 0, .int es.size 0, .int ep 0, .none, .none] }).objs.size = s.heap.objs.size + 1 := Heap.size_push ..
    have hDge' : s.heap.objs.size + 1 ≤ D := hz ▸ hDge
    have hCge' : s.heap.objs.size + 1 ≤ C := hz ▸ hCge
    have hit : IsItemIter h₁ s.heap.objs.size d 0 es.size ep .none .none := old _ _ (Heap.get?_push_size _ rfl)
    have hrd : RawD h₁ d es ep := hraw.at fun o e => old _ _ (Heap.get?_push_of_some _ e)
    have hIC : s.heap.objs.size ≠ C := Nat.ne_of_lt hCge'
    have hID : s.heap.objs.size ≠ D := Nat.ne_of_lt hDge'
    have loop : codeAny (model prog w) A (.compLoop (.ListComp elt [⟨.Tuple [.Name a pa, .Name b pb] kk tp, iter, [], 0⟩] scope pos) 0 (.ref s.heap.objs.size) (.ref D) (compEnvC scope cl C env)) (LoopOk h₀ L m { s with heap := s.heap.push { cls := .type "dict_itemiterator", data := .fields #[.none, .bool false, .ref d, .int 0 0, .int es.size 0, .int ep 0, .none, .none] } } C D (fun ys nw => (∀ p ∈ news, p ∈ nw) ∧ PF T.length ys nw)) { s with heap := h₁, toks := tk } := by
      refine comp_last (s := { s with heap := h₁, toks := tk }) (ys₀ := []) (news := news) (compTurn_one _ _ _ _ _ _ _ _) (rawItemTurns hh s.heap.objs.size d (Nat.ne_of_lt hdlt) es ep) (fun i h st => let ⟨⟨_, _, he⟩, _⟩ := st; ⟨_, he⟩) ?_
        (fun _ => True) (fun i m₂ => ∃ p ak t, T[i]? = some p ∧ KT prog w newsK ak p.1 ∧ m₂ a = some (.ref ak) ∧ m₂ b = some (.int p.2 t)) ?_ PF (fun i ys nw hi => hsz i ys nw (hes0 ▸ hi)) F1 N1 (let ⟨mc, h⟩ := hC1; ⟨mc, h, trivial⟩) hD1 ?_ ⟨hIC, hID, hCD⟩ ?_ ?_ (Nat.ne_of_lt hLlt) hCL hDL (next_is_new F) hC0 hD0 ⟨⟨_, _, hit⟩, hrd⟩ hPF ?_ ?_
      · rintro i h h' oI nw ⟨⟨ok, ov, he⟩, hr⟩ e1 e2 hk N2 hs2
        refine ⟨⟨ok, ov, ?_⟩, ?_⟩
        · show h'.get? _ = _
          rw [e2, ← e1]; exact he
        · exact ⟨o, (N2 _ (hs2 _ hm)).1, hd⟩
      · rintro i v h tk' mc Q' E' ⟨Tt, e, rfl, hx, ht, hlt, hTd⟩ hns _ hq
        obtain ⟨p, ak, t, hp, hkey, hval, hKT⟩ := hes i e hx
        rw [hkey, hval] at ht
        refine kcp_assign (env := compEnvC scope cl C env) hh ⟨_, ht, rfl, _, rfl⟩ (lookup_relabel_local hxa) (lookup_relabel_local hxb) (by simp [compEnvC, relabel, hkind]) hns fun h' tk2 hn' hk' => ?_
        exact hq h' tk2 _ hn' ⟨p, ak, t, hp, hKT, by simp [hab], by simp⟩ trivial hk'
      · refine Off3.of fun p hp => ?_
        have hlt := Heap.lt_size (N p hp).1
        exact ⟨Nat.ne_of_lt hlt, Nat.ne_of_lt (Nat.lt_trans hlt hCge'), Nat.ne_of_lt (Nat.lt_trans hlt hDge')⟩
      · intro hm2
        rcases List.mem_cons.mp hm2 with e | e
        · exact hIC e.symm
        · have e' : C = d := List.mem_singleton.mp e
          exact absurd (Nat.lt_trans hdlt hCge') (e' ▸ Nat.lt_irrefl _)
      · intro hm2
        rcases List.mem_cons.mp hm2 with e | e
        · exact hID e.symm
        · have e' : D = d := List.mem_singleton.mp e
          exact absurd (Nat.lt_trans hdlt hDge') (e' ▸ Nat.lt_irrefl _)
      · rintro i ys news₁ oI oC m₂ h tk2 E' hi hp1 hs1 hoC ⟨p, ak, t, hp, hKT, ha, hb⟩ _ F2 N2 off2
        exact step i p ys news₁ _ oI C oC D m₂ h tk2 E' ak t hp hp1 hs1 hKT hoC ha hb F2 N2 off2 ⟨hIC, hID, hCD⟩
      · intro h' tk2 ys news' mc F2 N2 hn2 _ hD2 off2 hs2 hp2
        rw [hes0] at hp2
        refine ⟨h', tk2, mc, ys, news', rfl, rfl, hn2, F2, fun p hp => ?_, fun p hp => (off2.mem p hp).2.1, hs2, hp2⟩
        rcases List.mem_cons.mp hp with rfl | hp
        · exact ⟨hD2, hDL, hD0⟩
        · exact N2 p hp
    exact codeAny_compStart_list loop (kcp_self hit loop)
  · rintro D h tk ys news' hDge F2 N2 ⟨hs2, hp2⟩
    have hz := Heap.size_push s.heap { cls := .type "dict_itemiterator", data := .fields #[.none, .bool false, .ref d, .int 0 0, .int es.size 0, .int ep 0, .none, .none] }
    have hge : s.heap.objs.size + 1 ≤ D := hz ▸ hDge
    exact fin D h tk ys news' (Nat.le_of_succ_le hge) F2 N2 hs2 hp2
theorem comp_end2 {I C D b1 b2 : Addr} {oI oC oD o1 o2 : Obj} {news₁ : List (Addr × Obj)} {s₁ : Shared} {h : Heap} {tk : Nat} {y : Value} {rest : Value → List (Addr × Obj) → Prop}
    (F : Fr h₀ L h m) (N : News h₀ L h ((b2, o2) :: (b1, o1) :: (I, oI) :: (C, oC) :: (D, oD) :: news₁)) (off : LCg.Off3 I C D news₁) (n1 : b1 ≠ I ∧ b1 ≠ C ∧ b1 ≠ D) (n2 : b2 ≠ I ∧ b2 ≠ C ∧ b2 ≠ D)
    (r : rest y ((b2, o2) :: (b1, o1) :: news₁)) : LCg.CompEnd h₀ L m s₁ I oI C oC D oD (fun nw => ∀ p ∈ news₁, p ∈ nw) rest y { s₁ with heap := h, toks := tk } := by
  refine LCg.CompEnd.intro F N ((b2, o2) :: (b1, o1) :: news₁) (fun q hq => ?_) ⟨n2, n1, off⟩ (fun q hq => .tail _ (.tail _ hq)) r
  rcases List.mem_cons.mp hq with rfl | hq
  · exact .tail _ (.tail _ (.head _))
  rcases List.mem_cons.mp hq with rfl | hq
  · exact .tail _ (.tail _ (.tail _ (.head _)))
  rcases List.mem_cons.mp hq with rfl | hq
  · exact .tail _ (.tail _ (.tail _ (.tail _ (.head _))))
  rcases List.mem_cons.mp hq with rfl | hq
  · exact .head _
  rcases List.mem_cons.mp hq with rfl | hq
  · exact .tail _ (.head _)
  · exact .tail _ (.tail _ (.tail _ (.tail _ (.tail _ hq))))
theorem comp_end0 {I C D : Addr} {oI oC oD : Obj} {news₁ : List (Addr × Obj)} {s₁ : Shared} {h : Heap} {tk : Nat} {y : Value} {rest : Value → List (Addr × Obj) → Prop}
    (F : Fr h₀ L h m) (N : News h₀ L h ((I, oI) :: (C, oC) :: (D, oD) :: news₁)) (off : LCg.Off3 I C D news₁)
    (r : rest y news₁) : LCg.CompEnd h₀ L m s₁ I oI C oC D oD (fun nw => ∀ p ∈ news₁, p ∈ nw) rest y { s₁ with heap := h, toks := tk } :=
  LCg.CompEnd.intro F N news₁ (fun _ hq => hq) off (fun _ hq => hq) r
end
end Mine
end
section
local macro_rules | `(tactic| walk_at "mine dummy 10 0") => `(tactic| skip)
local macro_rules | `(tactic| walk_at "mine dummy 10 1") => `(tactic| skip)
local macro_rules | `(tactic| walk_at "mine dummy 10 2") => `(tactic| skip)
local macro_rules | `(tactic| walk_at "mine dummy 10 3") => `(tactic| skip)
local macro_rules | `(tactic| walk_at "mine dummy 10 4") => `(tactic| skip)
local macro_rules | `(tactic| walk_at "mine dummy 10 5") => `(tactic| skip)
local macro_rules | `(tactic| walk_at "mine dummy 10 6") => `(tactic| skip)
local macro_rules | `(tactic| walk_at "mine dummy 10 7") => `(tactic| skip)
local macro_rules | `(tactic| walk_at "mine dummy 10 8") => `(tactic| skip)
local macro_rules | `(tactic| walk_at "mine dummy 10 9") => `(tactic| skip)
local macro_rules | `(tactic| walk_at "mine dummy 10 10") => `(tactic| skip)
local macro_rules | `(tactic| walk_at "mine dummy 10 11") => `(tactic| skip)
local macro_rules | `(tactic| walk_at "mine dummy 10 12") => `(tactic| skip)
local macro_rules | `(tactic| walk_at "mine dummy 10 13") => `(tactic| skip)
local macro_rules | `(tactic| walk_at "mine dummy 10 14") => `(tactic| skip)
local macro_rules | `(tactic| walk_at "mine dummy 10 15") => `(tactic| skip)
local macro_rules | `(tactic| walk_at "mine dummy 10 16") => `(tactic| skip)
local macro_rules | `(tactic| walk_at "mine dummy 10 17") => `(tactic| skip)
local macro_rules | `(tactic| walk_at "mine dummy 10 18") => `(tactic| skip)
local macro_rules | `(tactic| walk_at "mine dummy 10 19") => `(tactic| skip)
local macro_rules | `(tactic| walk_at "mine dummy 10 20") => `(tactic| skip)
local macro_rules | `(tactic| walk_at "mine dummy 10 21") => `(tactic| skip)
local macro_rules | `(tactic| walk_at "mine dummy 10 22") => `(tactic| skip)
local macro_rules | `(tactic| walk_at "mine dummy 10 23") => `(tactic| skip)
local macro_rules | `(tactic| walk_at "mine dummy 10 24") => `(tactic| skip)
local macro_rules | `(tactic| walk_at "mine dummy 10 25") => `(tactic| skip)
local macro_rules | `(tactic| walk_at "mine dummy 10 26") => `(tactic| skip)
local macro_rules | `(tactic| walk_at "mine dummy 10 27") => `(tactic| skip)
local macro_rules | `(tactic| walk_at "mine dummy 10 28") => `(tactic| skip)
local macro_rules | `(tactic| walk_at "mine dummy 10 29") => `(tactic| skip)
local macro_rules | `(tactic| walk_at "mine dummy 10 30") => `(tactic| skip)
local macro_rules | `(tactic| walk_at "mine dummy 10 31") => `(tactic| skip)
local macro_rules | `(tactic| walk_at "mine dummy 10 32") => `(tactic| skip)
local macro_rules | `(tactic| walk_at "mine dummy 10 33") => `(tactic| skip)
local macro_rules | `(tactic| walk_at "mine dummy 10 34") => `(tactic| skip)
local macro_rules | `(tactic| walk_at "mine dummy 10 35") => `(tactic| skip)
local macro_rules | `(tactic| walk_at "mine dummy 10 36") => `(tactic| skip)
local macro_rules | `(tactic| walk_at "mine dummy 10 37") => `(tactic| skip)
local macro_rules | `(tactic| walk_at "mine dummy 10 38") => `(tactic| skip)
local macro_rules | `(tactic| walk_at "mine dummy 10 39") => `(tactic| skip)
local macro_rules | `(tactic| walk_at "mine dummy 10 40") => `(tactic| skip)
local macro_rules | `(tactic| walk_at "mine dummy 10 41") => `(tactic| skip)
local macro_rules | `(tactic| walk_at "mine dummy 10 42") => `(tactic| skip)
local macro_rules | `(tactic| walk_at "mine dummy 10 43") => `(tactic| skip)
local macro_rules | `(tactic| walk_at "mine dummy 10 44") => `(tactic| skip)
local macro_rules | `(tactic| walk_at "mine dummy 10 45") => `(tactic| skip)
local macro_rules | `(tactic| walk_at "mine dummy 10 46") => `(tactic| skip)
local macro_rules | `(tactic| walk_at "mine dummy 10 47") => `(tactic| skip)
local macro_rules | `(tactic| walk_at "mine dummy 10 48") => `(tactic| skip)
local macro_rules | `(tactic| walk_at "mine dummy 10 49") => `(tactic| skip)
local macro_rules | `(tactic| walk_at "mine dummy 10 50") => `(tactic| skip)
local macro_rules | `(tactic| walk_at "mine dummy 10 51") => `(tactic| skip)
local macro_rules | `(tactic| walk_at "mine dummy 10 52") => `(tactic| skip)
local macro_rules | `(tactic| walk_at "mine dummy 10 53") => `(tactic| skip)
local macro_rules | `(tactic| walk_at "mine dummy 10 54") => `(tactic| skip)
local macro_rules | `(tactic| walk_at "mine dummy 10 55") => `(tactic| skip)
local macro_rules | `(tactic| walk_at "mine dummy 10 56") => `(tactic| skip)
local macro_rules | `(tactic| walk_at "mine dummy 10 57") => `(tactic| skip)
local macro_rules | `(tactic| walk_at "mine dummy 10 58") => `(tactic| skip)
local macro_rules | `(tactic| walk_at "mine dummy 10 59") => `(tactic| skip)
local macro_rules | `(tactic| walk_at "mine dummy 10 60") => `(tactic| skip)
local macro_rules | `(tactic| walk_at "mine dummy 10 61") => `(tactic| skip)
local macro_rules | `(tactic| walk_at "mine dummy 10 62") => `(tactic| skip)
local macro_rules | `(tactic| walk_at "mine dummy 10 63") => `(tactic| skip)
local macro_rules | `(tactic| walk_at "mine dummy 10 64") => `(tactic| skip)
local macro_rules | `(tactic| walk_at "mine dummy 10 65") => `(tactic| skip)
local macro_rules | `(tactic| walk_at "mine dummy 10 66") => `(tactic| skip)
local macro_rules | `(tactic| walk_at "mine dummy 10 67") => `(tactic| skip)
local macro_rules | `(tactic| walk_at "mine dummy 10 68") => `(tactic| skip)
local macro_rules | `(tactic| walk_at "mine dummy 10 69") => `(tactic| skip)
local macro_rules | `(tactic| walk_at "mine dummy 10 70") => `(tactic| skip)
local macro_rules | `(tactic| walk_at "mine dummy 10 71") => `(tactic| skip)
local macro_rules | `(tactic| walk_at "mine dummy 10 72") => `(tactic| skip)
local macro_rules | `(tactic| walk_at "mine dummy 10 73") => `(tactic| skip)
local macro_rules | `(tactic| walk_at "mine dummy 10 74") => `(tactic| skip)
local macro_rules | `(tactic| walk_at "mine dummy 10 75") => `(tactic| skip)
local macro_rules | `(tactic| walk_at "mine dummy 10 76") => `(tactic| skip)
local macro_rules | `(tactic| walk_at "mine dummy 10 77") => `(tactic| skip)
local macro_rules | `(tactic| walk_at "mine dummy 10 78") => `(tactic| skip)
local macro_rules | `(tactic| walk_at "mine dummy 10 79") => `(tactic| skip)
local macro_rules | `(tactic| walk_at "mine dummy 10 80") => `(tactic| skip)
local macro_rules | `(tactic| walk_at "mine dummy 10 81") => `(tactic| skip)
local macro_rules | `(tactic| walk_at "mine dummy 10 82") => `(tactic| skip)
local macro_rules | `(tactic| walk_at "mine dummy 10 83") => `(tactic| skip)
local macro_rules | `(tactic| walk_at "mine dummy 10 84") => `(tactic| skip)
local macro_rules | `(tactic| walk_at "mine dummy 10 85") => `(tactic| skip)
local macro_rules | `(tactic| walk_at "mine dummy 10 86") => `(tactic| skip)
local macro_rules | `(tactic| walk_at "mine dummy 10 87") => `(tactic| skip)
local macro_rules | `(tactic| walk_at "mine dummy 10 88") => `(tactic| skip)
local macro_rules | `(tactic| walk_at "mine dummy 10 89") => `(tactic| skip)
local macro_rules | `(tactic| walk_at "mine dummy 10 90") => `(tactic| skip)
local macro_rules | `(tactic| walk_at "mine dummy 10 91") => `(tactic| skip)
local macro_rules | `(tactic| walk_at "mine dummy 10 92") => `(tactic| skip)
local macro_rules | `(tactic| walk_at "mine dummy 10 93") => `(tactic| skip)
local macro_rules | `(tactic| walk_at "mine dummy 10 94") => `(tactic| skip)
local macro_rules | `(tactic| walk_at "mine dummy 10 95") => `(tactic| skip)
local macro_rules | `(tactic| walk_at "mine dummy 10 96") => `(tactic| skip)
local macro_rules | `(tactic| walk_at "mine dummy 10 97") => `(tactic| skip)
local macro_rules | `(tactic| walk_at "mine dummy 10 98") => `(tactic| skip)
local macro_rules | `(tactic| walk_at "mine dummy 10 99") => `(tactic| skip)
local macro_rules | `(tactic| walk_at "mine dummy 10 100") => `(tactic| skip)
local macro_rules | `(tactic| walk_at "mine dummy 10 101") => `(tactic| skip)
local macro_rules | `(tactic| walk_at "mine dummy 10 102") => `(tactic| skip)
local macro_rules | `(tactic| walk_at "mine dummy 10 103") => `(tactic| skip)
local macro_rules | `(tactic| walk_at "mine dummy 10 104") => `(tactic| skip)
local macro_rules | `(tactic| walk_at "mine dummy 10 105") => `(tactic| skip)
local macro_rules | `(tactic| walk_at "mine dummy 10 106") => `(tactic| skip)
local macro_rules | `(tactic| walk_at "mine dummy 10 107") => `(tactic| skip)
local macro_rules | `(tactic| walk_at "mine dummy 10 108") => `(tactic| skip)
local macro_rules | `(tactic| walk_at "mine dummy 10 109") => `(tactic| skip)
local macro_rules | `(tactic| walk_at "mine dummy 10 110") => `(tactic| skip)
local macro_rules | `(tactic| walk_at "mine dummy 10 111") => `(tactic| skip)
local macro_rules | `(tactic| walk_at "mine dummy 10 112") => `(tactic| skip)
local macro_rules | `(tactic| walk_at "mine dummy 10 113") => `(tactic| skip)
local macro_rules | `(tactic| walk_at "mine dummy 10 114") => `(tactic| skip)
local macro_rules | `(tactic| walk_at "mine dummy 10 115") => `(tactic| skip)
local macro_rules | `(tactic| walk_at "mine dummy 10 116") => `(tactic| skip)
local macro_rules | `(tactic| walk_at "mine dummy 10 117") => `(tactic| skip)
local macro_rules | `(tactic| walk_at "mine dummy 10 118") => `(tactic| skip)
local macro_rules | `(tactic| walk_at "mine dummy 10 119") => `(tactic| skip)
local macro_rules | `(tactic| walk_at "mine dummy 10 120") => `(tactic| skip)
local macro_rules | `(tactic| walk_at "mine dummy 10 121") => `(tactic| skip)
local macro_rules | `(tactic| walk_at "mine dummy 10 122") => `(tactic| skip)
local macro_rules | `(tactic| walk_at "mine dummy 10 123") => `(tactic| skip)
local macro_rules | `(tactic| walk_at "mine dummy 10 124") => `(tactic| skip)
local macro_rules | `(tactic| walk_at "mine dummy 10 125") => `(tactic| skip)
local macro_rules | `(tactic| walk_at "mine dummy 10 126") => `(tactic| skip)
local macro_rules | `(tactic| walk_at "mine dummy 10 127") => `(tactic| skip)
local macro_rules | `(tactic| walk_at "mine dummy 10 128") => `(tactic| skip)
local macro_rules | `(tactic| walk_at "mine dummy 10 129") => `(tactic| skip)
local macro_rules | `(tactic| walk_at "mine dummy 10 130") => `(tactic| skip)
local macro_rules | `(tactic| walk_at "mine dummy 10 131") => `(tactic| skip)
open PySem PySem.W PyProof.Rows
set_option maxRecDepth 100000
set_option maxHeartbeats 4000000
namespace Mine
local macro_rules | `(tactic| walk_at "getMethod ref") => `(tactic| (k_here; k_dflt (first | (refine' getItems_TT ?N ?T ?_; (case N => k_asm); (case T => assumption)) | (refine' getValues_TT ?N ?T ?_; (case N => k_asm); (case T => assumption)))))
local macro_rules | `(tactic| walk_at "call builtin:dict.items") => `(tactic| (k_here; k_dflt (refine' callItems_TT ?F ?N ?T ?_; (case F => k_asm); (case N => k_asm); (case T => assumption)); intro v' h' F' N'; (try k_sweep)))
local macro_rules | `(tactic| walk_at "eval ListComp") => `(tactic| (k_here; k_dflt (refine' comp_eval ?F0 ?c1 ?c2 ?c3 ?c4 ?_; (case F0 => k_asm); (case c1 => with_unfolding_all rfl); (case c2 => decide); (case c3 => rfl); (case c4 => decide))))
theorem sub_KT {prog : Program} {w : World} {A : Around} {E : Value → Shared → Prop} {s : Shared} {value slice : PySem.Expr} {h₀ : Heap} {L a : Addr} {nw : List (Addr × Obj)} {n : Int} {u : Tok} {Q : Value → Shared → Prop} (N : News h₀ L s.heap nw) (hK : KT prog w nw a n)
    (h : ∀ t, Q (.int n t) s) (hs : subscripted slice false (.ref a) (.int 1 u) = operate [.ref a, .int 1 u] (getItem (.ref a) (.int 1 u)) := by with_unfolding_all rfl) :
    wpAny (model prog w) A (subscriptTail value slice (.ref a) (.int 1 u)) Q E s := by
  obtain ⟨ok, hm, hc, items, k, hd, hi⟩ := hK
  have ho := (N _ hm).1
  have he : ∃ t1 t2 t3, items.toList = [.str (Str.ofString "at") t1, .int n t2, .str (Str.ofString "sum") t3] := by
    unfold keyOf at hi
    generalize items.toList = vs at hi
    cases hi with | cons h1 r1 => cases r1 with | cons h2 r2 => cases r2 with | cons h3 r3 => cases r3 with | nil =>
      obtain ⟨t1, rfl⟩ := Value.isStrOf_shape h1
      obtain ⟨t2, rfl⟩ := Value.isInt_shape h2
      obtain ⟨t3, rfl⟩ := Value.isStrOf_shape h3
      exact ⟨t1, t2, t3, rfl⟩
  obtain ⟨t1, t2, t3, he⟩ := he
  have hit : items = [Value.str (Str.ofString "at") t1, .int n t2, .str (Str.ofString "sum") t3].toArray := by rw [← he, Array.toArray_toList]
  exact item_tupleT (l := [Value.str (Str.ofString "at") t1, .int n t2, .str (Str.ofString "sum") t3]) (k := 1) (j := 1) ⟨ok, ho, hc, k, by rw [hd, hit]⟩ (by decide) (by decide) rfl rfl (h t2) hs
/-- a cell of the ledger -/
def CellIs (nw : List (Addr × Obj)) (c : Addr) (v : Value) : Prop := ∃ o, (c, o) ∈ nw ∧ o.data = .cell (some v)
theorem eval_cell {M : Model} {A : Around} {E : Value → Shared → Prop} {s : Shared} {env : Env} {scope : Scope} {cl : List (Str × Addr)} {C c : Addr} {y : Str} {pos : Pos} {v : Value} {Q : Value → Shared → Prop} {h₀ : Heap} {L : Addr} {nw nw' : List (Addr × Obj)} (N : News h₀ L s.heap nw') (hc : cl.lookup y = some c) (CI : CellIs nw c v) (hs : ∀ p ∈ nw, p ∈ nw') (h : Q v s)
    (hk : (compEnvC scope cl C env).scope.kind = .function := by rfl) (hx : (compEnvC scope cl C env).kindOf y = some .cell := by rfl) (hb : (y == ("__debug__" : Str)) = false := by decide) :
    wpAny M A (eval (.Name y pos) (compEnvC scope cl C env)) Q E s := let ⟨_, hm, hd⟩ := CI; kcf_cell N hc (hs _ hm) hd h hk hx hb
local macro_rules | `(tactic| walk_at "eval Name") => `(tactic| (k_here; (with_reducible show wpAny _ _ (eval (Expr.Name _ _) (compEnvC _ _ _ _)) _ _ _); k_dflt (refine' eval_cell ?N ?c ?I ?s ?_ ?a ?b ?d; (case a => rfl); (case b => rfl); (case d => decide); (case c => rfl); (case N => k_asm); (case I => assumption); (case s => (intro p hp; (repeat (first | exact hp | refine List.Mem.tail _ ?_)))))))
local macro_rules | `(tactic| walk_at "subscriptTail") => `(tactic| (k_here; (with_reducible show wpAny _ _ (subscriptTail _ _ (Value.ref _) (Value.int 1 _)) _ _ _); k_dflt (refine' sub_KT ?N ?K ?_; (case N => k_asm); (case K => assumption)); intro tK))
def movedT (T : List (Int × Int)) (k g : Int) : List (Int × Int) := copyU (T.map fun p => (p.1 + k, p.2 * g))
theorem moved_con (w : World) (loose : List Str) (mean : ExcName → Option Value) (mg mb : Str → Option Value) (news : List (Addr × Obj)) (d : Addr) (T : List (Int × Int)) (V1 V2 : Int) (T1 T2 : Tok)
    (hT : TTg w news d T) (hTl : T.length ≤ 1000) (hg : V2 = 1 ∨ V2 = -1) :
    ConO w loose mean mg mb 51 0 news [.ref d, .int V1 T1, .int V2 T2] (fun news' r => ∃ e, r = .ref e ∧ TTg w news' e (movedT T V1 V2)) := by
  unfold ConO
  k_fill
  intro dp un gd cn cs a ccd cl outer A₀ base h₀ L m s Q E B F X N Tp hk hd hu hret
  refine wpAny_call ?_
  k_dflt (refine' code_defC ?k1 ?k2 ?k3 ?k4 ?k5 ?kA ?kF ?kK ?k6 ?k7 ?k8 ?k9 ?kB ?kD ?_ ?c2 ?c3 ?c4; (case kA => exact rfl); (case kF => exact rfl); (case kK => assumption); (case k1 => k_asm); (case k2 => k_asm); (case k3 => k_asm); (case k4 => k_asm); (case k5 => k_asm); (case k6 => k_is); (case k7 => k_is); (case k8 => ktr_room); (case k9 => exact BindsTo.of_eq rfl); (case kB => exact rfl); (case kD => decide +kernel); (case c2 => exact rfl); (case c3 => exact rfl); (case c4 => exact rfl); k_whole)
  intro g1 L1 h1 tk1 cells1 FG1 F1 N1 Y1 B1 X1 Tp1 l1
  k_cells Y1
  rename_i o1 o2 d1 d2
  simp only [List.cons_append, List.nil_append] at N1
  have hT1 : TTg w ((L1 + 1 + 1, o1) :: (L1 + 1, o2) :: news) d T := hT.sub fun p hp => .tail _ (.tail _ hp)
  replace d1 : o1.data = Data.cell (some (.int V2 T2)) := d1
  replace d2 : o2.data = Data.cell (some (.int V1 T1)) := d2
  try dsimp only
  try k_fold
  k_steps
  rename Fr _ _ _ _ => F2
  rename News _ _ _ _ => N2
  refine' comp_items (d := d) (T := T) (newsK := news) ?q1 ?q6 ?q7 ?q8 ?q9 hT ?q2 ?q3 ?q4 ?q5
    (fun i ys nw => ys.length = i ∧ ∀ (j : Nat) (v : Value), ys[j]? = some v → ∃ p b ak t, T[j]? = some p ∧ v = .ref b ∧ (b, ({ cls := .type "tuple", data := .seq #[.ref ak, .int (p.2 * V2) t] } : Obj)) ∈ nw ∧ KT Challenge.rw_gf0003_01.row.prog w nw ak (p.1 + V1))
    ?q10 (fun i ys nw hi hp => by rw [PySem.sizeLine_eq]; omega) ?_ ?_
  case q6 => exact F2
  case q7 => exact N2
  case q8 => exact .head _
  case q9 => exact fun p hp => .tail _ (.tail _ (.tail _ hp))
  case q10 => exact ⟨rfl, fun j v h => by simp at h⟩
  case q1 => rfl
  case q2 => rfl
  case q3 => rfl
  case q4 => rfl
  case q5 => decide
  · rintro i p ys news₁ I oI C oC D m₂ h tk E' ak t hp hPF hs hKT hoC ha hb F3 N3 off3 hne
    have hK3 : KT Challenge.rw_gf0003_01.row.prog w ((I, oI) :: (C, oC) :: (D, LCg.lst ys) :: news₁) ak p.1 := hKT.sub fun q hq => .tail _ (.tail _ (.tail _ (hs q (.tail _ (.tail _ (.tail _ hq))))))
    have hc1 : CellIs news₁ (L1 + 1 + 1) (.int V2 T2) := ⟨o1, hs _ (.tail _ (.head _)), d1⟩
    have hc2 : CellIs news₁ (L1 + 1) (.int V1 T1) := ⟨o2, hs _ (.tail _ (.tail _ (.head _))), d2⟩
    k_steps
    rename_i b1 _ l1' b2 _ F4 N4 l2'
    obtain ⟨hy1, hy2⟩ := hPF
    have hTj : T[ys.length]? = some p := by rw [hy1]; exact hp
    refine comp_end2 F4 N4 off3 ⟨Nat.ne_of_gt l1'.1, Nat.ne_of_gt l1'.2.1, Nat.ne_of_gt l1'.2.2.1⟩ ⟨Nat.ne_of_gt l2'.2.1, Nat.ne_of_gt l2'.2.2.1, Nat.ne_of_gt l2'.2.2.2.1⟩ ⟨by simp [hy1], fun j v hj => ?_⟩
    · by_cases hj' : j < ys.length
      · rw [List.getElem?_append_left hj'] at hj
        obtain ⟨p', b', ak', t', q1, q2, q3, q4⟩ := hy2 j v hj
        exact ⟨p', b', ak', t', q1, q2, .tail _ (.tail _ q3), q4.sub fun q hq => .tail _ (.tail _ hq)⟩
      · have hjl : j = ys.length := by
          have := (List.getElem?_eq_some_iff.mp hj).1
          simp at this
          omega
        subst hjl
        simp only [List.getElem?_concat_length, Option.some.injEq] at hj
        subst hj
        exact ⟨p, _, _, _, hTj, rfl, .head _, _, .tail _ (.head _), TupKeyObj.made (.cons (by simp [mixKind, mixIs, Value.isStrOf]) (.cons (by simp [mixKind, mixIs, Value.isInt]) (.cons (by simp [mixKind, mixIs, Value.isStrOf]) .nil)))⟩
  · rintro D h tk ys news' _ F3 N3 hs ⟨hy1, hy2⟩
    have hP : PairsIn Challenge.rw_gf0003_01.row.prog w ((D, LCg.lst ys) :: news') ys (T.map fun p => (p.1 + V1, p.2 * V2)) := by
      refine ⟨by simp [hy1], fun i v hv => ?_⟩
      obtain ⟨p', b', ak', t', q1, q2, q3, q4⟩ := hy2 i v hv
      exact ⟨(p'.1 + V1, p'.2 * V2), b', ak', t', by simp [q1], q2, .tail _ q3, q4.sub fun q hq => .tail _ hq⟩
    k_steps
    refine dict_of_list (vs := ys) (U := T.map fun p => (p.1 + V1, p.2 * V2)) (news := (D, LCg.lst ys) :: news') (ol := LCg.lst ys) rfl (by cb_units) (by simpa using hTl) (modules_low (Top.nolimit Tp1)) F3 N3 (.head _) rfl rfl rfl hP ?_
    intro d5 h5 news5 tk5 F5 N5 s5 T5
    k_steps
    exact hret _ _ _ _ (by assumption) (by assumption) (fun p hp => s5 p (.tail _ (hs p (.tail _ (.tail _ (.tail _ hp)))))) ⟨_, rfl, T5⟩
end Mine
end
section
local macro_rules | `(tactic| walk_at "mine dummy 11 0") => `(tactic| skip)
local macro_rules | `(tactic| walk_at "mine dummy 11 1") => `(tactic| skip)
local macro_rules | `(tactic| walk_at "mine dummy 11 2") => `(tactic| skip)
local macro_rules | `(tactic| walk_at "mine dummy 11 3") => `(tactic| skip)
local macro_rules | `(tactic| walk_at "mine dummy 11 4") => `(tactic| skip)
local macro_rules | `(tactic| walk_at "mine dummy 11 5") => `(tactic| skip)
local macro_rules | `(tactic| walk_at "mine dummy 11 6") => `(tactic| skip)
local macro_rules | `(tactic| walk_at "mine dummy 11 7") => `(tactic| skip)
local macro_rules | `(tactic| walk_at "mine dummy 11 8") => `(tactic| skip)
local macro_rules | `(tactic| walk_at "mine dummy 11 9") => `(tactic| skip)
local macro_rules | `(tactic| walk_at "mine dummy 11 10") => `(tactic| skip)
local macro_rules | `(tactic| walk_at "mine dummy 11 11") => `(tactic| skip)
local macro_rules | `(tactic| walk_at "mine dummy 11 12") => `(tactic| skip)
local macro_rules | `(tactic| walk_at "mine dummy 11 13") => `(tactic| skip)
local macro_rules | `(tactic| walk_at "mine dummy 11 14") => `(tactic| skip)
local macro_rules | `(tactic| walk_at "mine dummy 11 15") => `(tactic| skip)
local macro_rules | `(tactic| walk_at "mine dummy 11 16") => `(tactic| skip)
local macro_rules | `(tactic| walk_at "mine dummy 11 17") => `(tactic| skip)
local macro_rules | `(tactic| walk_at "mine dummy 11 18") => `(tactic| skip)
local macro_rules | `(tactic| walk_at "mine dummy 11 19") => `(tactic| skip)
local macro_rules | `(tactic| walk_at "mine dummy 11 20") => `(tactic| skip)
local macro_rules | `(tactic| walk_at "mine dummy 11 21") => `(tactic| skip)
local macro_rules | `(tactic| walk_at "mine dummy 11 22") => `(tactic| skip)
local macro_rules | `(tactic| walk_at "mine dummy 11 23") => `(tactic| skip)
local macro_rules | `(tactic| walk_at "mine dummy 11 24") => `(tactic| skip)
local macro_rules | `(tactic| walk_at "mine dummy 11 25") => `(tactic| skip)
local macro_rules | `(tactic| walk_at "mine dummy 11 26") => `(tactic| skip)
local macro_rules | `(tactic| walk_at "mine dummy 11 27") => `(tactic| skip)
local macro_rules | `(tactic| walk_at "mine dummy 11 28") => `(tactic| skip)
local macro_rules | `(tactic| walk_at "mine dummy 11 29") => `(tactic| skip)
local macro_rules | `(tactic| walk_at "mine dummy 11 30") => `(tactic| skip)
local macro_rules | `(tactic| walk_at "mine dummy 11 31") => `(tactic| skip)
local macro_rules | `(tactic| walk_at "mine dummy 11 32") => `(tactic| skip)
local macro_rules | `(tactic| walk_at "mine dummy 11 33") => `(tactic| skip)
local macro_rules | `(tactic| walk_at "mine dummy 11 34") => `(tactic| skip)
local macro_rules | `(tactic| walk_at "mine dummy 11 35") => `(tactic| skip)
local macro_rules | `(tactic| walk_at "mine dummy 11 36") => `(tactic| skip)
local macro_rules | `(tactic| walk_at "mine dummy 11 37") => `(tactic| skip)
local macro_rules | `(tactic| walk_at "mine dummy 11 38") => `(tactic| skip)
local macro_rules | `(tactic| walk_at "mine dummy 11 39") => `(tactic| skip)
local macro_rules | `(tactic| walk_at "mine dummy 11 40") => `(tactic| skip)
local macro_rules | `(tactic| walk_at "mine dummy 11 41") => `(tactic| skip)
local macro_rules | `(tactic| walk_at "mine dummy 11 42") => `(tactic| skip)
local macro_rules | `(tactic| walk_at "mine dummy 11 43") => `(tactic| skip)
local macro_rules | `(tactic| walk_at "mine dummy 11 44") => `(tactic| skip)
local macro_rules | `(tactic| walk_at "mine dummy 11 45") => `(tactic| skip)
local macro_rules | `(tactic| walk_at "mine dummy 11 46") => `(tactic| skip)
local macro_rules | `(tactic| walk_at "mine dummy 11 47") => `(tactic| skip)
local macro_rules | `(tactic| walk_at "mine dummy 11 48") => `(tactic| skip)
local macro_rules | `(tactic| walk_at "mine dummy 11 49") => `(tactic| skip)
local macro_rules | `(tactic| walk_at "mine dummy 11 50") => `(tactic| skip)
local macro_rules | `(tactic| walk_at "mine dummy 11 51") => `(tactic| skip)
local macro_rules | `(tactic| walk_at "mine dummy 11 52") => `(tactic| skip)
local macro_rules | `(tactic| walk_at "mine dummy 11 53") => `(tactic| skip)
local macro_rules | `(tactic| walk_at "mine dummy 11 54") => `(tactic| skip)
local macro_rules | `(tactic| walk_at "mine dummy 11 55") => `(tactic| skip)
local macro_rules | `(tactic| walk_at "mine dummy 11 56") => `(tactic| skip)
local macro_rules | `(tactic| walk_at "mine dummy 11 57") => `(tactic| skip)
local macro_rules | `(tactic| walk_at "mine dummy 11 58") => `(tactic| skip)
local macro_rules | `(tactic| walk_at "mine dummy 11 59") => `(tactic| skip)
local macro_rules | `(tactic| walk_at "mine dummy 11 60") => `(tactic| skip)
local macro_rules | `(tactic| walk_at "mine dummy 11 61") => `(tactic| skip)
local macro_rules | `(tactic| walk_at "mine dummy 11 62") => `(tactic| skip)
local macro_rules | `(tactic| walk_at "mine dummy 11 63") => `(tactic| skip)
local macro_rules | `(tactic| walk_at "mine dummy 11 64") => `(tactic| skip)
local macro_rules | `(tactic| walk_at "mine dummy 11 65") => `(tactic| skip)
local macro_rules | `(tactic| walk_at "mine dummy 11 66") => `(tactic| skip)
local macro_rules | `(tactic| walk_at "mine dummy 11 67") => `(tactic| skip)
local macro_rules | `(tactic| walk_at "mine dummy 11 68") => `(tactic| skip)
local macro_rules | `(tactic| walk_at "mine dummy 11 69") => `(tactic| skip)
local macro_rules | `(tactic| walk_at "mine dummy 11 70") => `(tactic| skip)
local macro_rules | `(tactic| walk_at "mine dummy 11 71") => `(tactic| skip)
local macro_rules | `(tactic| walk_at "mine dummy 11 72") => `(tactic| skip)
local macro_rules | `(tactic| walk_at "mine dummy 11 73") => `(tactic| skip)
local macro_rules | `(tactic| walk_at "mine dummy 11 74") => `(tactic| skip)
local macro_rules | `(tactic| walk_at "mine dummy 11 75") => `(tactic| skip)
local macro_rules | `(tactic| walk_at "mine dummy 11 76") => `(tactic| skip)
local macro_rules | `(tactic| walk_at "mine dummy 11 77") => `(tactic| skip)
local macro_rules | `(tactic| walk_at "mine dummy 11 78") => `(tactic| skip)
local macro_rules | `(tactic| walk_at "mine dummy 11 79") => `(tactic| skip)
local macro_rules | `(tactic| walk_at "mine dummy 11 80") => `(tactic| skip)
local macro_rules | `(tactic| walk_at "mine dummy 11 81") => `(tactic| skip)
local macro_rules | `(tactic| walk_at "mine dummy 11 82") => `(tactic| skip)
local macro_rules | `(tactic| walk_at "mine dummy 11 83") => `(tactic| skip)
local macro_rules | `(tactic| walk_at "mine dummy 11 84") => `(tactic| skip)
local macro_rules | `(tactic| walk_at "mine dummy 11 85") => `(tactic| skip)
local macro_rules | `(tactic| walk_at "mine dummy 11 86") => `(tactic| skip)
local macro_rules | `(tactic| walk_at "mine dummy 11 87") => `(tactic| skip)
local macro_rules | `(tactic| walk_at "mine dummy 11 88") => `(tactic| skip)
local macro_rules | `(tactic| walk_at "mine dummy 11 89") => `(tactic| skip)
local macro_rules | `(tactic| walk_at "mine dummy 11 90") => `(tactic| skip)
local macro_rules | `(tactic| walk_at "mine dummy 11 91") => `(tactic| skip)
local macro_rules | `(tactic| walk_at "mine dummy 11 92") => `(tactic| skip)
local macro_rules | `(tactic| walk_at "mine dummy 11 93") => `(tactic| skip)
local macro_rules | `(tactic| walk_at "mine dummy 11 94") => `(tactic| skip)
local macro_rules | `(tactic| walk_at "mine dummy 11 95") => `(tactic| skip)
local macro_rules | `(tactic| walk_at "mine dummy 11 96") => `(tactic| skip)
local macro_rules | `(tactic| walk_at "mine dummy 11 97") => `(tactic| skip)
local macro_rules | `(tactic| walk_at "mine dummy 11 98") => `(tactic| skip)
local macro_rules | `(tactic| walk_at "mine dummy 11 99") => `(tactic| skip)
local macro_rules | `(tactic| walk_at "mine dummy 11 100") => `(tactic| skip)
local macro_rules | `(tactic| walk_at "mine dummy 11 101") => `(tactic| skip)
local macro_rules | `(tactic| walk_at "mine dummy 11 102") => `(tactic| skip)
local macro_rules | `(tactic| walk_at "mine dummy 11 103") => `(tactic| skip)
local macro_rules | `(tactic| walk_at "mine dummy 11 104") => `(tactic| skip)
local macro_rules | `(tactic| walk_at "mine dummy 11 105") => `(tactic| skip)
local macro_rules | `(tactic| walk_at "mine dummy 11 106") => `(tactic| skip)
local macro_rules | `(tactic| walk_at "mine dummy 11 107") => `(tactic| skip)
local macro_rules | `(tactic| walk_at "mine dummy 11 108") => `(tactic| skip)
local macro_rules | `(tactic| walk_at "mine dummy 11 109") => `(tactic| skip)
local macro_rules | `(tactic| walk_at "mine dummy 11 110") => `(tactic| skip)
local macro_rules | `(tactic| walk_at "mine dummy 11 111") => `(tactic| skip)
local macro_rules | `(tactic| walk_at "mine dummy 11 112") => `(tactic| skip)
local macro_rules | `(tactic| walk_at "mine dummy 11 113") => `(tactic| skip)
local macro_rules | `(tactic| walk_at "mine dummy 11 114") => `(tactic| skip)
local macro_rules | `(tactic| walk_at "mine dummy 11 115") => `(tactic| skip)
local macro_rules | `(tactic| walk_at "mine dummy 11 116") => `(tactic| skip)
local macro_rules | `(tactic| walk_at "mine dummy 11 117") => `(tactic| skip)
local macro_rules | `(tactic| walk_at "mine dummy 11 118") => `(tactic| skip)
local macro_rules | `(tactic| walk_at "mine dummy 11 119") => `(tactic| skip)
local macro_rules | `(tactic| walk_at "mine dummy 11 120") => `(tactic| skip)
local macro_rules | `(tactic| walk_at "mine dummy 11 121") => `(tactic| skip)
local macro_rules | `(tactic| walk_at "mine dummy 11 122") => `(tactic| skip)
local macro_rules | `(tactic| walk_at "mine dummy 11 123") => `(tactic| skip)
local macro_rules | `(tactic| walk_at "mine dummy 11 124") => `(tactic| skip)
local macro_rules | `(tactic| walk_at "mine dummy 11 125") => `(tactic| skip)
local macro_rules | `(tactic| walk_at "mine dummy 11 126") => `(tactic| skip)
local macro_rules | `(tactic| walk_at "mine dummy 11 127") => `(tactic| skip)
local macro_rules | `(tactic| walk_at "mine dummy 11 128") => `(tactic| skip)
local macro_rules | `(tactic| walk_at "mine dummy 11 129") => `(tactic| skip)
local macro_rules | `(tactic| walk_at "mine dummy 11 130") => `(tactic| skip)
local macro_rules | `(tactic| walk_at "mine dummy 11 131") => `(tactic| skip)
local macro_rules | `(tactic| walk_at "mine dummy 11 132") => `(tactic| skip)
local macro_rules | `(tactic| walk_at "mine dummy 11 133") => `(tactic| skip)
local macro_rules | `(tactic| walk_at "mine dummy 11 134") => `(tactic| skip)
local macro_rules | `(tactic| walk_at "mine dummy 11 135") => `(tactic| skip)
local macro_rules | `(tactic| walk_at "mine dummy 11 136") => `(tactic| skip)
local macro_rules | `(tactic| walk_at "mine dummy 11 137") => `(tactic| skip)
local macro_rules | `(tactic| walk_at "mine dummy 11 138") => `(tactic| skip)
local macro_rules | `(tactic| walk_at "mine dummy 11 139") => `(tactic| skip)
local macro_rules | `(tactic| walk_at "mine dummy 11 140") => `(tactic| skip)
local macro_rules | `(tactic| walk_at "mine dummy 11 141") => `(tactic| skip)
local macro_rules | `(tactic| walk_at "mine dummy 11 142") => `(tactic| skip)
local macro_rules | `(tactic| walk_at "mine dummy 11 143") => `(tactic| skip)
open PySem PySem.W PyProof.Rows
set_option maxRecDepth 100000
set_option maxHeartbeats 400000
namespace Mine
theorem newsLt {h₀ h : Heap} {L : Addr} {news : List (Addr × Obj)} (N : News h₀ L h news) : ∀ p ∈ news, p.1 < h.objs.size := fun p hp => Heap.lt_size (N p hp).1
section
variable {w : World} {loose : List Str} {mean : ExcName → Option Value} {mg mb : Str → Option Value} {f : Addr} {sz : Nat} {vs : List Value} {dp un : Nat} {gd : Option (List Code)} {cn : Str} {cs : Scope} {a : Addr} {ccd : Value} {cl : List (Str × Addr)} {outer : List Env} {A₀ : Around} {base h₀ : Heap} {L : Addr} {m : Str → Option Value} {news : List (Addr × Obj)} {s : Shared} {Q E : Value → Shared → Prop}
theorem conO_use {post : List (Addr × Obj) → Value → Prop} (C : ConO w loose mean mg mb f sz news vs post) (B : Below A₀ base outer h₀) (F : Fr h₀ L s.heap m) (X : (hd.heap_39 w.params).In h₀) (N : News h₀ L s.heap news) (T : Top hd.view_39 loose mean mg mb h₀) (hk : cs.kind = .function)
    (hd : dp + sz + 1 < recursionLimit) (hu : un + 8 * (sz + 1) < cLine)
    (ret : ∀ r news' h' tk', Fr h₀ L h' m → News h₀ L h' news' → (∀ p ∈ news, p ∈ news') → post news' r → Q r { s with heap := h', toks := tk' }) :
    wpAny (model Challenge.rw_gf0003_01.row.prog w) (ktrTop dp un gd cn cs L a ccd cl outer) (call (.ref f) vs) Q E s :=
  C dp un gd cn cs a ccd cl outer A₀ base h₀ L m s Q E B F X N T hk hd hu ret
end
def tabN (g : Int) : Nat → List (Int × Int)
  | 0 => [(0, 1)]
  | i + 1 => addT (tabN g i) (movedT (tabN g i) (1 + (i : Int)) g)
theorem tabN_len : ∀ i, i < 11 → (tabN 1 i).length ≤ 500 ∧ (tabN (-1) i).length ≤ 500 ∧ (movedT (tabN 1 i) (1 + (i : Int)) 1).length ≤ 500 ∧ (movedT (tabN (-1) i) (1 + (i : Int)) (-1)).length ≤ 500 := by decide +kernel
local macro_rules | `(tactic| walk_at "exec For Name Call cons nil") => `(tactic| (k_here; k_dflt (refine' For_turns ?F ?_; (case F => k_asm))))
local macro_rules | `(tactic| walk_at "eval Dict") => `(tactic| (k_here; (have lt' := newsLt (show News _ _ _ _ by k_asm)); k_dflt (refine' Dict_tup_made ?a ?F ?N ?b ?c ?d ?e ?f ?_; (case a => rfl); (case F => k_asm); (case N => k_asm); (case b => exact modules_low (Top.nolimit (by k_asm))); (case c => rfl); (case d => rfl); (case e => exact List.cons_ne_nil _ _); (case f => decide)); intro o' F' N' lo' hd'; (try k_sweep)))
local macro_rules | `(tactic| walk_at "mysteps") => `(tactic| repeat' (first | (k_unfold; (try dsimp only)) | (k_end; wrow_close) | ((fail_if_success (with_reducible show wpAny _ _ (call (Value.ref _) _) _ _ _)); walk1) | (dsimp only; (fail_if_success (with_reducible show wpAny _ _ (call (Value.ref _) _) _ _ _)); walk1) | (leave1; walk_say "STEP leave1"; try dsimp only) | fail "no step"))
theorem table_con (w : World) (loose : List Str) (mean : ExcName → Option Value) (mg mb : Str → Option Value) (news : List (Addr × Obj)) (V1 V2 : Int) (T1 T2 : Tok)
    (h1 : 0 ≤ V1 ∧ V1 ≤ 10) (hg : V2 = 1 ∨ V2 = -1) :
    ConO w loose mean mg mb 58 1 news [.int V1 T1, .int V2 T2] (fun news' r => ∃ e, r = .ref e ∧ TTg w news' e (tabN V2 V1.toNat)) := by
  unfold ConO
  k_fill
  intro dp un gd cn cs a ccd cl outer A₀ base h₀ L m s Q E B F X N Tp hk hd hu hret
  refine wpAny_call ?_
  k_dflt ktr_enter
  walk_at "mysteps"
  rename Fr _ _ _ _ => F2
  rename News _ _ _ _ => N2
  rename_i lt2 o2 lo2 hd2 D2 h2 l2
  refine stores_one (n := 0) (c := 1) (by cb_units) F2 N2 (.tail _ (.head _)) lo2 hd2 ⟨_, .head _, TupKeyObj.made (.cons (by simp [mixKind, mixIs, Value.isStrOf]) (.cons (by simp [mixKind, mixIs, Value.isInt]) (.cons (by simp [mixKind, mixIs, Value.isStrOf]) .nil)))⟩ ?_
  intro h3 news3 tk3 F3 N3 T3 K3
  walk_at "mysteps"
  rename Fr _ _ _ _ => F4
  rename News _ _ _ _ => N4
  rename IsRange _ _ _ _ _ _ _ _ => R4
  refine' range_turns (n := (V1 + 1 - 1).toNat) ?q1 R4 ?q2 ?q3 ?q4 ?q5
    (fun i m₁ news₁ => (∀ p ∈ news, p ∈ news₁) ∧ m₁ (Str.ofString "sign") = some (.int V2 T2) ∧ ∃ d, m₁ (Str.ofString "table") = some (.ref d) ∧ TTg w news₁ d (tabN V2 i)) ?q6 ?_ ?_
  case q1 => rfl
  case q2 => exact small_one (by omega) (by omega) (by omega) (by omega)
  case q3 => exact rangeSize_nat _ _
  case q4 => exact F4
  case q5 => exact N4
  case q6 => exact ⟨fun p hp => K3 p (.tail _ (.tail _ hp)) (Nat.ne_of_lt (lt2 p hp)), rfl, _, rfl, T3⟩
  · rintro i m₁ news₁ h₁ tk₁ own I oI t hi ⟨hs, hm1, d, hm2, hT⟩ hown hIo hcI hoff F₁ N₁
    rw [mset hm2, mset hm1] at F₁
    have hlen := tabN_len i (by omega)
    have hl : (tabN V2 i).length ≤ 500 ∧ (movedT (tabN V2 i) (1 + (i : Int)) V2).length ≤ 500 := by
      rcases hg with rfl | rfl
      · exact ⟨hlen.1, hlen.2.2.1⟩
      · exact ⟨hlen.2.1, hlen.2.2.2⟩
    walk_at "mysteps"
    rename Fr _ _ _ _ => F6
    rename News _ _ _ _ => N6
    k_dflt (refine' conO_use (moved_con w loose mean mg mb (own ++ news₁) d (tabN V2 i) (1 + (i : Int)) V2 t T2 (hT.sub fun q hq => List.mem_append_right _ hq) (by omega) hg) ?B ?F ?X ?N ?T ?hk ?hd ?hu ?_; (case B => k_asm); (case F => exact F6); (case X => k_asm); (case N => exact N6); (case T => k_asm); (case hk => first | exact rfl | assumption); (case hd => cb_room); (case hu => cb_units))
    clear F6 N6
    rintro r6 news6 h6 tk6 F6 N6 s6 ⟨e6, rfl, T6⟩
    (try dsimp only)
    (try k_fold)
    walk_at "mysteps"
    k_dflt (refine' conO_use (add_con w loose mean mg mb news6 d e6 (tabN V2 i) (movedT (tabN V2 i) (1 + (i : Int)) V2) (hT.sub fun q hq => s6 _ (List.mem_append_right _ hq)) T6 (by omega) (by omega)) ?B ?F ?X ?N ?T ?hk ?hd ?hu ?_; (case B => k_asm); (case F => exact F6); (case X => k_asm); (case N => exact N6); (case T => k_asm); (case hk => first | exact rfl | assumption); (case hd => cb_room); (case hu => cb_units))
    rintro r7 news7 h7 tk7 F7 N7 s7 ⟨e7, rfl, T7⟩
    (try dsimp only)
    (try k_fold)
    walk_at "mysteps"
    rename Fr _ _ _ _ => F8
    rename News _ _ _ _ => N8
    have hIn : (I, oI) ∈ news7 := s7 _ (s6 _ (List.mem_append_left _ hIo))
    refine LoopStepU.intro F8 (news₂ := off I news7) ?_ (fun q hq => by simpa using off_ne q hq) ⟨fun q hq => ?_, rfl, e7, rfl, ?_⟩
    · intro q hq
      rcases List.mem_append.mp hq with hq | hq
      · exact N8 q (s7 _ (s6 _ (List.mem_append_left _ hq)))
      · exact N8 q (off_sub q hq)
    · exact off_mem (s7 _ (s6 _ (List.mem_append_right _ (hs q hq)))) (hoff q (hs q hq))
    · exact T7.off N8 ((N8 _ hIn).1) (by rw [hcI]; decide) (by rw [hcI]; decide)
  · rintro h5 tk5 m5 news5 F5 N5 ⟨hs5, hm5, d5, hm6, hT5⟩
    rw [mset hm6, mset hm5] at F5
    walk_at "mysteps"
    refine hret _ _ _ _ (by assumption) (by assumption) hs5 ⟨_, rfl, ?_⟩
    rw [show V1.toNat = (V1 + 1 - 1).toNat by omega]
    exact hT5
end Mine
end
section
open PySem PySem.W PyProof.Rows PyProof.V
set_option maxRecDepth 100000
set_option maxHeartbeats 4000000
namespace Mine
/-- a tuple of so many items -/
def LotIs (nw : List (Addr × Obj)) (v : Value) (n : Nat) : Prop := ∃ b ob items k, v = .ref b ∧ (b, ob) ∈ nw ∧ ob.cls = .type "tuple" ∧ ob.data = .seq items k ∧ items.size = n
/-- tuples of these sizes -/
def LotsOf (nw : List (Addr × Obj)) (ys : List Value) (Ls : List Nat) : Prop := ys.length = Ls.length ∧ ∀ (j : Nat) (v : Value), ys[j]? = some v → ∃ n, Ls[j]? = some n ∧ LotIs nw v n
/-- a list of tuples of these sizes -/
def LotsIn (nw : List (Addr × Obj)) (l : Addr) (Ls : List Nat) : Prop := ∃ ol vs n, (l, ol) ∈ nw ∧ ol.cls = .type "list" ∧ ol.data = .seq vs.toArray n ∧ LotsOf nw vs Ls
theorem LotIs.sub {nw nw' : List (Addr × Obj)} {v : Value} {n : Nat} (h : LotIs nw v n) (hs : ∀ p ∈ nw, p ∈ nw') : LotIs nw' v n := let ⟨b, ob, items, k, h1, h2, r⟩ := h; ⟨b, ob, items, k, h1, hs _ h2, r⟩
theorem LotsOf.sub {nw nw' : List (Addr × Obj)} {ys : List Value} {Ls : List Nat} (h : LotsOf nw ys Ls) (hs : ∀ p ∈ nw, p ∈ nw') : LotsOf nw' ys Ls := ⟨h.1, fun j v e => let ⟨n, h1, h2⟩ := h.2 j v e; ⟨n, h1, h2.sub hs⟩⟩
theorem LotsIn.sub {nw nw' : List (Addr × Obj)} {l : Addr} {Ls : List Nat} (h : LotsIn nw l Ls) (hs : ∀ p ∈ nw, p ∈ nw') : LotsIn nw' l Ls := let ⟨ol, vs, n, h1, h2, h3, h4⟩ := h; ⟨ol, vs, n, hs _ h1, h2, h3, h4.sub hs⟩
theorem LotsOf.nil {nw : List (Addr × Obj)} : LotsOf nw [] [] := ⟨rfl, fun j v h => by simp at h⟩
theorem LotsOf.snoc {nw : List (Addr × Obj)} {ys : List Value} {Ls : List Nat} {v : Value} {n : Nat} (h : LotsOf nw ys Ls) (hv : LotIs nw v n) : LotsOf nw (ys ++ [v]) (Ls ++ [n]) := by
  refine ⟨by simp [h.1], fun j u hj => ?_⟩
  by_cases hj' : j < ys.length
  · rw [List.getElem?_append_left hj'] at hj
    obtain ⟨k, h1, h2⟩ := h.2 j u hj
    exact ⟨k, by rw [List.getElem?_append_left (by rw [← h.1]; exact hj')]; exact h1, h2⟩
  · have hjl : j = ys.length := by
      have := (List.getElem?_eq_some_iff.mp hj).1
      simp at this
      omega
    subst hjl
    simp only [List.getElem?_concat_length, Option.some.injEq] at hj
    subst hj
    exact ⟨n, by rw [h.1]; simp, hv⟩
section
variable {h₀ h : Heap} {L I : Addr} {nw : List (Addr × Obj)} {oI : Obj}
theorem LotIs.off {v : Value} {n : Nat} (x : LotIs nw v n) (N : News h₀ L h nw) (hI : h.get? I = some oI) (hc : ¬ (oI.cls = .type "tuple" ∧ ∃ items k, oI.data = .seq items k)) : LotIs (off I nw) v n := by
  obtain ⟨b, ob, items, k, h1, h2, h3, h4, r⟩ := x
  refine ⟨b, ob, items, k, h1, off_mem h2 ?_, h3, h4, r⟩
  intro e
  have e' : b = I := e
  have := (N _ h2).1
  rw [e', hI] at this
  cases this
  exact hc ⟨h3, _, _, h4⟩
theorem LotsOf.off {ys : List Value} {Ls : List Nat} (x : LotsOf nw ys Ls) (N : News h₀ L h nw) (hI : h.get? I = some oI) (hc : ¬ (oI.cls = .type "tuple" ∧ ∃ items k, oI.data = .seq items k)) : LotsOf (off I nw) ys Ls := ⟨x.1, fun j v e => let ⟨n, h1, h2⟩ := x.2 j v e; ⟨n, h1, h2.off N hI hc⟩⟩
theorem LotsIn.off {l : Addr} {Ls : List Nat} (x : LotsIn nw l Ls) (N : News h₀ L h nw) (hI : h.get? I = some oI) (hc : ¬ (oI.cls = .type "tuple" ∧ ∃ items k, oI.data = .seq items k)) (hl : l ≠ I) : LotsIn (off I nw) l Ls := let ⟨ol, vs, n, h1, h2, h3, h4⟩ := x; ⟨ol, vs, n, off_mem h1 hl, h2, h3, h4.off N hI hc⟩
end
section
variable {prog : Program} {w : World} {A : Around} {E : Value → Shared → Prop} {s : Shared} {R : Result → Shared → Prop} {h₀ : Heap} {L : Addr} {m : Str → Option Value} {env : Env}
theorem runOwn_ok {c : Code} {e : Env} {Q : Flow → Shared → Prop} (h : codeAny (model prog w) A c (fun r s' => ∃ f, r = .ok f ∧ Q f s') s) : wpAny (model prog w) A (runOwn c e) Q E s := by
  unfold runOwn
  refine wpAny_onRaise (wpAny_run (codeAny_mono h fun r s' hr => ?_))
  obtain ⟨f, rfl, hq⟩ := hr
  exact hq
open LCg in
/-- one turn of the outer clause: the inner list's lots, each with one item more -/
theorem comp_inner {elt i2 : PySem.Expr} {g : Comprehension} {x y : Str} {py : Pos} {scope : Scope} {pos : Pos} {cl : List (Str × Addr)} {C D l : Addr} {ol : Obj} {vs ys₀ : List Value} {nl : Nat} {news : List (Addr × Obj)} {xv : Value} {Ls Fs : List Nat} {Q : Flow → Shared → Prop}
    (hh : A.handled = none) (hkind : scope.kind = .function) (hxb : scope.names.lookup y = some .local) (hxy : ¬ x = y)
    (F : Fr h₀ L s.heap m) (N : News h₀ L s.heap news) (hl : (l, ol) ∈ news) (hlc : ol.cls = .type "list") (hld : ol.data = .seq vs.toArray nl) (hlo : LotsOf news vs Ls)
    (hC : ∃ mc, s.heap.Ns C mc ∧ mc x = some xv) (hD : s.heap.get? D = some (lst ys₀)) (hoff : ∀ p ∈ news, p.1 ≠ C ∧ p.1 ≠ D) (hCD : (@Ne Nat C D)) (hCs : C < s.heap.objs.size) (hDs : D < s.heap.objs.size) (hCL : C ≠ L) (hDL : D ≠ L) (hC₀ : h₀.get? C = none) (hD₀ : h₀.get? D = none)
    (hys : LotsOf news ys₀ Fs) (hsz : Fs.length + Ls.length ≤ 1000)
    (stepE : ∀ ys news₁ I oI oC m₂ h tk v k (E' : Value → Shared → Prop), (∀ p ∈ news, p ∈ news₁) → NsObj oC m₂ → m₂ x = some xv → m₂ y = some v → k ∈ Ls → LotIs news₁ v k → Fr h₀ L h m → News h₀ L h ((I, oI) :: (C, oC) :: (D, lst ys) :: news₁) → Off3 I C D news₁ → ((@Ne Nat I C) ∧ (@Ne Nat I D) ∧ (@Ne Nat C D)) →
      wpAny (model prog w) A (eval elt (compEnvC scope cl C env)) (CompEnd h₀ L m { s with heap := h, toks := tk } I oI C oC D (lst ys) (fun nw => ∀ p ∈ news₁, p ∈ nw) (fun y nw => LotIs nw y (k + 1))) E' { s with heap := h, toks := tk })
    (fin : ∀ h' tk ys news' mc, Fr h₀ L h' m → News h₀ L h' news' → h'.Ns C mc → h'.get? D = some (lst ys) → (∀ p ∈ news', p.1 ≠ C ∧ p.1 ≠ D) → (∀ p ∈ news, p ∈ news') → LotsOf news' ys (Fs ++ Ls.map (· + 1)) → Q .next { s with heap := h', toks := tk }) :
    wpAny (model prog w) A (holding [.ref l] (pyIter (.ref l)) >>= fun it2 => runOwn (.compStart (.ListComp elt [g, ⟨.Name y py, i2, [], 0⟩] scope pos) 1 it2 (.ref D) (compEnvC scope cl C env)) (compEnvC scope cl C env)) Q E s := by
  have hlist : s.heap.IsList l vs.toArray := ⟨ol, (N _ hl).1, hlc, _, hld⟩
  have hllt : l < s.heap.objs.size := Heap.lt_size (N _ hl).1
  have hLlt : L < s.heap.objs.size := F.ns.lt
  refine wpAny_bind (wpAny_holding (wpAny_pyIter_list hlist ?_))
  have old : ∀ b o, s.heap.get? b = some o → (s.heap.push { cls := .type "list_iterator", data := .fields #[.ref l, .int 0 0] }).get? b = some o := fun b o e => Heap.get?_push_of_some _ e
  have hit : (s.heap.push { cls := .type "list_iterator", data := .fields #[.ref l, .int 0 0] }).IsListIter s.heap.objs.size l 0 := ⟨_, Heap.get?_push_size _ rfl, rfl, rfl⟩
  refine runOwn_ok ?_
  have hIC : s.heap.objs.size ≠ C := Ne.symm (Nat.ne_of_lt hCs)
  have hID : s.heap.objs.size ≠ D := Ne.symm (Nat.ne_of_lt hDs)
  have loop : codeAny (model prog w) A (.compLoop (.ListComp elt [g, ⟨.Name y py, i2, [], 0⟩] scope pos) 1 (.ref s.heap.objs.size) (.ref D) (compEnvC scope cl C env)) (fun r s' => ∃ f, r = .ok f ∧ Q f s') { s with heap := s.heap.push { cls := .type "list_iterator", data := .fields #[.ref l, .int 0 0] } } := by
    refine comp_last (s := { s with heap := s.heap.push { cls := .type "list_iterator", data := .fields #[.ref l, .int 0 0] } }) (ys₀ := ys₀) (news := news) (compTurn_two _ _ _ _ _ _ _ _ _) (KTurns.ofWalks (Walks.list hh s.heap.objs.size l (Nat.ne_of_lt hllt) vs.toArray) (fun i v s Q E _ hq => wpAny_pure hq)) (fun i h st => let ⟨⟨_, he, _⟩, _⟩ := st; ⟨_, he⟩) ?_
      (fun mc => mc x = some xv) (fun i m₂ => ∃ v, vs[i]? = some v ∧ m₂ y = some v) ?_ (fun i ys nw => LotsOf nw ys (Fs ++ (Ls.take i).map (· + 1))) ?_ (F.push _) (fun p hp => ⟨old _ _ (N p hp).1, (N p hp).2⟩) (let ⟨mc, h1, h2⟩ := hC; ⟨mc, h1.at' fun o e => old _ _ e, h2⟩) (old _ _ hD) ?_ ⟨hIC, hID, hCD⟩ ?_ ?_ (Nat.ne_of_lt hLlt) hCL hDL (next_is_new F) hC₀ hD₀ ⟨hit, hlist.at fun o e => old _ _ e⟩ ?_ ?_ ?_
    · rintro i h h' oI nw ⟨⟨o, he, hr⟩, hr2⟩ e1 e2 hk N2 hs2
      refine ⟨⟨o, ?_, hr⟩, ol, (N2 _ (hs2 _ hl)).1, hlc, _, hld⟩
      rw [e2, ← e1]; exact he
    · rintro i v h tk' mc Q' E' hv hns hmc hq
      have hv' : vs[i]? = some v := by simpa using hv
      refine wpAny_assign_Name (wpAny_storeName_local (lookup_relabel_local hxb) hns (fun h' hn' hs' => ?_) (by simp [compEnvC, relabel, hkind]))
      exact hq h' _ _ hn' ⟨v, hv', by simp⟩ (by simpa [hxy] using hmc) fun c o hc e => hs'.extBut c o hc e
    · intro i ys nw hi hp
      have h1 := hp.1
      rw [List.length_append, List.length_map, List.length_take] at h1
      rw [PySem.sizeLine_eq]; omega
    · refine Off3.of fun p hp => ⟨Nat.ne_of_lt (Heap.lt_size (N p hp).1), hoff p hp⟩
    · intro hm2
      rcases List.mem_cons.mp hm2 with e | e
      · exact hIC e.symm
      · exact (hoff _ hl).1 (List.mem_singleton.mp e).symm
    · intro hm2
      rcases List.mem_cons.mp hm2 with e | e
      · exact hID e.symm
      · exact (hoff _ hl).2 (List.mem_singleton.mp e).symm
    · simpa using hys
    · rintro i ys news₁ oI oC m₂ h tk2 E' hi hp1 hs1 hoC ⟨v, hv, hy⟩ hx F2 N2 off2
      obtain ⟨k, hk, hlot⟩ := hlo.2 i v hv
      refine wpAny_mono (stepE ys news₁ _ oI oC m₂ h tk2 v k E' hs1 hoC hx hy (List.mem_of_getElem? hk) (hlot.sub hs1) F2 N2 off2 ⟨hIC, hID, hCD⟩) (fun z s₄ h₄ => ?_) fun _ _ e => e
      obtain ⟨h₄, tk₄, news₄, e1, F₄, N₄, off₄, hS₄, R₄⟩ := h₄
      refine ⟨h₄, tk₄, news₄, e1, F₄, N₄, off₄, hS₄, ?_⟩
      have := (hp1.sub hS₄).snoc R₄
      have hil : i < Ls.length := (List.getElem?_eq_some_iff.mp hk).1
      have hge : Ls[i] = k := (List.getElem?_eq_some_iff.mp hk).2
      rw [List.take_succ_eq_append_getElem hil, List.map_append, ← List.append_assoc, hge]
      exact this
    · intro h' tk2 ys news' mc F2 N2 hn2 _ hD2 off2 hs2 hp2
      refine ⟨_, rfl, fin h' tk2 ys news' mc F2 N2 hn2 hD2 (fun p hp => (off2.mem p hp).2) hs2 ?_⟩
      have e : vs.toArray.size = Ls.length := by simp [hlo.1]
      rw [e, List.take_length] at hp2
      exact hp2
  exact comp_start1 loop fun E' => wpAny_pyIter_listiter hit loop
theorem comp_inner_use {α β γ : Type} {a : Sem α} {b : α → Sem β} {c : β → Sem γ} {Q : γ → Shared → Prop} (h : wpAny (model prog w) A (a >>= b) (fun x s' => wpAny (model prog w) A (c x) Q E s') E s) : wpAny (model prog w) A (a >>= fun x => b x >>= c) Q E s := by
  rw [← bind_assoc]
  exact wpAny_bind h
open LCg in
/-- a comprehension of two clauses: over a range, then over the lots that a call gives back -/
theorem comp_lots {elt iter i2 : PySem.Expr} {x y : Str} {px py : Pos} {scope : Scope} {pos : Pos} {cl : List (Str × Addr)} {Q : Value → Shared → Prop} {r : Addr} {a₀ b₀ : Int} {t₀ u₀ v₀ : Tok} {n : Nat} {news : List (Addr × Obj)}
    (hh : A.handled = none) (F : Fr h₀ L s.heap m) (N : News h₀ L s.heap news) (hr : IsRange s.heap r a₀ b₀ 1 t₀ u₀ v₀) (hsmall : Builtin.Range.small a₀ b₀ 1 = true) (hn : Builtin.Range.rangeSize a₀ b₀ 1 = (n : Int))
    (hkind : scope.kind = .function) (hxa : scope.names.lookup x = some .local) (hxb : scope.names.lookup y = some .local) (hxy : ¬ x = y) (hfs : ∀ e v, foldedSetIterable i2 e v = pure v)
    (Lz fl : Nat → List Nat) (fl0 : fl 0 = []) (fls : ∀ i, i < n → fl (i + 1) = fl i ++ (Lz i).map (· + 1)) (hsz : ∀ i, i < n → (fl (i + 1)).length ≤ 1000)
    (step2 : ∀ i news₁ I oI C oC D oD m₂ h tk t (E' : Value → Shared → Prop), i < n → (∀ p ∈ news, p ∈ news₁) → NsObj oC m₂ → m₂ x = some (.int (a₀ + (i : Int)) t) → Fr h₀ L h m → News h₀ L h ((I, oI) :: (C, oC) :: (D, oD) :: news₁) → Off3 I C D news₁ → ((@Ne Nat I C) ∧ (@Ne Nat I D) ∧ (@Ne Nat C D)) →
      wpAny (model prog w) A (eval i2 (compEnvC scope cl C env)) (fun xv s₄ => ∃ l h' tk' news', xv = .ref l ∧ s₄ = { s with heap := h', toks := tk' } ∧ Fr h₀ L h' m ∧ News h₀ L h' news' ∧ (∀ p ∈ (I, oI) :: (C, oC) :: (D, oD) :: news₁, p ∈ news') ∧ LotsIn news' l (Lz i) ∧ l ≠ I ∧ l ≠ C ∧ l ≠ D) E' { s with heap := h, toks := tk })
    (stepE : ∀ i ys news₁ I oI C oC D m₂ h tk t v k (E' : Value → Shared → Prop), i < n → (∀ p ∈ news, p ∈ news₁) → NsObj oC m₂ → m₂ x = some (.int (a₀ + (i : Int)) t) → m₂ y = some v → k ∈ Lz i → LotIs news₁ v k → Fr h₀ L h m → News h₀ L h ((I, oI) :: (C, oC) :: (D, lst ys) :: news₁) → Off3 I C D news₁ → ((@Ne Nat I C) ∧ (@Ne Nat I D) ∧ (@Ne Nat C D)) →
      wpAny (model prog w) A (eval elt (compEnvC scope cl C env)) (CompEnd h₀ L m { s with heap := h, toks := tk } I oI C oC D (lst ys) (fun nw => ∀ p ∈ news₁, p ∈ nw) (fun y nw => LotIs nw y (k + 1))) E' { s with heap := h, toks := tk })
    (fin : ∀ D h tk ys news', s.heap.objs.size ≤ D → Fr h₀ L h m → News h₀ L h ((D, lst ys) :: news') → (∀ p ∈ news, p ∈ news') → LotsOf news' ys (fl n) → Q (.ref D) { s with heap := h, toks := tk }) :
    wpAny (model prog w) A (pyIter (.ref r)) (fun it s₂ => CompAt prog w A h₀ L env (.ListComp elt [⟨.Name x px, iter, [], 0⟩, ⟨.Name y py, i2, [], 0⟩] scope pos) scope cl Q it s₂) E s := by
  have hLlt : L < s.heap.objs.size := F.ns.lt
  refine wpAny_pyIter_range hr hsmall ?_
  have W : Walks prog w A s.heap.objs.size [s.heap.objs.size] [s.heap.objs.size] n (fun i v => i < n ∧ ∃ t, v = .int (a₀ + i * 1) t)
      (fun i h => IsRangeIter h s.heap.objs.size (a₀ + (i : Nat) * 1) ((n : Int) - (i : Nat)) 1) := (Walks.range hh _ a₀ 1 n).bound
  refine ⟨m, news, fun ys nw => (∀ p ∈ news, p ∈ nw) ∧ LotsOf nw ys (fl n), F.push _, fun p hp => ⟨Heap.get?_push_of_some _ (N p hp).1, (N p hp).2⟩, ?_, ?_⟩
  · intro D C h₁ tk hDge hCge hCD old F1 N1 hD1 hC1 hC0 hD0 hCL hDL
    rw [Heap.size_push] at hDge hCge
    have hit : IsRangeIter h₁ s.heap.objs.size (a₀ + ((0 : Nat) : Int) * 1) ((n : Int) - ((0 : Nat) : Int)) 1 := by
      refine old _ _ ?_
      rw [hn]
      simpa using Heap.get?_push_size _ rfl
    have hI0 : h₀.get? s.heap.objs.size = none := next_is_new F
    have hIC : s.heap.objs.size ≠ C := Nat.ne_of_lt hCge
    have hID : s.heap.objs.size ≠ D := Nat.ne_of_lt hDge
    generalize hIe : s.heap.objs.size = I at *
    have hnewsI : ∀ p ∈ news, p.1 ≠ I ∧ p.1 ≠ C ∧ p.1 ≠ D := fun p hp => by
      have hlt := Heap.lt_size (N p hp).1
      rw [hIe] at hlt
      exact ⟨Nat.ne_of_lt hlt, Nat.ne_of_lt (Nat.lt_trans hlt hCge), Nat.ne_of_lt (Nat.lt_trans hlt hDge)⟩
    have loop : codeAny (model prog w) A (.compLoop (.ListComp elt [⟨.Name x px, iter, [], 0⟩, ⟨.Name y py, i2, [], 0⟩] scope pos) 0 (.ref I) (.ref D) (compEnvC scope cl C env)) (LoopOk h₀ L m s C D (fun ys nw => (∀ p ∈ news, p ∈ nw) ∧ LotsOf nw ys (fl n))) { s with heap := h₁, toks := tk } := by
      refine comp_loop (s := { s with heap := h₁, toks := tk }) (compTurn_outer _ _ _ _ _ _ _ _ _ _) (KTurns.ofWalks W (fun i v s Q E _ hq => wpAny_pure hq))
        (fun i h => ∃ ys news₁ mc, Fr h₀ L h m ∧ News h₀ L h news₁ ∧ h.Ns C mc ∧ h.get? D = some (lst ys) ∧ Off3 I C D news₁ ∧ (∀ p ∈ news, p ∈ news₁) ∧ LotsOf news₁ ys (fl i)) ?_ ?_ hit (let ⟨mc, hc⟩ := hC1; ⟨[], news, mc, F1, N1, hc, hD1, Off3.of hnewsI, fun _ hp => hp, by rw [fl0]; exact LotsOf.nil⟩) ?_
      · rintro i h h' ⟨ys, news₁, mc, F2, N2, hn2, hD2, o2, s2, p2⟩ hk
        exact ⟨ys, news₁, mc, fr_but F2 hk (Nat.ne_of_lt hLlt) hI0, news_but N2 hk fun p hp => (o2.mem p hp).1, hn2.at' fun o e => hk _ o (by simpa using Ne.symm hIC) e, hk D _ (by simpa using Ne.symm hID) hD2, o2, s2, p2⟩
      · rintro i v h tk' E' hlt ⟨_, t, rfl⟩ hst ⟨ys, news₁, mc, F2, N2, hn2, hD2, o2, s2, p2⟩
        have e1 : a₀ + (i : Int) * 1 = a₀ + (i : Int) := by omega
        rw [e1]
        refine wpAny_assign_Name (wpAny_storeName_local (lookup_relabel_local hxa) hn2 (fun h3 hn3 hs3 => ?_) (by simp [compEnvC, relabel, hkind]))
        obtain ⟨oC, heC, hoC⟩ := ns_obj hn3
        have hst3 : IsRangeIter h3 I (a₀ + ((i + 1 : Nat) : Int) * 1) ((n : Int) - ((i + 1 : Nat) : Int)) 1 := hs3.extBut _ _ hIC hst
        have F3 : Fr h₀ L h3 m := F2.change hs3 hCL hC0
        have hD3 : h3.get? D = some (lst ys) := hs3.extBut _ _ (Ne.symm hCD) hD2
        have N3 : News h₀ L h3 news₁ := fun p hp => ⟨hs3.extBut _ _ (o2.mem p hp).2.1 (N2 p hp).1, (N2 p hp).2⟩
        obtain ⟨oI, hoI, hIc, hIb⟩ : ∃ oI, h3.get? I = some oI ∧ oI.cls = .type "range_iterator" ∧ ∀ h' : Heap, h'.get? I = some oI → IsRangeIter h' I (a₀ + ((i + 1 : Nat) : Int) * 1) ((n : Int) - ((i + 1 : Nat) : Int)) 1 := ⟨_, hst3, rfl, fun _ e => e⟩
        have N3' : News h₀ L h3 ((I, oI) :: (C, oC) :: (D, lst ys) :: news₁) := fun p hp => by
          rcases List.mem_cons.mp hp with rfl | hp
          · exact ⟨hoI, Ne.symm (Nat.ne_of_lt hLlt), hI0⟩
          rcases List.mem_cons.mp hp with rfl | hp
          · exact ⟨heC, hCL, hC0⟩
          rcases List.mem_cons.mp hp with rfl | hp
          · exact ⟨hD3, hDL, hD0⟩
          · exact N3 p hp
        refine wpAny_bind (wpAny_mono (step2 i news₁ I oI C oC D (lst ys) _ h3 _ t _ hlt s2 hoC (by simp) F3 N3' o2 ⟨hIC, hID, hCD⟩) (fun xv s₄ h₄ => ?_) fun _ _ e => e)
        obtain ⟨l, h4, tk4, news4, rfl, rfl, F4, N4, s4, hl4, hlI, hlC, hlD⟩ := h₄
        refine wpAny_bind (wpAny_standAt (wpAny_bind ?_))
        rw [hfs]
        refine wpAny_pure ?_
        have hI4 := (N4 _ (s4 _ (.head _)))
        have hC4 := (N4 _ (s4 _ (.tail _ (.head _))))
        have hD4 := (N4 _ (s4 _ (.tail _ (.tail _ (.head _)))))
        have hcC : ¬ (oC.cls = .type "tuple" ∧ ∃ items k, oC.data = .seq items k) := fun ⟨_, _, _, e⟩ => by
          obtain ⟨es, ep, hd, _⟩ := hoC
          rw [hd] at e; cases e
        have N5 : News h₀ L h4 (off D (off C news4)) := fun p hp => N4 p (off_sub _ (off_sub p hp))
        have N5' : News h₀ L h4 (off C news4) := fun p hp => N4 p (off_sub p hp)
        have hl5 : LotsIn (off D (off C news4)) l (Lz i) := (hl4.off N4 hC4.1 hcC hlC).off N5' hD4.1 (fun h => by have := h.1; simp at this) hlD
        have s5 : ∀ p ∈ (I, oI) :: news₁, p ∈ off D (off C news4) := fun p hp => by
          rcases List.mem_cons.mp hp with rfl | hp
          · exact off_mem (off_mem (s4 _ (.head _)) hIC) hID
          · exact off_mem (off_mem (s4 _ (.tail _ (.tail _ (.tail _ hp)))) (o2.mem p hp).2.1) (o2.mem p hp).2.2
        obtain ⟨ol, vs, nl, hl6, hlc, hld, hlo⟩ := hl5
        refine comp_inner_use ?_
        have s5' : ∀ p ∈ news, p ∈ off D (off C news4) := fun p hp => s5 p (.tail _ (s2 p hp))
        refine comp_inner (s := { s with heap := h4, toks := tk4 }) (ys₀ := ys) (xv := .int (a₀ + (i : Int)) t) hh hkind hxb hxy F4 N5 hl6 hlc hld hlo ⟨_, hoC.ns hC4.1, by simp⟩ hD4.1 (fun p hp => ⟨off_ne _ (off_sub p hp), off_ne p hp⟩) hCD (Heap.lt_size hC4.1) (Heap.lt_size hD4.1) hCL hDL hC0 hD0 (Fs := fl i) (p2.sub fun p hp => s5 p (.tail _ hp)) ?_ ?_ ?_
        · have h1 := hsz i hlt
          rw [fls i hlt, List.length_append, List.length_map] at h1
          exact h1
        · rintro ys' news₆ I' oI' oC' m₆ h6 tk6 v k E6 s6 hoC6 hx6 hy6 hk6 hl6 F6 N6 o6 ne6
          exact stepE i ys' news₆ I' oI' C oC' D m₆ h6 tk6 t v k E6 hlt (fun p hp => s6 p (s5' p hp)) hoC6 hx6 hy6 hk6 hl6 F6 N6 o6 ne6
        · rintro h7 tk7 ys7 news7 mc7 F7 N7 hn7 hD7 o7 s7 p7
          have hI7 := N7 _ (s7 _ (s5 _ (.head _)))
          refine wpAny_pure ⟨rfl, h7, tk7, rfl, hIb _ hI7.1, ys7, off I news7, mc7, F7, fun p hp => N7 p (off_sub p hp), hn7, hD7, Off3.of fun p hp => ⟨off_ne p hp, o7 p (off_sub p hp)⟩, fun p hp => off_mem (s7 p (s5' p hp)) (hnewsI p hp).1, ?_⟩
          rw [fls i hlt]
          exact p7.off N7 hI7.1 (fun h => by rw [hIc] at h; have := h.1; simp at this)
      · rintro h' tk' ⟨ys, news₁, mc, F2, N2, hn2, hD2, o2, s2, p2⟩
        refine ⟨h', tk', mc, ys, news₁, rfl, rfl, hn2, F2, fun p hp => ?_, fun p hp => (o2.mem p hp).2.1, s2, p2⟩
        rcases List.mem_cons.mp hp with rfl | hp
        · exact ⟨hD2, hDL, hD0⟩
        · exact N2 p hp
    exact codeAny_compStart_list loop (wpAny_pyIter_rangeiter hit loop)
  · rintro D h tk ys news' hDge F2 N2 ⟨hs2, hp2⟩
    rw [Heap.size_push] at hDge
    exact fin D h tk ys news' (Nat.le_of_succ_le hDge) F2 N2 hs2 hp2
theorem comp_end1 {I C D b1 : Addr} {oI oC oD o1 : Obj} {news₁ : List (Addr × Obj)} {s₁ : Shared} {h : Heap} {tk : Nat} {y : Value} {rest : Value → List (Addr × Obj) → Prop}
    (F : Fr h₀ L h m) (N : News h₀ L h ((b1, o1) :: (I, oI) :: (C, oC) :: (D, oD) :: news₁)) (off : LCg.Off3 I C D news₁) (n1 : b1 ≠ I ∧ b1 ≠ C ∧ b1 ≠ D)
    (r : rest y ((b1, o1) :: news₁)) : LCg.CompEnd h₀ L m s₁ I oI C oC D oD (fun nw => ∀ p ∈ news₁, p ∈ nw) rest y { s₁ with heap := h, toks := tk } := by
  refine LCg.CompEnd.intro F N ((b1, o1) :: news₁) (fun q hq => ?_) ⟨n1, off⟩ (fun q hq => .tail _ hq) r
  rcases List.mem_cons.mp hq with rfl | hq
  · exact .tail _ (.head _)
  rcases List.mem_cons.mp hq with rfl | hq
  · exact .tail _ (.tail _ (.head _))
  rcases List.mem_cons.mp hq with rfl | hq
  · exact .tail _ (.tail _ (.tail _ (.head _)))
  rcases List.mem_cons.mp hq with rfl | hq
  · exact .head _
  · exact .tail _ (.tail _ (.tail _ (.tail _ hq)))
end
end Mine
end
section
local macro_rules | `(tactic| walk_at "mine dummy 13 0") => `(tactic| skip)
local macro_rules | `(tactic| walk_at "mine dummy 13 1") => `(tactic| skip)
local macro_rules | `(tactic| walk_at "mine dummy 13 2") => `(tactic| skip)
local macro_rules | `(tactic| walk_at "mine dummy 13 3") => `(tactic| skip)
local macro_rules | `(tactic| walk_at "mine dummy 13 4") => `(tactic| skip)
local macro_rules | `(tactic| walk_at "mine dummy 13 5") => `(tactic| skip)
local macro_rules | `(tactic| walk_at "mine dummy 13 6") => `(tactic| skip)
local macro_rules | `(tactic| walk_at "mine dummy 13 7") => `(tactic| skip)
local macro_rules | `(tactic| walk_at "mine dummy 13 8") => `(tactic| skip)
local macro_rules | `(tactic| walk_at "mine dummy 13 9") => `(tactic| skip)
local macro_rules | `(tactic| walk_at "mine dummy 13 10") => `(tactic| skip)
local macro_rules | `(tactic| walk_at "mine dummy 13 11") => `(tactic| skip)
local macro_rules | `(tactic| walk_at "mine dummy 13 12") => `(tactic| skip)
local macro_rules | `(tactic| walk_at "mine dummy 13 13") => `(tactic| skip)
local macro_rules | `(tactic| walk_at "mine dummy 13 14") => `(tactic| skip)
local macro_rules | `(tactic| walk_at "mine dummy 13 15") => `(tactic| skip)
local macro_rules | `(tactic| walk_at "mine dummy 13 16") => `(tactic| skip)
local macro_rules | `(tactic| walk_at "mine dummy 13 17") => `(tactic| skip)
local macro_rules | `(tactic| walk_at "mine dummy 13 18") => `(tactic| skip)
local macro_rules | `(tactic| walk_at "mine dummy 13 19") => `(tactic| skip)
local macro_rules | `(tactic| walk_at "mine dummy 13 20") => `(tactic| skip)
local macro_rules | `(tactic| walk_at "mine dummy 13 21") => `(tactic| skip)
local macro_rules | `(tactic| walk_at "mine dummy 13 22") => `(tactic| skip)
local macro_rules | `(tactic| walk_at "mine dummy 13 23") => `(tactic| skip)
local macro_rules | `(tactic| walk_at "mine dummy 13 24") => `(tactic| skip)
local macro_rules | `(tactic| walk_at "mine dummy 13 25") => `(tactic| skip)
local macro_rules | `(tactic| walk_at "mine dummy 13 26") => `(tactic| skip)
local macro_rules | `(tactic| walk_at "mine dummy 13 27") => `(tactic| skip)
local macro_rules | `(tactic| walk_at "mine dummy 13 28") => `(tactic| skip)
local macro_rules | `(tactic| walk_at "mine dummy 13 29") => `(tactic| skip)
local macro_rules | `(tactic| walk_at "mine dummy 13 30") => `(tactic| skip)
local macro_rules | `(tactic| walk_at "mine dummy 13 31") => `(tactic| skip)
local macro_rules | `(tactic| walk_at "mine dummy 13 32") => `(tactic| skip)
local macro_rules | `(tactic| walk_at "mine dummy 13 33") => `(tactic| skip)
local macro_rules | `(tactic| walk_at "mine dummy 13 34") => `(tactic| skip)
local macro_rules | `(tactic| walk_at "mine dummy 13 35") => `(tactic| skip)
local macro_rules | `(tactic| walk_at "mine dummy 13 36") => `(tactic| skip)
local macro_rules | `(tactic| walk_at "mine dummy 13 37") => `(tactic| skip)
local macro_rules | `(tactic| walk_at "mine dummy 13 38") => `(tactic| skip)
local macro_rules | `(tactic| walk_at "mine dummy 13 39") => `(tactic| skip)
local macro_rules | `(tactic| walk_at "mine dummy 13 40") => `(tactic| skip)
local macro_rules | `(tactic| walk_at "mine dummy 13 41") => `(tactic| skip)
local macro_rules | `(tactic| walk_at "mine dummy 13 42") => `(tactic| skip)
local macro_rules | `(tactic| walk_at "mine dummy 13 43") => `(tactic| skip)
local macro_rules | `(tactic| walk_at "mine dummy 13 44") => `(tactic| skip)
local macro_rules | `(tactic| walk_at "mine dummy 13 45") => `(tactic| skip)
local macro_rules | `(tactic| walk_at "mine dummy 13 46") => `(tactic| skip)
local macro_rules | `(tactic| walk_at "mine dummy 13 47") => `(tactic| skip)
local macro_rules | `(tactic| walk_at "mine dummy 13 48") => `(tactic| skip)
local macro_rules | `(tactic| walk_at "mine dummy 13 49") => `(tactic| skip)
local macro_rules | `(tactic| walk_at "mine dummy 13 50") => `(tactic| skip)
local macro_rules | `(tactic| walk_at "mine dummy 13 51") => `(tactic| skip)
local macro_rules | `(tactic| walk_at "mine dummy 13 52") => `(tactic| skip)
local macro_rules | `(tactic| walk_at "mine dummy 13 53") => `(tactic| skip)
local macro_rules | `(tactic| walk_at "mine dummy 13 54") => `(tactic| skip)
local macro_rules | `(tactic| walk_at "mine dummy 13 55") => `(tactic| skip)
local macro_rules | `(tactic| walk_at "mine dummy 13 56") => `(tactic| skip)
local macro_rules | `(tactic| walk_at "mine dummy 13 57") => `(tactic| skip)
local macro_rules | `(tactic| walk_at "mine dummy 13 58") => `(tactic| skip)
local macro_rules | `(tactic| walk_at "mine dummy 13 59") => `(tactic| skip)
local macro_rules | `(tactic| walk_at "mine dummy 13 60") => `(tactic| skip)
local macro_rules | `(tactic| walk_at "mine dummy 13 61") => `(tactic| skip)
local macro_rules | `(tactic| walk_at "mine dummy 13 62") => `(tactic| skip)
local macro_rules | `(tactic| walk_at "mine dummy 13 63") => `(tactic| skip)
local macro_rules | `(tactic| walk_at "mine dummy 13 64") => `(tactic| skip)
local macro_rules | `(tactic| walk_at "mine dummy 13 65") => `(tactic| skip)
local macro_rules | `(tactic| walk_at "mine dummy 13 66") => `(tactic| skip)
local macro_rules | `(tactic| walk_at "mine dummy 13 67") => `(tactic| skip)
local macro_rules | `(tactic| walk_at "mine dummy 13 68") => `(tactic| skip)
local macro_rules | `(tactic| walk_at "mine dummy 13 69") => `(tactic| skip)
local macro_rules | `(tactic| walk_at "mine dummy 13 70") => `(tactic| skip)
local macro_rules | `(tactic| walk_at "mine dummy 13 71") => `(tactic| skip)
local macro_rules | `(tactic| walk_at "mine dummy 13 72") => `(tactic| skip)
local macro_rules | `(tactic| walk_at "mine dummy 13 73") => `(tactic| skip)
local macro_rules | `(tactic| walk_at "mine dummy 13 74") => `(tactic| skip)
local macro_rules | `(tactic| walk_at "mine dummy 13 75") => `(tactic| skip)
local macro_rules | `(tactic| walk_at "mine dummy 13 76") => `(tactic| skip)
local macro_rules | `(tactic| walk_at "mine dummy 13 77") => `(tactic| skip)
local macro_rules | `(tactic| walk_at "mine dummy 13 78") => `(tactic| skip)
local macro_rules | `(tactic| walk_at "mine dummy 13 79") => `(tactic| skip)
local macro_rules | `(tactic| walk_at "mine dummy 13 80") => `(tactic| skip)
local macro_rules | `(tactic| walk_at "mine dummy 13 81") => `(tactic| skip)
local macro_rules | `(tactic| walk_at "mine dummy 13 82") => `(tactic| skip)
local macro_rules | `(tactic| walk_at "mine dummy 13 83") => `(tactic| skip)
local macro_rules | `(tactic| walk_at "mine dummy 13 84") => `(tactic| skip)
local macro_rules | `(tactic| walk_at "mine dummy 13 85") => `(tactic| skip)
local macro_rules | `(tactic| walk_at "mine dummy 13 86") => `(tactic| skip)
local macro_rules | `(tactic| walk_at "mine dummy 13 87") => `(tactic| skip)
local macro_rules | `(tactic| walk_at "mine dummy 13 88") => `(tactic| skip)
local macro_rules | `(tactic| walk_at "mine dummy 13 89") => `(tactic| skip)
local macro_rules | `(tactic| walk_at "mine dummy 13 90") => `(tactic| skip)
local macro_rules | `(tactic| walk_at "mine dummy 13 91") => `(tactic| skip)
local macro_rules | `(tactic| walk_at "mine dummy 13 92") => `(tactic| skip)
local macro_rules | `(tactic| walk_at "mine dummy 13 93") => `(tactic| skip)
local macro_rules | `(tactic| walk_at "mine dummy 13 94") => `(tactic| skip)
local macro_rules | `(tactic| walk_at "mine dummy 13 95") => `(tactic| skip)
local macro_rules | `(tactic| walk_at "mine dummy 13 96") => `(tactic| skip)
local macro_rules | `(tactic| walk_at "mine dummy 13 97") => `(tactic| skip)
local macro_rules | `(tactic| walk_at "mine dummy 13 98") => `(tactic| skip)
local macro_rules | `(tactic| walk_at "mine dummy 13 99") => `(tactic| skip)
local macro_rules | `(tactic| walk_at "mine dummy 13 100") => `(tactic| skip)
local macro_rules | `(tactic| walk_at "mine dummy 13 101") => `(tactic| skip)
local macro_rules | `(tactic| walk_at "mine dummy 13 102") => `(tactic| skip)
local macro_rules | `(tactic| walk_at "mine dummy 13 103") => `(tactic| skip)
local macro_rules | `(tactic| walk_at "mine dummy 13 104") => `(tactic| skip)
local macro_rules | `(tactic| walk_at "mine dummy 13 105") => `(tactic| skip)
local macro_rules | `(tactic| walk_at "mine dummy 13 106") => `(tactic| skip)
local macro_rules | `(tactic| walk_at "mine dummy 13 107") => `(tactic| skip)
local macro_rules | `(tactic| walk_at "mine dummy 13 108") => `(tactic| skip)
local macro_rules | `(tactic| walk_at "mine dummy 13 109") => `(tactic| skip)
local macro_rules | `(tactic| walk_at "mine dummy 13 110") => `(tactic| skip)
local macro_rules | `(tactic| walk_at "mine dummy 13 111") => `(tactic| skip)
local macro_rules | `(tactic| walk_at "mine dummy 13 112") => `(tactic| skip)
local macro_rules | `(tactic| walk_at "mine dummy 13 113") => `(tactic| skip)
local macro_rules | `(tactic| walk_at "mine dummy 13 114") => `(tactic| skip)
local macro_rules | `(tactic| walk_at "mine dummy 13 115") => `(tactic| skip)
local macro_rules | `(tactic| walk_at "mine dummy 13 116") => `(tactic| skip)
local macro_rules | `(tactic| walk_at "mine dummy 13 117") => `(tactic| skip)
local macro_rules | `(tactic| walk_at "mine dummy 13 118") => `(tactic| skip)
local macro_rules | `(tactic| walk_at "mine dummy 13 119") => `(tactic| skip)
local macro_rules | `(tactic| walk_at "mine dummy 13 120") => `(tactic| skip)
local macro_rules | `(tactic| walk_at "mine dummy 13 121") => `(tactic| skip)
local macro_rules | `(tactic| walk_at "mine dummy 13 122") => `(tactic| skip)
local macro_rules | `(tactic| walk_at "mine dummy 13 123") => `(tactic| skip)
local macro_rules | `(tactic| walk_at "mine dummy 13 124") => `(tactic| skip)
local macro_rules | `(tactic| walk_at "mine dummy 13 125") => `(tactic| skip)
local macro_rules | `(tactic| walk_at "mine dummy 13 126") => `(tactic| skip)
local macro_rules | `(tactic| walk_at "mine dummy 13 127") => `(tactic| skip)
local macro_rules | `(tactic| walk_at "mine dummy 13 128") => `(tactic| skip)
local macro_rules | `(tactic| walk_at "mine dummy 13 129") => `(tactic| skip)
local macro_rules | `(tactic| walk_at "mine dummy 13 130") => `(tactic| skip)
local macro_rules | `(tactic| walk_at "mine dummy 13 131") => `(tactic| skip)
local macro_rules | `(tactic| walk_at "mine dummy 13 132") => `(tactic| skip)
local macro_rules | `(tactic| walk_at "mine dummy 13 133") => `(tactic| skip)
local macro_rules | `(tactic| walk_at "mine dummy 13 134") => `(tactic| skip)
local macro_rules | `(tactic| walk_at "mine dummy 13 135") => `(tactic| skip)
local macro_rules | `(tactic| walk_at "mine dummy 13 136") => `(tactic| skip)
local macro_rules | `(tactic| walk_at "mine dummy 13 137") => `(tactic| skip)
local macro_rules | `(tactic| walk_at "mine dummy 13 138") => `(tactic| skip)
local macro_rules | `(tactic| walk_at "mine dummy 13 139") => `(tactic| skip)
local macro_rules | `(tactic| walk_at "mine dummy 13 140") => `(tactic| skip)
local macro_rules | `(tactic| walk_at "mine dummy 13 141") => `(tactic| skip)
local macro_rules | `(tactic| walk_at "mine dummy 13 142") => `(tactic| skip)
local macro_rules | `(tactic| walk_at "mine dummy 13 143") => `(tactic| skip)
local macro_rules | `(tactic| walk_at "mine dummy 13 144") => `(tactic| skip)
local macro_rules | `(tactic| walk_at "mine dummy 13 145") => `(tactic| skip)
local macro_rules | `(tactic| walk_at "mine dummy 13 146") => `(tactic| skip)
local macro_rules | `(tactic| walk_at "mine dummy 13 147") => `(tactic| skip)
local macro_rules | `(tactic| walk_at "mine dummy 13 148") => `(tactic| skip)
local macro_rules | `(tactic| walk_at "mine dummy 13 149") => `(tactic| skip)
local macro_rules | `(tactic| walk_at "mine dummy 13 150") => `(tactic| skip)
local macro_rules | `(tactic| walk_at "mine dummy 13 151") => `(tactic| skip)
local macro_rules | `(tactic| walk_at "mine dummy 13 152") => `(tactic| skip)
local macro_rules | `(tactic| walk_at "mine dummy 13 153") => `(tactic| skip)
local macro_rules | `(tactic| walk_at "mine dummy 13 154") => `(tactic| skip)
local macro_rules | `(tactic| walk_at "mine dummy 13 155") => `(tactic| skip)
local macro_rules | `(tactic| walk_at "mine dummy 13 156") => `(tactic| skip)
local macro_rules | `(tactic| walk_at "mine dummy 13 157") => `(tactic| skip)
local macro_rules | `(tactic| walk_at "mine dummy 13 158") => `(tactic| skip)
local macro_rules | `(tactic| walk_at "mine dummy 13 159") => `(tactic| skip)
local macro_rules | `(tactic| walk_at "mine dummy 13 160") => `(tactic| skip)
local macro_rules | `(tactic| walk_at "mine dummy 13 161") => `(tactic| skip)
local macro_rules | `(tactic| walk_at "mine dummy 13 162") => `(tactic| skip)
local macro_rules | `(tactic| walk_at "mine dummy 13 163") => `(tactic| skip)
local macro_rules | `(tactic| walk_at "mine dummy 13 164") => `(tactic| skip)
local macro_rules | `(tactic| walk_at "mine dummy 13 165") => `(tactic| skip)
local macro_rules | `(tactic| walk_at "mine dummy 13 166") => `(tactic| skip)
local macro_rules | `(tactic| walk_at "mine dummy 13 167") => `(tactic| skip)
open PySem PySem.W PyProof.Rows PyProof.V
set_option maxRecDepth 100000
set_option maxHeartbeats 400000
namespace Mine
def lotF (rec : Int → Int → List Nat) (w : Int) (i : Nat) : List Nat := (List.range i).flatMap fun (j : Nat) => (rec (w - (1 + (j : Int))) (1 + (j : Int) - 1)).map (· + 1)
/-- the lots' sizes, with fuel -/
def lotN : Nat → Int → Int → List Nat
  | 0, _, _ => []
  | n + 1, w, m => if w = 0 then [0] else lotF (lotN n) w (min w m).toNat
theorem lotF_len : ∀ n, n < 11 → ∀ w : Nat, w < 11 → ∀ i, i < 11 → (lotF (lotN n) (w : Int) i).length ≤ 1000 := by decide +kernel
theorem lotN_le : ∀ (n : Nat) (w m : Int) (k : Nat), k ∈ lotN n w m → k ≤ n := by
  intro n
  induction n with
  | zero => intro w m k h; simp [lotN] at h
  | succ n ih =>
    intro w m k h
    unfold lotN at h
    split at h
    · simp at h; omega
    · simp only [lotF, List.mem_flatMap, List.mem_map] at h
      obtain ⟨j, _, k', hk', rfl⟩ := h
      have := ih _ _ _ hk'
      omega
theorem lotF_succ {rec : Int → Int → List Nat} {w : Int} {i : Nat} : lotF rec w (i + 1) = lotF rec w i ++ (rec (w - (1 + (i : Int))) (1 + (i : Int) - 1)).map (· + 1) := by
  simp [lotF, List.range_succ, List.flatMap_append]
def LotsC (w : World) (loose : List Str) (mean : ExcName → Option Value) (mg mb : Str → Option Value) (N : Nat) : Prop :=
  ∀ (V0 : Int) (T0 : Tok) (V1 : Int) (T1 : Tok) (news : List (Addr × Obj)), (0 ≤ V0 ∧ V0 ≤ 10 ∧ 0 ≤ V1 ∧ V1 ≤ 10) → V0.toNat < N →
    ConO w loose mean mg mb 63 V0.toNat news [.int V0 T0, .int V1 T1] (fun news' r => ∃ l, r = .ref l ∧ LotsIn news' l (lotN N V0 V1) ∧ ∀ p ∈ news, p.1 ≠ l)
theorem allLt_mem {d : Nat} : ∀ {l : List (Addr × Obj)}, AllLt d l → ∀ p ∈ l, p.1 < d
  | [], _, _, h => nomatch h
  | _ :: _, x, p, h => by
    rcases List.mem_cons.mp h with rfl | h
    · exact x.1
    · exact allLt_mem x.2 p h
local macro_rules | `(tactic| walk_at "eval ListComp") => `(tactic| (k_here; k_dflt (refine' comp_eval ?F0 ?c1 ?c2 ?c3 ?c4 ?_; (case F0 => k_asm); (case c1 => with_unfolding_all rfl); (case c2 => decide); (case c3 => rfl); (case c4 => decide))))
local macro_rules | `(tactic| walk_at "eval Name") => `(tactic| (k_here; (with_reducible show wpAny _ _ (eval (Expr.Name _ _) (compEnvC _ _ _ _)) _ _ _); k_dflt (refine' eval_cell ?N ?c ?I ?s ?_ ?a ?b ?d; (case a => rfl); (case b => rfl); (case d => decide); (case c => rfl); (case N => k_asm); (case I => assumption); (case s => (intro p hp; (repeat (first | exact hp | refine List.Mem.tail _ ?_)))))))
local macro_rules | `(tactic| walk_at "mysteps") => `(tactic| repeat' (first | (k_unfold; (try dsimp only)) | (k_end; wrow_close) | ((fail_if_success (with_reducible show wpAny _ _ (call (Value.ref _) _) _ _ _)); walk1) | (dsimp only; (fail_if_success (with_reducible show wpAny _ _ (call (Value.ref _) _) _ _ _)); walk1) | (leave1; walk_say "STEP leave1"; try dsimp only) | fail "no step"))
theorem lots_zero (w : World) (loose : List Str) (mean : ExcName → Option Value) (mg mb : Str → Option Value) : LotsC w loose mean mg mb 0 := by
  intro V0 T0 V1 T1 news hpre hsz
  omega
theorem lots_step (w : World) (loose : List Str) (mean : ExcName → Option Value) (mg mb : Str → Option Value) (M : Nat) (hM : M < 11) (ih : LotsC w loose mean mg mb M) : LotsC w loose mean mg mb (M + 1) := by
  intro V0 T0 V1 T1 news hpre hsz
  unfold ConO
  k_fill
  intro dp un gd cn cs a ccd cl outer A₀ base h₀ L m s Q E B F X N Tp hk hd hu hret
  refine wpAny_call ?_
  k_dflt (refine' code_defC ?k1 ?k2 ?k3 ?k4 ?k5 ?kA ?kF ?kK ?k6 ?k7 ?k8 ?k9 ?kB ?kD ?_ ?c2 ?c3 ?c4; (case kA => exact rfl); (case kF => exact rfl); (case kK => assumption); (case k1 => k_asm); (case k2 => k_asm); (case k3 => k_asm); (case k4 => k_asm); (case k5 => k_asm); (case k6 => k_is); (case k7 => k_is); (case k8 => ktr_room); (case k9 => exact BindsTo.of_eq rfl); (case kB => exact rfl); (case kD => decide +kernel); (case c2 => exact rfl); (case c3 => exact rfl); (case c4 => exact rfl); k_whole)
  intro g1 L1 h1 tk1 cells1 FG1 F1 N1 Y1 B1 X1 Tp1 l1
  k_cells Y1
  rename_i o1 d1
  replace d1 : o1.data = Data.cell (some (.int V0 T0)) := d1
  try simp only [List.cons_append, List.nil_append] at N1
  try dsimp only
  try k_fold
  walk_at "mysteps"
  · have hz : lotN (M + 1) V0 V1 = [] ++ [0] := by
      have h0 : V0 = 0 := by assumption
      simp [lotN, h0]
    refine hret _ _ _ _ (by assumption) (by assumption) (fun p hp => .tail _ (.tail _ (.tail _ hp))) ⟨_, rfl, ⟨_, [] ++ [_], _, .head _, rfl, rfl, ?_⟩, fun p hp => ?_⟩
    · rw [hz]
      exact LotsOf.nil.snoc ⟨_, _, #[], 0, rfl, .tail _ (.head _), rfl, rfl, rfl⟩
    · have hlt : AllLt _ news := (And.right (And.right (show _ < _ ∧ _ < _ ∧ AllLt _ news by assumption)))
      exact Nat.ne_of_lt (allLt_mem hlt p hp)
  · rename Fr _ _ _ _ => F2
    rename News _ _ _ _ => N2
    rename IsRange _ _ _ _ _ _ _ _ => R2
    have hz : V0 ≠ 0 := by assumption
    have lt2 : ∀ p ∈ news, p.1 < _ := fun p hp => newsLt N2 p (.tail _ hp)
    have hL1 : lotN (M + 1) V0 V1 = lotF (lotN M) V0 ((if V1 < V0 then V1 else V0) + 1 - 1).toNat := by
      have : (if V1 < V0 then V1 else V0) + 1 - 1 = min V0 V1 := by split <;> omega
      rw [this]
      simp [lotN, hz]
    have hn10 : ((if V1 < V0 then V1 else V0) + 1 - 1).toNat ≤ 10 := by split <;> omega
    have hnle : (((if V1 < V0 then V1 else V0) + 1 - 1).toNat : Int) ≤ V0 ∧ (((if V1 < V0 then V1 else V0) + 1 - 1).toNat : Int) ≤ V1 := by split <;> omega
    have hnb : (if V1 < V0 then V1 else V0) ≤ 10 ∧ 0 ≤ (if V1 < V0 then V1 else V0) := by split <;> omega
    generalize hb : (if V1 < V0 then V1 else V0) = B0 at *
    have hb0 := hnb
    refine' comp_lots (n := (B0 + 1 - 1).toNat) ?q1 F2 N2 R2 ?q2 ?q3 ?q4 ?q5 ?q6 ?q7 ?q8 (fun i => lotN M (V0 - (1 + (i : Int))) (1 + (i : Int) - 1)) (lotF (lotN M) V0) ?q9 ?q10 ?q11 ?_ ?_ ?_
    case q1 => rfl
    case q2 => exact small_one (by omega) (by omega) (by omega) (by omega)
    case q3 => exact rangeSize_nat _ _
    case q4 => rfl
    case q5 => rfl
    case q6 => rfl
    case q7 => decide
    case q8 => intro _ _; rfl
    case q9 => rfl
    case q10 => exact fun i _ => lotF_succ
    case q11 =>
      intro i hi
      have := lotF_len M hM V0.toNat (by omega) (i + 1) (by omega)
      rwa [Int.toNat_of_nonneg hpre.1] at this
    · rintro i news₁ I oI C oC D oD m₂ h tk t E' hi hs hoC hx F3 N3 off3 hne
      have hc1 : CellIs news₁ (L1 + 1) (.int V0 T0) := ⟨o1, hs _ (.head _), d1⟩
      clear F2 N2 R2 hret
      walk_at "mysteps"
      k_dflt (refine' conO_use (ih _ _ _ _ ((I, oI) :: (C, oC) :: (D, oD) :: news₁) ⟨by omega, by omega, by omega, by omega⟩ (by omega)) ?B ?F ?X ?N ?T ?hk ?hd ?hu ?_; (case B => k_asm); (case F => exact F3); (case X => k_asm); (case N => exact N3); (case T => k_asm); (case hk => first | exact rfl | assumption); (case hd => cb_room); (case hu => cb_units))
      rintro r6 news6 h6 tk6 F6 N6 s6 ⟨l6, rfl, hl6, hf6⟩
      k_unfold
      (try dsimp only)
      exact ⟨l6, _, _, news6, rfl, rfl, F6, N6, s6, hl6, fun e => hf6 _ (.head _) e.symm, fun e => hf6 _ (.tail _ (.head _)) e.symm, fun e => hf6 _ (.tail _ (.tail _ (.head _))) e.symm⟩
    · rintro i ys news₁ I oI C oC D m₂ h tk t v k E' hi hs hoC hx hy hkm hlot F3 N3 off3 hne
      have hk11 := lotN_le _ _ _ _ hkm
      obtain ⟨b, ob, items, kk, rfl, hb1, hb2, hb3, hb4⟩ := hlot
      clear F2 N2 R2 hret
      walk_at "mysteps"
      rename Fr _ _ _ _ => F4
      rename News _ _ _ _ => N4
      rename_i b' _ l4
      have hb1' := (N4 _ (.tail _ (.tail _ (.tail _ (.tail _ hb1))))).1
      have hle : [Value.int (1 + (i : Int)) t].length + items.toList.length ≤ sizeLine := by
        have e : items.toList.length = k := by rw [Array.length_toList, hb4]
        rw [PySem.sizeLine_eq, e]
        show 1 + k ≤ _
        omega
      refine add_tuples (vs := [.int (1 + (i : Int)) t]) (ws := items.toList) F4 N4 ⟨_, (N4 _ (.head _)).1, rfl, 0, rfl⟩ ⟨ob, hb1', hb2, kk, by rw [hb3, Array.toArray_toList]⟩ (fun h => absurd h (by simp)) (fun _ hw => ?_) (fun _ hw h5 F5 N5 => ?_) hle
      · refine comp_end1 F4 N4 off3 ⟨Nat.ne_of_gt l4.1, Nat.ne_of_gt l4.2.1, Nat.ne_of_gt l4.2.2.1⟩ ⟨_, _, _, _, rfl, .head _, rfl, rfl, ?_⟩
        have : items.size = 0 := by rw [← Array.length_toList, hw]; rfl
        simp; omega
      · have lI := Nat.ne_of_gt (Heap.lt_size (N4 _ (.tail _ (.head _))).1)
        have lC := Nat.ne_of_gt (Heap.lt_size (N4 _ (.tail _ (.tail _ (.head _)))).1)
        have lD := Nat.ne_of_gt (Heap.lt_size (N4 _ (.tail _ (.tail _ (.tail _ (.head _))))).1)
        refine comp_end2 F5 N5 off3 ⟨Nat.ne_of_gt l4.1, Nat.ne_of_gt l4.2.1, Nat.ne_of_gt l4.2.2.1⟩ ⟨lI, lC, lD⟩ ⟨_, _, _, _, rfl, .head _, rfl, rfl, ?_⟩
        simp; omega
    · rintro D h tk ys news' hD F3 N3 hs hl
      k_steps
      refine hret _ _ _ _ (by assumption) (by assumption) (fun p hp => .tail _ (hs p (.tail _ hp))) ⟨_, rfl, ⟨_, ys, _, .head _, rfl, rfl, ?_⟩, fun p hp => ?_⟩
      · rw [hL1]; exact hl.sub fun p hp => .tail _ hp
      · intro e
        exact absurd (Nat.lt_of_lt_of_le (lt2 p hp) hD) (e ▸ Nat.lt_irrefl _)
theorem lots_all (w : World) (loose : List Str) (mean : ExcName → Option Value) (mg mb : Str → Option Value) : ∀ N, N ≤ 11 → LotsC w loose mean mg mb N := by
  intro N
  induction N with
  | zero => exact fun _ => lots_zero w loose mean mg mb
  | succ N ih => exact fun h => lots_step w loose mean mg mb N h (ih (Nat.le_of_succ_le h))
end Mine
end
section
local macro_rules | `(tactic| walk_at "mine dummy 14 0") => `(tactic| skip)
local macro_rules | `(tactic| walk_at "mine dummy 14 1") => `(tactic| skip)
local macro_rules | `(tactic| walk_at "mine dummy 14 2") => `(tactic| skip)
local macro_rules | `(tactic| walk_at "mine dummy 14 3") => `(tactic| skip)
local macro_rules | `(tactic| walk_at "mine dummy 14 4") => `(tactic| skip)
local macro_rules | `(tactic| walk_at "mine dummy 14 5") => `(tactic| skip)
local macro_rules | `(tactic| walk_at "mine dummy 14 6") => `(tactic| skip)
local macro_rules | `(tactic| walk_at "mine dummy 14 7") => `(tactic| skip)
local macro_rules | `(tactic| walk_at "mine dummy 14 8") => `(tactic| skip)
local macro_rules | `(tactic| walk_at "mine dummy 14 9") => `(tactic| skip)
local macro_rules | `(tactic| walk_at "mine dummy 14 10") => `(tactic| skip)
local macro_rules | `(tactic| walk_at "mine dummy 14 11") => `(tactic| skip)
local macro_rules | `(tactic| walk_at "mine dummy 14 12") => `(tactic| skip)
local macro_rules | `(tactic| walk_at "mine dummy 14 13") => `(tactic| skip)
local macro_rules | `(tactic| walk_at "mine dummy 14 14") => `(tactic| skip)
local macro_rules | `(tactic| walk_at "mine dummy 14 15") => `(tactic| skip)
local macro_rules | `(tactic| walk_at "mine dummy 14 16") => `(tactic| skip)
local macro_rules | `(tactic| walk_at "mine dummy 14 17") => `(tactic| skip)
local macro_rules | `(tactic| walk_at "mine dummy 14 18") => `(tactic| skip)
local macro_rules | `(tactic| walk_at "mine dummy 14 19") => `(tactic| skip)
local macro_rules | `(tactic| walk_at "mine dummy 14 20") => `(tactic| skip)
local macro_rules | `(tactic| walk_at "mine dummy 14 21") => `(tactic| skip)
local macro_rules | `(tactic| walk_at "mine dummy 14 22") => `(tactic| skip)
local macro_rules | `(tactic| walk_at "mine dummy 14 23") => `(tactic| skip)
local macro_rules | `(tactic| walk_at "mine dummy 14 24") => `(tactic| skip)
local macro_rules | `(tactic| walk_at "mine dummy 14 25") => `(tactic| skip)
local macro_rules | `(tactic| walk_at "mine dummy 14 26") => `(tactic| skip)
local macro_rules | `(tactic| walk_at "mine dummy 14 27") => `(tactic| skip)
local macro_rules | `(tactic| walk_at "mine dummy 14 28") => `(tactic| skip)
local macro_rules | `(tactic| walk_at "mine dummy 14 29") => `(tactic| skip)
local macro_rules | `(tactic| walk_at "mine dummy 14 30") => `(tactic| skip)
local macro_rules | `(tactic| walk_at "mine dummy 14 31") => `(tactic| skip)
local macro_rules | `(tactic| walk_at "mine dummy 14 32") => `(tactic| skip)
local macro_rules | `(tactic| walk_at "mine dummy 14 33") => `(tactic| skip)
local macro_rules | `(tactic| walk_at "mine dummy 14 34") => `(tactic| skip)
local macro_rules | `(tactic| walk_at "mine dummy 14 35") => `(tactic| skip)
local macro_rules | `(tactic| walk_at "mine dummy 14 36") => `(tactic| skip)
local macro_rules | `(tactic| walk_at "mine dummy 14 37") => `(tactic| skip)
local macro_rules | `(tactic| walk_at "mine dummy 14 38") => `(tactic| skip)
local macro_rules | `(tactic| walk_at "mine dummy 14 39") => `(tactic| skip)
local macro_rules | `(tactic| walk_at "mine dummy 14 40") => `(tactic| skip)
local macro_rules | `(tactic| walk_at "mine dummy 14 41") => `(tactic| skip)
local macro_rules | `(tactic| walk_at "mine dummy 14 42") => `(tactic| skip)
local macro_rules | `(tactic| walk_at "mine dummy 14 43") => `(tactic| skip)
local macro_rules | `(tactic| walk_at "mine dummy 14 44") => `(tactic| skip)
local macro_rules | `(tactic| walk_at "mine dummy 14 45") => `(tactic| skip)
local macro_rules | `(tactic| walk_at "mine dummy 14 46") => `(tactic| skip)
local macro_rules | `(tactic| walk_at "mine dummy 14 47") => `(tactic| skip)
local macro_rules | `(tactic| walk_at "mine dummy 14 48") => `(tactic| skip)
local macro_rules | `(tactic| walk_at "mine dummy 14 49") => `(tactic| skip)
local macro_rules | `(tactic| walk_at "mine dummy 14 50") => `(tactic| skip)
local macro_rules | `(tactic| walk_at "mine dummy 14 51") => `(tactic| skip)
local macro_rules | `(tactic| walk_at "mine dummy 14 52") => `(tactic| skip)
local macro_rules | `(tactic| walk_at "mine dummy 14 53") => `(tactic| skip)
local macro_rules | `(tactic| walk_at "mine dummy 14 54") => `(tactic| skip)
local macro_rules | `(tactic| walk_at "mine dummy 14 55") => `(tactic| skip)
local macro_rules | `(tactic| walk_at "mine dummy 14 56") => `(tactic| skip)
local macro_rules | `(tactic| walk_at "mine dummy 14 57") => `(tactic| skip)
local macro_rules | `(tactic| walk_at "mine dummy 14 58") => `(tactic| skip)
local macro_rules | `(tactic| walk_at "mine dummy 14 59") => `(tactic| skip)
local macro_rules | `(tactic| walk_at "mine dummy 14 60") => `(tactic| skip)
local macro_rules | `(tactic| walk_at "mine dummy 14 61") => `(tactic| skip)
local macro_rules | `(tactic| walk_at "mine dummy 14 62") => `(tactic| skip)
local macro_rules | `(tactic| walk_at "mine dummy 14 63") => `(tactic| skip)
local macro_rules | `(tactic| walk_at "mine dummy 14 64") => `(tactic| skip)
local macro_rules | `(tactic| walk_at "mine dummy 14 65") => `(tactic| skip)
local macro_rules | `(tactic| walk_at "mine dummy 14 66") => `(tactic| skip)
local macro_rules | `(tactic| walk_at "mine dummy 14 67") => `(tactic| skip)
local macro_rules | `(tactic| walk_at "mine dummy 14 68") => `(tactic| skip)
local macro_rules | `(tactic| walk_at "mine dummy 14 69") => `(tactic| skip)
local macro_rules | `(tactic| walk_at "mine dummy 14 70") => `(tactic| skip)
local macro_rules | `(tactic| walk_at "mine dummy 14 71") => `(tactic| skip)
local macro_rules | `(tactic| walk_at "mine dummy 14 72") => `(tactic| skip)
local macro_rules | `(tactic| walk_at "mine dummy 14 73") => `(tactic| skip)
local macro_rules | `(tactic| walk_at "mine dummy 14 74") => `(tactic| skip)
local macro_rules | `(tactic| walk_at "mine dummy 14 75") => `(tactic| skip)
local macro_rules | `(tactic| walk_at "mine dummy 14 76") => `(tactic| skip)
local macro_rules | `(tactic| walk_at "mine dummy 14 77") => `(tactic| skip)
local macro_rules | `(tactic| walk_at "mine dummy 14 78") => `(tactic| skip)
local macro_rules | `(tactic| walk_at "mine dummy 14 79") => `(tactic| skip)
local macro_rules | `(tactic| walk_at "mine dummy 14 80") => `(tactic| skip)
local macro_rules | `(tactic| walk_at "mine dummy 14 81") => `(tactic| skip)
local macro_rules | `(tactic| walk_at "mine dummy 14 82") => `(tactic| skip)
local macro_rules | `(tactic| walk_at "mine dummy 14 83") => `(tactic| skip)
local macro_rules | `(tactic| walk_at "mine dummy 14 84") => `(tactic| skip)
local macro_rules | `(tactic| walk_at "mine dummy 14 85") => `(tactic| skip)
local macro_rules | `(tactic| walk_at "mine dummy 14 86") => `(tactic| skip)
local macro_rules | `(tactic| walk_at "mine dummy 14 87") => `(tactic| skip)
local macro_rules | `(tactic| walk_at "mine dummy 14 88") => `(tactic| skip)
local macro_rules | `(tactic| walk_at "mine dummy 14 89") => `(tactic| skip)
local macro_rules | `(tactic| walk_at "mine dummy 14 90") => `(tactic| skip)
local macro_rules | `(tactic| walk_at "mine dummy 14 91") => `(tactic| skip)
local macro_rules | `(tactic| walk_at "mine dummy 14 92") => `(tactic| skip)
local macro_rules | `(tactic| walk_at "mine dummy 14 93") => `(tactic| skip)
local macro_rules | `(tactic| walk_at "mine dummy 14 94") => `(tactic| skip)
local macro_rules | `(tactic| walk_at "mine dummy 14 95") => `(tactic| skip)
local macro_rules | `(tactic| walk_at "mine dummy 14 96") => `(tactic| skip)
local macro_rules | `(tactic| walk_at "mine dummy 14 97") => `(tactic| skip)
local macro_rules | `(tactic| walk_at "mine dummy 14 98") => `(tactic| skip)
local macro_rules | `(tactic| walk_at "mine dummy 14 99") => `(tactic| skip)
local macro_rules | `(tactic| walk_at "mine dummy 14 100") => `(tactic| skip)
local macro_rules | `(tactic| walk_at "mine dummy 14 101") => `(tactic| skip)
local macro_rules | `(tactic| walk_at "mine dummy 14 102") => `(tactic| skip)
local macro_rules | `(tactic| walk_at "mine dummy 14 103") => `(tactic| skip)
local macro_rules | `(tactic| walk_at "mine dummy 14 104") => `(tactic| skip)
local macro_rules | `(tactic| walk_at "mine dummy 14 105") => `(tactic| skip)
local macro_rules | `(tactic| walk_at "mine dummy 14 106") => `(tactic| skip)
local macro_rules | `(tactic| walk_at "mine dummy 14 107") => `(tactic| skip)
local macro_rules | `(tactic| walk_at "mine dummy 14 108") => `(tactic| skip)
local macro_rules | `(tactic| walk_at "mine dummy 14 109") => `(tactic| skip)
local macro_rules | `(tactic| walk_at "mine dummy 14 110") => `(tactic| skip)
local macro_rules | `(tactic| walk_at "mine dummy 14 111") => `(tactic| skip)
local macro_rules | `(tactic| walk_at "mine dummy 14 112") => `(tactic| skip)
local macro_rules | `(tactic| walk_at "mine dummy 14 113") => `(tactic| skip)
local macro_rules | `(tactic| walk_at "mine dummy 14 114") => `(tactic| skip)
local macro_rules | `(tactic| walk_at "mine dummy 14 115") => `(tactic| skip)
local macro_rules | `(tactic| walk_at "mine dummy 14 116") => `(tactic| skip)
local macro_rules | `(tactic| walk_at "mine dummy 14 117") => `(tactic| skip)
local macro_rules | `(tactic| walk_at "mine dummy 14 118") => `(tactic| skip)
local macro_rules | `(tactic| walk_at "mine dummy 14 119") => `(tactic| skip)
local macro_rules | `(tactic| walk_at "mine dummy 14 120") => `(tactic| skip)
local macro_rules | `(tactic| walk_at "mine dummy 14 121") => `(tactic| skip)
local macro_rules | `(tactic| walk_at "mine dummy 14 122") => `(tactic| skip)
local macro_rules | `(tactic| walk_at "mine dummy 14 123") => `(tactic| skip)
local macro_rules | `(tactic| walk_at "mine dummy 14 124") => `(tactic| skip)
local macro_rules | `(tactic| walk_at "mine dummy 14 125") => `(tactic| skip)
local macro_rules | `(tactic| walk_at "mine dummy 14 126") => `(tactic| skip)
local macro_rules | `(tactic| walk_at "mine dummy 14 127") => `(tactic| skip)
local macro_rules | `(tactic| walk_at "mine dummy 14 128") => `(tactic| skip)
local macro_rules | `(tactic| walk_at "mine dummy 14 129") => `(tactic| skip)
local macro_rules | `(tactic| walk_at "mine dummy 14 130") => `(tactic| skip)
local macro_rules | `(tactic| walk_at "mine dummy 14 131") => `(tactic| skip)
local macro_rules | `(tactic| walk_at "mine dummy 14 132") => `(tactic| skip)
local macro_rules | `(tactic| walk_at "mine dummy 14 133") => `(tactic| skip)
local macro_rules | `(tactic| walk_at "mine dummy 14 134") => `(tactic| skip)
local macro_rules | `(tactic| walk_at "mine dummy 14 135") => `(tactic| skip)
local macro_rules | `(tactic| walk_at "mine dummy 14 136") => `(tactic| skip)
local macro_rules | `(tactic| walk_at "mine dummy 14 137") => `(tactic| skip)
local macro_rules | `(tactic| walk_at "mine dummy 14 138") => `(tactic| skip)
local macro_rules | `(tactic| walk_at "mine dummy 14 139") => `(tactic| skip)
local macro_rules | `(tactic| walk_at "mine dummy 14 140") => `(tactic| skip)
local macro_rules | `(tactic| walk_at "mine dummy 14 141") => `(tactic| skip)
local macro_rules | `(tactic| walk_at "mine dummy 14 142") => `(tactic| skip)
local macro_rules | `(tactic| walk_at "mine dummy 14 143") => `(tactic| skip)
local macro_rules | `(tactic| walk_at "mine dummy 14 144") => `(tactic| skip)
local macro_rules | `(tactic| walk_at "mine dummy 14 145") => `(tactic| skip)
local macro_rules | `(tactic| walk_at "mine dummy 14 146") => `(tactic| skip)
local macro_rules | `(tactic| walk_at "mine dummy 14 147") => `(tactic| skip)
local macro_rules | `(tactic| walk_at "mine dummy 14 148") => `(tactic| skip)
local macro_rules | `(tactic| walk_at "mine dummy 14 149") => `(tactic| skip)
local macro_rules | `(tactic| walk_at "mine dummy 14 150") => `(tactic| skip)
local macro_rules | `(tactic| walk_at "mine dummy 14 151") => `(tactic| skip)
local macro_rules | `(tactic| walk_at "mine dummy 14 152") => `(tactic| skip)
local macro_rules | `(tactic| walk_at "mine dummy 14 153") => `(tactic| skip)
local macro_rules | `(tactic| walk_at "mine dummy 14 154") => `(tactic| skip)
local macro_rules | `(tactic| walk_at "mine dummy 14 155") => `(tactic| skip)
local macro_rules | `(tactic| walk_at "mine dummy 14 156") => `(tactic| skip)
local macro_rules | `(tactic| walk_at "mine dummy 14 157") => `(tactic| skip)
local macro_rules | `(tactic| walk_at "mine dummy 14 158") => `(tactic| skip)
local macro_rules | `(tactic| walk_at "mine dummy 14 159") => `(tactic| skip)
local macro_rules | `(tactic| walk_at "mine dummy 14 160") => `(tactic| skip)
local macro_rules | `(tactic| walk_at "mine dummy 14 161") => `(tactic| skip)
local macro_rules | `(tactic| walk_at "mine dummy 14 162") => `(tactic| skip)
local macro_rules | `(tactic| walk_at "mine dummy 14 163") => `(tactic| skip)
local macro_rules | `(tactic| walk_at "mine dummy 14 164") => `(tactic| skip)
local macro_rules | `(tactic| walk_at "mine dummy 14 165") => `(tactic| skip)
local macro_rules | `(tactic| walk_at "mine dummy 14 166") => `(tactic| skip)
local macro_rules | `(tactic| walk_at "mine dummy 14 167") => `(tactic| skip)
local macro_rules | `(tactic| walk_at "mine dummy 14 168") => `(tactic| skip)
local macro_rules | `(tactic| walk_at "mine dummy 14 169") => `(tactic| skip)
local macro_rules | `(tactic| walk_at "mine dummy 14 170") => `(tactic| skip)
local macro_rules | `(tactic| walk_at "mine dummy 14 171") => `(tactic| skip)
local macro_rules | `(tactic| walk_at "mine dummy 14 172") => `(tactic| skip)
local macro_rules | `(tactic| walk_at "mine dummy 14 173") => `(tactic| skip)
local macro_rules | `(tactic| walk_at "mine dummy 14 174") => `(tactic| skip)
local macro_rules | `(tactic| walk_at "mine dummy 14 175") => `(tactic| skip)
local macro_rules | `(tactic| walk_at "mine dummy 14 176") => `(tactic| skip)
local macro_rules | `(tactic| walk_at "mine dummy 14 177") => `(tactic| skip)
local macro_rules | `(tactic| walk_at "mine dummy 14 178") => `(tactic| skip)
local macro_rules | `(tactic| walk_at "mine dummy 14 179") => `(tactic| skip)
open PySem PySem.W PyProof.Rows PyProof.V
set_option maxRecDepth 100000
set_option maxHeartbeats 400000
namespace Mine
def bisG (ns : List Int) (x : Int) : Nat → Int → Int → Int
  | 0, lo, _ => lo
  | f + 1, lo, hi => if lo < hi then (if ns.getD ((lo + hi) / 2).toNat 0 < x then bisG ns x f ((lo + hi) / 2 + 1) hi else bisG ns x f lo ((lo + hi) / 2)) else lo
theorem bisG_end {ns : List Int} {x : Int} : ∀ {f : Nat} {lo hi : Int}, ¬ lo < hi → bisG ns x f lo hi = lo
  | 0, _, _, _ => rfl
  | _ + 1, _, _, h => by unfold bisG; rw [if_neg h]
def bis (ns : List Int) (x : Int) : Int := bisG ns x ns.length 0 ns.length
def WhlStep (Q : Flow → Shared → Prop) (R : Shared → Prop) (f : Flow) (s : Shared) : Prop :=
  match f with
  | .next => R s
  | .cont => R s
  | .brk => Q .next s
  | .ret v => Q (.ret v) s
theorem while_turns {prog : Program} {w : World} {A : Around} {E : Value → Shared → Prop} {s : Shared} {env : Env} {test : PySem.Expr} {body orelse : List Stmt} {pos : Pos} {Q : Flow → Shared → Prop} (J : Nat → Shared → Prop) (n : Nat) (hE : PassesOwn (model prog w) A env E) (h0 : J n s)
    (step : ∀ f s', J f s' → wpAny (model prog w) A (isTrue test env (eval test env)) (fun b s₂ => WhlIf b (wpAny (model prog w) A (execs body env) (WhlStep Q fun s₃ => ∃ g, g < f ∧ J g s₃) E s₂) (wpAny (model prog w) A (execs orelse env) Q E s₂)) E s') :
    wpAny (model prog w) A (exec (.While test body orelse pos) env) Q E s := by
  refine whl_start 1 ?_
  have key : ∀ f s', J f s' → WhlRest prog w A E env test body orelse Q 1 s' := by
    intro f
    induction f using Nat.strongRecOn with
    | ind f ih =>
      intro s' hs
      refine whl_turn (k := 0) hE (wpAny_mono (step f s' hs) (fun b s₂ h₂ => ?_) fun _ _ e => e)
      unfold WhlIf at h₂ ⊢
      split
      · rename_i hb
        rw [if_pos hb] at h₂
        refine wpAny_mono h₂ (fun fl s₃ h₃ => ?_) fun _ _ e => e
        cases fl with
        | next => obtain ⟨g, hg, hj⟩ := h₃; exact ih g hg s₃ hj
        | cont => obtain ⟨g, hg, hj⟩ := h₃; exact ih g hg s₃ hj
        | brk => exact h₃
        | ret v => exact h₃
      · rename_i hb
        rwa [if_neg hb] at h₂
  exact key n s h0
local macro_rules | `(tactic| walk_at "enterD") => `(tactic| (refine' code_def ?k1 ?k2 ?k3 ?k4 ?k5 ?kA ?kF ?kK ?k6 ?k7 ?k8 ?k9 ?kB ?_ ?c2 ?c3 ?c4 ?c5; (case kA => exact rfl); (case kF => exact rfl); (case kK => assumption); (case k1 => k_asm); (case k2 => k_asm); (case k3 => k_asm); (case k4 => k_asm); (case k5 => k_asm); (case k6 => k_is); (case k7 => k_is); (case k8 => ktr_room); (case k9 => (refine' kp_binds ?kx ?ke; (case kx => k_in); (case ke => exact fun _ => rfl))); (case c5 => decide); (case kB => exact locs rfl); (case c2 => exact rfl); (case c3 => exact rfl); (case c4 => exact rfl); k_whole; intro g' L' h' FG' F' N' B' X' T'; (try dsimp only); (try k_fold)))
local macro_rules | `(tactic| walk_at "mysteps") => `(tactic| repeat' (first | (k_unfold; (try dsimp only)) | (k_end; wrow_close) | ((fail_if_success (with_reducible show wpAny _ _ (exec (Stmt.While _ _ _ _) _) _ _ _)); (fail_if_success (with_reducible show WhlIf _ _ _)); (fail_if_success (with_reducible show WhlStep _ _ _ _)); (fail_if_success (with_reducible show wpAny _ _ (call (Value.ref _) _) _ _ _)); walk1) | (dsimp only; (fail_if_success (with_reducible show wpAny _ _ (exec (Stmt.While _ _ _ _) _) _ _ _)); (fail_if_success (with_reducible show WhlIf _ _ _)); (fail_if_success (with_reducible show WhlStep _ _ _ _)); (fail_if_success (with_reducible show wpAny _ _ (call (Value.ref _) _) _ _ _)); walk1) | (leave1; walk_say "STEP leave1"; try dsimp only) | fail "no step"))
theorem bis_con4 (w : World) (loose : List Str) (mean : ExcName → Option Value) (mg mb : Str → Option Value) (news0 : List (Addr × Obj)) (row : Addr) (vs : List Value) (k : Nat) (ns : List Int) (x : Int) (tx t0 : Tok)
    (hI : IntsAre vs ns) (hl : ns.length ≤ 100) : ConI w loose mean mg mb 46 0 ((row, W.listOf vs.toArray k) :: news0) [.ref row, .int x tx, .int 0 t0, .none] (bis ns x) := by
  unfold ConI
  k_fill
  intro dp un gd cn cs a ccd cl outer A₀ base h₀ L m s Q E B F X N Tp hk hd hu hret
  refine wpAny_call ?_
  k_dflt (refine' code_def ?k1 ?k2 ?k3 ?k4 ?k5 ?kA ?kF ?kK ?k6 ?k7 ?k8 ?k9 ?kB ?_ ?c2 ?c3 ?c4 ?c5; (case kA => exact rfl); (case kF => exact rfl); (case kK => assumption); (case k1 => k_asm); (case k2 => k_asm); (case k3 => k_asm); (case k4 => k_asm); (case k5 => k_asm); (case k6 => k_is); (case k7 => k_is); (case k8 => ktr_room); (case k9 => (refine' kp_binds ?kx ?ke; (case kx => k_in); (case ke => exact fun _ => rfl))); (case c5 => decide); (case kB => exact locs rfl); (case c2 => exact rfl); (case c3 => exact rfl); (case c4 => exact rfl); k_whole; intro g' L' h' FG' F' N' B' X' T'; (try dsimp only); (try k_fold))
  walk_at "mysteps"
  rename Fr _ _ _ _ => F2
  rename News _ _ _ _ => N2
  rename Fr h₀ L g' m => FG2
  refine while_turns (fun f s' => ∃ h₁ tk₁ lo hi t1 t2 m₁, s' = { s with heap := h₁, toks := tk₁ } ∧ Fr g' L' h₁ m₁ ∧ News g' L' h₁ ((row, W.listOf vs.toArray k) :: news0) ∧ m₁ (Str.ofString "a") = some (.ref row) ∧ m₁ (Str.ofString "x") = some (.int x tx) ∧ m₁ (Str.ofString "lo") = some (.int lo t1) ∧ m₁ (Str.ofString "hi") = some (.int hi t2) ∧ 0 ≤ lo ∧ lo ≤ hi ∧ hi ≤ (ns.length : Int) ∧ hi - lo ≤ (f : Int) ∧ bisG ns x f lo hi = bis ns x) ns.length (by first | passes_own | with_unfolding_all passes_own)
    ⟨_, _, 0, ns.length, _, _, _, rfl, F2, N2, rfl, rfl, rfl, rfl, by omega, by omega, by omega, by omega, rfl⟩ ?_
  rintro f s' ⟨h₁, tk₁, lo, hi, t1, t2, m₁, rfl, F3, N3, ha, hx, hlo, hhi, h0, h1, h2, h3, h4⟩
  rw [mset ha, mset hx, mset hlo, mset hhi] at F3
  clear F2 N2
  walk_at "mysteps"
  by_cases hlt : lo < hi
  · refine WhlIf.yes (by simp [hlt]) ?_
    have hm1 : lo ≤ (lo + hi) / 2 := by omega
    have hm2 : (lo + hi) / 2 < hi := by omega
    have hm3 : (lo + hi) / 2 < 2 ^ 63 := by omega
    have hfd : (lo + hi).fdiv 2 = (lo + hi) / 2 := Int.fdiv_eq_ediv_of_nonneg _ (by decide)
    cases f with
    | zero => omega
    | succ f =>
    unfold bisG at h4
    rw [if_pos hlt] at h4
    walk_at "mysteps"
    · have hc : ns.getD ((lo + hi).fdiv 2).toNat 0 < x := by assumption
      rename Fr _ _ _ _ => F5
      rename News _ _ _ _ => N5
      rw [hfd] at hc
      rw [if_pos hc] at h4
      exact ⟨f, Nat.lt_succ_self _, _, _, (lo + hi).fdiv 2 + 1, hi, _, _, _, rfl, F5, N5, rfl, rfl, rfl, rfl, by omega, by omega, by omega, by omega, by rw [hfd]; exact h4⟩
    · have hc : ¬ ns.getD ((lo + hi).fdiv 2).toNat 0 < x := by assumption
      rename Fr _ _ _ _ => F5
      rename News _ _ _ _ => N5
      rw [hfd] at hc
      rw [if_neg hc] at h4
      exact ⟨f, Nat.lt_succ_self _, _, _, lo, (lo + hi).fdiv 2, _, _, _, rfl, F5, N5, rfl, rfl, rfl, rfl, by omega, by omega, by omega, by omega, by rw [hfd]; exact h4⟩
  · refine WhlIf.no (by simp [hlt]) ?_
    rw [bisG_end hlt] at h4
    subst h4
    walk_at "mysteps"
    exact hret _ _ _ (by assumption) (by assumption)
theorem bis_con2 (w : World) (loose : List Str) (mean : ExcName → Option Value) (mg mb : Str → Option Value) (news0 : List (Addr × Obj)) (row : Addr) (vs : List Value) (k : Nat) (ns : List Int) (x : Int) (tx : Tok)
    (hI : IntsAre vs ns) (hl : ns.length ≤ 100) : ConI w loose mean mg mb 46 0 ((row, W.listOf vs.toArray k) :: news0) [.ref row, .int x tx] (bis ns x) := by
  unfold ConI
  k_fill
  intro dp un gd cn cs a ccd cl outer A₀ base h₀ L m s Q E B F X N Tp hk hd hu hret
  refine wpAny_call ?_
  k_dflt (refine' code_def ?k1 ?k2 ?k3 ?k4 ?k5 ?kA ?kF ?kK ?k6 ?k7 ?k8 ?k9 ?kB ?_ ?c2 ?c3 ?c4 ?c5; (case kA => exact rfl); (case kF => exact rfl); (case kK => assumption); (case k1 => k_asm); (case k2 => k_asm); (case k3 => k_asm); (case k4 => k_asm); (case k5 => k_asm); (case k6 => k_is); (case k7 => k_is); (case k8 => ktr_room); (case k9 => (refine' kp_binds ?kx ?ke; (case kx => k_in); (case ke => exact fun _ => rfl))); (case c5 => decide); (case kB => exact locs rfl); (case c2 => exact rfl); (case c3 => exact rfl); (case c4 => exact rfl); k_whole; intro g' L' h' FG' F' N' B' X' T'; (try dsimp only); (try k_fold))
  walk_at "mysteps"
  rename Fr _ _ _ _ => F2
  rename News _ _ _ _ => N2
  rename Fr h₀ L g' m => FG2
  refine while_turns (fun f s' => ∃ h₁ tk₁ lo hi t1 t2 m₁, s' = { s with heap := h₁, toks := tk₁ } ∧ Fr g' L' h₁ m₁ ∧ News g' L' h₁ ((row, W.listOf vs.toArray k) :: news0) ∧ m₁ (Str.ofString "a") = some (.ref row) ∧ m₁ (Str.ofString "x") = some (.int x tx) ∧ m₁ (Str.ofString "lo") = some (.int lo t1) ∧ m₁ (Str.ofString "hi") = some (.int hi t2) ∧ 0 ≤ lo ∧ lo ≤ hi ∧ hi ≤ (ns.length : Int) ∧ hi - lo ≤ (f : Int) ∧ bisG ns x f lo hi = bis ns x) ns.length (by first | passes_own | with_unfolding_all passes_own)
    ⟨_, _, 0, ns.length, _, _, _, rfl, F2, N2, rfl, rfl, rfl, rfl, by omega, by omega, by omega, by omega, rfl⟩ ?_
  rintro f s' ⟨h₁, tk₁, lo, hi, t1, t2, m₁, rfl, F3, N3, ha, hx, hlo, hhi, h0, h1, h2, h3, h4⟩
  rw [mset ha, mset hx, mset hlo, mset hhi] at F3
  clear F2 N2
  walk_at "mysteps"
  by_cases hlt : lo < hi
  · refine WhlIf.yes (by simp [hlt]) ?_
    have hm1 : lo ≤ (lo + hi) / 2 := by omega
    have hm2 : (lo + hi) / 2 < hi := by omega
    have hm3 : (lo + hi) / 2 < 2 ^ 63 := by omega
    have hfd : (lo + hi).fdiv 2 = (lo + hi) / 2 := Int.fdiv_eq_ediv_of_nonneg _ (by decide)
    cases f with
    | zero => omega
    | succ f =>
    unfold bisG at h4
    rw [if_pos hlt] at h4
    walk_at "mysteps"
    · have hc : ns.getD ((lo + hi).fdiv 2).toNat 0 < x := by assumption
      rename Fr _ _ _ _ => F5
      rename News _ _ _ _ => N5
      rw [hfd] at hc
      rw [if_pos hc] at h4
      exact ⟨f, Nat.lt_succ_self _, _, _, (lo + hi).fdiv 2 + 1, hi, _, _, _, rfl, F5, N5, rfl, rfl, rfl, rfl, by omega, by omega, by omega, by omega, by rw [hfd]; exact h4⟩
    · have hc : ¬ ns.getD ((lo + hi).fdiv 2).toNat 0 < x := by assumption
      rename Fr _ _ _ _ => F5
      rename News _ _ _ _ => N5
      rw [hfd] at hc
      rw [if_neg hc] at h4
      exact ⟨f, Nat.lt_succ_self _, _, _, lo, (lo + hi).fdiv 2, _, _, _, rfl, F5, N5, rfl, rfl, rfl, rfl, by omega, by omega, by omega, by omega, by rw [hfd]; exact h4⟩
  · refine WhlIf.no (by simp [hlt]) ?_
    rw [bisG_end hlt] at h4
    subst h4
    walk_at "mysteps"
    exact hret _ _ _ (by assumption) (by assumption)
end Mine
end
section
local macro_rules | `(tactic| walk_at "mine dummy 15 0") => `(tactic| skip)
local macro_rules | `(tactic| walk_at "mine dummy 15 1") => `(tactic| skip)
local macro_rules | `(tactic| walk_at "mine dummy 15 2") => `(tactic| skip)
local macro_rules | `(tactic| walk_at "mine dummy 15 3") => `(tactic| skip)
local macro_rules | `(tactic| walk_at "mine dummy 15 4") => `(tactic| skip)
local macro_rules | `(tactic| walk_at "mine dummy 15 5") => `(tactic| skip)
local macro_rules | `(tactic| walk_at "mine dummy 15 6") => `(tactic| skip)
local macro_rules | `(tactic| walk_at "mine dummy 15 7") => `(tactic| skip)
local macro_rules | `(tactic| walk_at "mine dummy 15 8") => `(tactic| skip)
local macro_rules | `(tactic| walk_at "mine dummy 15 9") => `(tactic| skip)
local macro_rules | `(tactic| walk_at "mine dummy 15 10") => `(tactic| skip)
local macro_rules | `(tactic| walk_at "mine dummy 15 11") => `(tactic| skip)
local macro_rules | `(tactic| walk_at "mine dummy 15 12") => `(tactic| skip)
local macro_rules | `(tactic| walk_at "mine dummy 15 13") => `(tactic| skip)
local macro_rules | `(tactic| walk_at "mine dummy 15 14") => `(tactic| skip)
local macro_rules | `(tactic| walk_at "mine dummy 15 15") => `(tactic| skip)
local macro_rules | `(tactic| walk_at "mine dummy 15 16") => `(tactic| skip)
local macro_rules | `(tactic| walk_at "mine dummy 15 17") => `(tactic| skip)
local macro_rules | `(tactic| walk_at "mine dummy 15 18") => `(tactic| skip)
local macro_rules | `(tactic| walk_at "mine dummy 15 19") => `(tactic| skip)
local macro_rules | `(tactic| walk_at "mine dummy 15 20") => `(tactic| skip)
local macro_rules | `(tactic| walk_at "mine dummy 15 21") => `(tactic| skip)
local macro_rules | `(tactic| walk_at "mine dummy 15 22") => `(tactic| skip)
local macro_rules | `(tactic| walk_at "mine dummy 15 23") => `(tactic| skip)
local macro_rules | `(tactic| walk_at "mine dummy 15 24") => `(tactic| skip)
local macro_rules | `(tactic| walk_at "mine dummy 15 25") => `(tactic| skip)
local macro_rules | `(tactic| walk_at "mine dummy 15 26") => `(tactic| skip)
local macro_rules | `(tactic| walk_at "mine dummy 15 27") => `(tactic| skip)
local macro_rules | `(tactic| walk_at "mine dummy 15 28") => `(tactic| skip)
local macro_rules | `(tactic| walk_at "mine dummy 15 29") => `(tactic| skip)
local macro_rules | `(tactic| walk_at "mine dummy 15 30") => `(tactic| skip)
local macro_rules | `(tactic| walk_at "mine dummy 15 31") => `(tactic| skip)
local macro_rules | `(tactic| walk_at "mine dummy 15 32") => `(tactic| skip)
local macro_rules | `(tactic| walk_at "mine dummy 15 33") => `(tactic| skip)
local macro_rules | `(tactic| walk_at "mine dummy 15 34") => `(tactic| skip)
local macro_rules | `(tactic| walk_at "mine dummy 15 35") => `(tactic| skip)
local macro_rules | `(tactic| walk_at "mine dummy 15 36") => `(tactic| skip)
local macro_rules | `(tactic| walk_at "mine dummy 15 37") => `(tactic| skip)
local macro_rules | `(tactic| walk_at "mine dummy 15 38") => `(tactic| skip)
local macro_rules | `(tactic| walk_at "mine dummy 15 39") => `(tactic| skip)
local macro_rules | `(tactic| walk_at "mine dummy 15 40") => `(tactic| skip)
local macro_rules | `(tactic| walk_at "mine dummy 15 41") => `(tactic| skip)
local macro_rules | `(tactic| walk_at "mine dummy 15 42") => `(tactic| skip)
local macro_rules | `(tactic| walk_at "mine dummy 15 43") => `(tactic| skip)
local macro_rules | `(tactic| walk_at "mine dummy 15 44") => `(tactic| skip)
local macro_rules | `(tactic| walk_at "mine dummy 15 45") => `(tactic| skip)
local macro_rules | `(tactic| walk_at "mine dummy 15 46") => `(tactic| skip)
local macro_rules | `(tactic| walk_at "mine dummy 15 47") => `(tactic| skip)
local macro_rules | `(tactic| walk_at "mine dummy 15 48") => `(tactic| skip)
local macro_rules | `(tactic| walk_at "mine dummy 15 49") => `(tactic| skip)
local macro_rules | `(tactic| walk_at "mine dummy 15 50") => `(tactic| skip)
local macro_rules | `(tactic| walk_at "mine dummy 15 51") => `(tactic| skip)
local macro_rules | `(tactic| walk_at "mine dummy 15 52") => `(tactic| skip)
local macro_rules | `(tactic| walk_at "mine dummy 15 53") => `(tactic| skip)
local macro_rules | `(tactic| walk_at "mine dummy 15 54") => `(tactic| skip)
local macro_rules | `(tactic| walk_at "mine dummy 15 55") => `(tactic| skip)
local macro_rules | `(tactic| walk_at "mine dummy 15 56") => `(tactic| skip)
local macro_rules | `(tactic| walk_at "mine dummy 15 57") => `(tactic| skip)
local macro_rules | `(tactic| walk_at "mine dummy 15 58") => `(tactic| skip)
local macro_rules | `(tactic| walk_at "mine dummy 15 59") => `(tactic| skip)
local macro_rules | `(tactic| walk_at "mine dummy 15 60") => `(tactic| skip)
local macro_rules | `(tactic| walk_at "mine dummy 15 61") => `(tactic| skip)
local macro_rules | `(tactic| walk_at "mine dummy 15 62") => `(tactic| skip)
local macro_rules | `(tactic| walk_at "mine dummy 15 63") => `(tactic| skip)
local macro_rules | `(tactic| walk_at "mine dummy 15 64") => `(tactic| skip)
local macro_rules | `(tactic| walk_at "mine dummy 15 65") => `(tactic| skip)
local macro_rules | `(tactic| walk_at "mine dummy 15 66") => `(tactic| skip)
local macro_rules | `(tactic| walk_at "mine dummy 15 67") => `(tactic| skip)
local macro_rules | `(tactic| walk_at "mine dummy 15 68") => `(tactic| skip)
local macro_rules | `(tactic| walk_at "mine dummy 15 69") => `(tactic| skip)
local macro_rules | `(tactic| walk_at "mine dummy 15 70") => `(tactic| skip)
local macro_rules | `(tactic| walk_at "mine dummy 15 71") => `(tactic| skip)
local macro_rules | `(tactic| walk_at "mine dummy 15 72") => `(tactic| skip)
local macro_rules | `(tactic| walk_at "mine dummy 15 73") => `(tactic| skip)
local macro_rules | `(tactic| walk_at "mine dummy 15 74") => `(tactic| skip)
local macro_rules | `(tactic| walk_at "mine dummy 15 75") => `(tactic| skip)
local macro_rules | `(tactic| walk_at "mine dummy 15 76") => `(tactic| skip)
local macro_rules | `(tactic| walk_at "mine dummy 15 77") => `(tactic| skip)
local macro_rules | `(tactic| walk_at "mine dummy 15 78") => `(tactic| skip)
local macro_rules | `(tactic| walk_at "mine dummy 15 79") => `(tactic| skip)
local macro_rules | `(tactic| walk_at "mine dummy 15 80") => `(tactic| skip)
local macro_rules | `(tactic| walk_at "mine dummy 15 81") => `(tactic| skip)
local macro_rules | `(tactic| walk_at "mine dummy 15 82") => `(tactic| skip)
local macro_rules | `(tactic| walk_at "mine dummy 15 83") => `(tactic| skip)
local macro_rules | `(tactic| walk_at "mine dummy 15 84") => `(tactic| skip)
local macro_rules | `(tactic| walk_at "mine dummy 15 85") => `(tactic| skip)
local macro_rules | `(tactic| walk_at "mine dummy 15 86") => `(tactic| skip)
local macro_rules | `(tactic| walk_at "mine dummy 15 87") => `(tactic| skip)
local macro_rules | `(tactic| walk_at "mine dummy 15 88") => `(tactic| skip)
local macro_rules | `(tactic| walk_at "mine dummy 15 89") => `(tactic| skip)
local macro_rules | `(tactic| walk_at "mine dummy 15 90") => `(tactic| skip)
local macro_rules | `(tactic| walk_at "mine dummy 15 91") => `(tactic| skip)
local macro_rules | `(tactic| walk_at "mine dummy 15 92") => `(tactic| skip)
local macro_rules | `(tactic| walk_at "mine dummy 15 93") => `(tactic| skip)
local macro_rules | `(tactic| walk_at "mine dummy 15 94") => `(tactic| skip)
local macro_rules | `(tactic| walk_at "mine dummy 15 95") => `(tactic| skip)
local macro_rules | `(tactic| walk_at "mine dummy 15 96") => `(tactic| skip)
local macro_rules | `(tactic| walk_at "mine dummy 15 97") => `(tactic| skip)
local macro_rules | `(tactic| walk_at "mine dummy 15 98") => `(tactic| skip)
local macro_rules | `(tactic| walk_at "mine dummy 15 99") => `(tactic| skip)
local macro_rules | `(tactic| walk_at "mine dummy 15 100") => `(tactic| skip)
local macro_rules | `(tactic| walk_at "mine dummy 15 101") => `(tactic| skip)
local macro_rules | `(tactic| walk_at "mine dummy 15 102") => `(tactic| skip)
local macro_rules | `(tactic| walk_at "mine dummy 15 103") => `(tactic| skip)
local macro_rules | `(tactic| walk_at "mine dummy 15 104") => `(tactic| skip)
local macro_rules | `(tactic| walk_at "mine dummy 15 105") => `(tactic| skip)
local macro_rules | `(tactic| walk_at "mine dummy 15 106") => `(tactic| skip)
local macro_rules | `(tactic| walk_at "mine dummy 15 107") => `(tactic| skip)
local macro_rules | `(tactic| walk_at "mine dummy 15 108") => `(tactic| skip)
local macro_rules | `(tactic| walk_at "mine dummy 15 109") => `(tactic| skip)
local macro_rules | `(tactic| walk_at "mine dummy 15 110") => `(tactic| skip)
local macro_rules | `(tactic| walk_at "mine dummy 15 111") => `(tactic| skip)
local macro_rules | `(tactic| walk_at "mine dummy 15 112") => `(tactic| skip)
local macro_rules | `(tactic| walk_at "mine dummy 15 113") => `(tactic| skip)
local macro_rules | `(tactic| walk_at "mine dummy 15 114") => `(tactic| skip)
local macro_rules | `(tactic| walk_at "mine dummy 15 115") => `(tactic| skip)
local macro_rules | `(tactic| walk_at "mine dummy 15 116") => `(tactic| skip)
local macro_rules | `(tactic| walk_at "mine dummy 15 117") => `(tactic| skip)
local macro_rules | `(tactic| walk_at "mine dummy 15 118") => `(tactic| skip)
local macro_rules | `(tactic| walk_at "mine dummy 15 119") => `(tactic| skip)
local macro_rules | `(tactic| walk_at "mine dummy 15 120") => `(tactic| skip)
local macro_rules | `(tactic| walk_at "mine dummy 15 121") => `(tactic| skip)
local macro_rules | `(tactic| walk_at "mine dummy 15 122") => `(tactic| skip)
local macro_rules | `(tactic| walk_at "mine dummy 15 123") => `(tactic| skip)
local macro_rules | `(tactic| walk_at "mine dummy 15 124") => `(tactic| skip)
local macro_rules | `(tactic| walk_at "mine dummy 15 125") => `(tactic| skip)
local macro_rules | `(tactic| walk_at "mine dummy 15 126") => `(tactic| skip)
local macro_rules | `(tactic| walk_at "mine dummy 15 127") => `(tactic| skip)
local macro_rules | `(tactic| walk_at "mine dummy 15 128") => `(tactic| skip)
local macro_rules | `(tactic| walk_at "mine dummy 15 129") => `(tactic| skip)
local macro_rules | `(tactic| walk_at "mine dummy 15 130") => `(tactic| skip)
local macro_rules | `(tactic| walk_at "mine dummy 15 131") => `(tactic| skip)
local macro_rules | `(tactic| walk_at "mine dummy 15 132") => `(tactic| skip)
local macro_rules | `(tactic| walk_at "mine dummy 15 133") => `(tactic| skip)
local macro_rules | `(tactic| walk_at "mine dummy 15 134") => `(tactic| skip)
local macro_rules | `(tactic| walk_at "mine dummy 15 135") => `(tactic| skip)
local macro_rules | `(tactic| walk_at "mine dummy 15 136") => `(tactic| skip)
local macro_rules | `(tactic| walk_at "mine dummy 15 137") => `(tactic| skip)
local macro_rules | `(tactic| walk_at "mine dummy 15 138") => `(tactic| skip)
local macro_rules | `(tactic| walk_at "mine dummy 15 139") => `(tactic| skip)
local macro_rules | `(tactic| walk_at "mine dummy 15 140") => `(tactic| skip)
local macro_rules | `(tactic| walk_at "mine dummy 15 141") => `(tactic| skip)
local macro_rules | `(tactic| walk_at "mine dummy 15 142") => `(tactic| skip)
local macro_rules | `(tactic| walk_at "mine dummy 15 143") => `(tactic| skip)
local macro_rules | `(tactic| walk_at "mine dummy 15 144") => `(tactic| skip)
local macro_rules | `(tactic| walk_at "mine dummy 15 145") => `(tactic| skip)
local macro_rules | `(tactic| walk_at "mine dummy 15 146") => `(tactic| skip)
local macro_rules | `(tactic| walk_at "mine dummy 15 147") => `(tactic| skip)
local macro_rules | `(tactic| walk_at "mine dummy 15 148") => `(tactic| skip)
local macro_rules | `(tactic| walk_at "mine dummy 15 149") => `(tactic| skip)
local macro_rules | `(tactic| walk_at "mine dummy 15 150") => `(tactic| skip)
local macro_rules | `(tactic| walk_at "mine dummy 15 151") => `(tactic| skip)
local macro_rules | `(tactic| walk_at "mine dummy 15 152") => `(tactic| skip)
local macro_rules | `(tactic| walk_at "mine dummy 15 153") => `(tactic| skip)
local macro_rules | `(tactic| walk_at "mine dummy 15 154") => `(tactic| skip)
local macro_rules | `(tactic| walk_at "mine dummy 15 155") => `(tactic| skip)
local macro_rules | `(tactic| walk_at "mine dummy 15 156") => `(tactic| skip)
local macro_rules | `(tactic| walk_at "mine dummy 15 157") => `(tactic| skip)
local macro_rules | `(tactic| walk_at "mine dummy 15 158") => `(tactic| skip)
local macro_rules | `(tactic| walk_at "mine dummy 15 159") => `(tactic| skip)
local macro_rules | `(tactic| walk_at "mine dummy 15 160") => `(tactic| skip)
local macro_rules | `(tactic| walk_at "mine dummy 15 161") => `(tactic| skip)
local macro_rules | `(tactic| walk_at "mine dummy 15 162") => `(tactic| skip)
local macro_rules | `(tactic| walk_at "mine dummy 15 163") => `(tactic| skip)
local macro_rules | `(tactic| walk_at "mine dummy 15 164") => `(tactic| skip)
local macro_rules | `(tactic| walk_at "mine dummy 15 165") => `(tactic| skip)
local macro_rules | `(tactic| walk_at "mine dummy 15 166") => `(tactic| skip)
local macro_rules | `(tactic| walk_at "mine dummy 15 167") => `(tactic| skip)
local macro_rules | `(tactic| walk_at "mine dummy 15 168") => `(tactic| skip)
local macro_rules | `(tactic| walk_at "mine dummy 15 169") => `(tactic| skip)
local macro_rules | `(tactic| walk_at "mine dummy 15 170") => `(tactic| skip)
local macro_rules | `(tactic| walk_at "mine dummy 15 171") => `(tactic| skip)
local macro_rules | `(tactic| walk_at "mine dummy 15 172") => `(tactic| skip)
local macro_rules | `(tactic| walk_at "mine dummy 15 173") => `(tactic| skip)
local macro_rules | `(tactic| walk_at "mine dummy 15 174") => `(tactic| skip)
local macro_rules | `(tactic| walk_at "mine dummy 15 175") => `(tactic| skip)
local macro_rules | `(tactic| walk_at "mine dummy 15 176") => `(tactic| skip)
local macro_rules | `(tactic| walk_at "mine dummy 15 177") => `(tactic| skip)
local macro_rules | `(tactic| walk_at "mine dummy 15 178") => `(tactic| skip)
local macro_rules | `(tactic| walk_at "mine dummy 15 179") => `(tactic| skip)
local macro_rules | `(tactic| walk_at "mine dummy 15 180") => `(tactic| skip)
local macro_rules | `(tactic| walk_at "mine dummy 15 181") => `(tactic| skip)
local macro_rules | `(tactic| walk_at "mine dummy 15 182") => `(tactic| skip)
local macro_rules | `(tactic| walk_at "mine dummy 15 183") => `(tactic| skip)
local macro_rules | `(tactic| walk_at "mine dummy 15 184") => `(tactic| skip)
local macro_rules | `(tactic| walk_at "mine dummy 15 185") => `(tactic| skip)
local macro_rules | `(tactic| walk_at "mine dummy 15 186") => `(tactic| skip)
local macro_rules | `(tactic| walk_at "mine dummy 15 187") => `(tactic| skip)
local macro_rules | `(tactic| walk_at "mine dummy 15 188") => `(tactic| skip)
local macro_rules | `(tactic| walk_at "mine dummy 15 189") => `(tactic| skip)
local macro_rules | `(tactic| walk_at "mine dummy 15 190") => `(tactic| skip)
local macro_rules | `(tactic| walk_at "mine dummy 15 191") => `(tactic| skip)
open PySem PySem.W PyProof.Rows PyProof.V
set_option maxRecDepth 100000
set_option maxHeartbeats 400000
namespace Mine
def insP (n : Nat) (p : Int) : Nat := if p < 0 then (p + (n : Int)).toNat else min p.toNat n
def insG (ns : List Int) (x : Int) : List Int := ns.take (insP ns.length (bis ns x)) ++ x :: ns.drop (insP ns.length (bis ns x))
theorem bisG_range {ns : List Int} {x : Int} : ∀ (f : Nat) (lo hi : Int), lo ≤ hi → lo ≤ bisG ns x f lo hi ∧ bisG ns x f lo hi ≤ hi := by
  intro f
  induction f with
  | zero => intro lo hi h; exact ⟨Int.le_refl _, h⟩
  | succ f ih =>
    intro lo hi h
    unfold bisG
    split
    · split
      · have := ih ((lo + hi) / 2 + 1) hi (by omega); omega
      · have := ih lo ((lo + hi) / 2) (by omega); omega
    · omega
theorem bis_range (ns : List Int) (x : Int) : 0 ≤ bis ns x ∧ bis ns x ≤ ns.length := bisG_range _ _ _ (by omega)
theorem ints_ins {vs : List Value} {ns : List Int} (h : IntsAre vs ns) (p x : Int) (t : Tok) : IntsAre (kl_ins vs p (.int x t)) (ns.take (insP ns.length p) ++ x :: ns.drop (insP ns.length p)) := by
  have e : kl_ins vs p (.int x t) = vs.take (insP ns.length p) ++ .int x t :: vs.drop (insP ns.length p) := by
    unfold kl_ins insP
    rw [h.length]
  rw [e]
  exact IntsAre.append (IntsAre.take h _) (.cons _ _ (IntsAre.drop h _))
local macro_rules | `(tactic| walk_at "enterD") => `(tactic| (refine' code_def ?k1 ?k2 ?k3 ?k4 ?k5 ?kA ?kF ?kK ?k6 ?k7 ?k8 ?k9 ?kB ?_ ?c2 ?c3 ?c4 ?c5; (case kA => exact rfl); (case kF => exact rfl); (case kK => assumption); (case k1 => k_asm); (case k2 => k_asm); (case k3 => k_asm); (case k4 => k_asm); (case k5 => k_asm); (case k6 => k_is); (case k7 => k_is); (case k8 => ktr_room); (case k9 => (refine' kp_binds ?kx ?ke; (case kx => k_in); (case ke => exact fun _ => rfl))); (case c5 => decide); (case kB => exact locs rfl); (case c2 => exact rfl); (case c3 => exact rfl); (case c4 => exact rfl); k_whole; intro g' L' h' FG' F' N' B' X' T'; (try dsimp only); (try k_fold)))
local macro_rules | `(tactic| walk_at "mysteps") => `(tactic| repeat' (first | (k_unfold; (try dsimp only)) | (k_end; wrow_close) | ((fail_if_success (with_reducible show wpAny _ _ (exec (Stmt.While _ _ _ _) _) _ _ _)); (fail_if_success (with_reducible show WhlIf _ _ _)); (fail_if_success (with_reducible show WhlStep _ _ _ _)); (fail_if_success (with_reducible show wpAny _ _ (call (Value.ref _) _) _ _ _)); walk1) | (dsimp only; (fail_if_success (with_reducible show wpAny _ _ (exec (Stmt.While _ _ _ _) _) _ _ _)); (fail_if_success (with_reducible show WhlIf _ _ _)); (fail_if_success (with_reducible show WhlStep _ _ _ _)); (fail_if_success (with_reducible show wpAny _ _ (call (Value.ref _) _) _ _ _)); walk1) | (leave1; walk_say "STEP leave1"; try dsimp only) | fail "no step"))
theorem ins_con (w : World) (loose : List Str) (mean : ExcName → Option Value) (mg mb : Str → Option Value) (news0 : List (Addr × Obj)) (row : Addr) (vs : List Value) (k : Nat) (ns : List Int) (x : Int) (tx : Tok)
    (hI : IntsAre vs ns) (hl : ns.length ≤ 100) (hoff : ∀ p ∈ news0, p.1 ≠ row)
    (dp un : Nat) (gd : Option (List Code)) (cn : Str) (cs : Scope) (a : Addr) (ccd : Value) (cl : List (Str × Addr)) (outer : List Env) (A₀ : Around) (base h₀ : Heap) (L : Addr) (m : Str → Option Value) (s : Shared) (Q E : Value → Shared → Prop)
    (B : Below A₀ base outer h₀) (F : Fr h₀ L s.heap m) (X : (hd.heap_39 w.params).In h₀) (N : News h₀ L s.heap ((row, W.listOf vs.toArray k) :: news0)) (Tp : Top hd.view_39 loose mean mg mb h₀) (hk : cs.kind = .function)
    (hd : dp + 1 + 1 < recursionLimit) (hu : un + 8 * (1 + 1) < cLine)
    (hret : ∀ h' tk' vs', IntsAre vs' (insG ns x) → Fr h₀ L h' m → News h₀ L h' ((row, W.listOf vs'.toArray (k + 1)) :: news0) → Q .none { s with heap := h', toks := tk' }) :
    wpAny (model Challenge.rw_gf0003_01.row.prog w) (ktrTop dp un gd cn cs L a ccd cl outer) (call (.ref 37) [.ref row, .int x tx]) Q E s := by
  revert hret hu hd hk Tp N X F B E Q s m L h₀ base A₀ outer cl ccd a cs cn gd un dp
  k_fill
  intro dp un gd cn cs a ccd cl outer A₀ base h₀ L m s Q E B F X N Tp hk hd hu hret
  refine wpAny_call ?_
  k_dflt (refine' code_def ?k1 ?k2 ?k3 ?k4 ?k5 ?kA ?kF ?kK ?k6 ?k7 ?k8 ?k9 ?kB ?_ ?c2 ?c3 ?c4 ?c5; (case kA => exact rfl); (case kF => exact rfl); (case kK => assumption); (case k1 => k_asm); (case k2 => k_asm); (case k3 => k_asm); (case k4 => k_asm); (case k5 => k_asm); (case k6 => k_is); (case k7 => k_is); (case k8 => ktr_room); (case k9 => (refine' kp_binds ?kx ?ke; (case kx => k_in); (case ke => exact fun _ => rfl))); (case c5 => decide); (case kB => exact locs rfl); (case c2 => exact rfl); (case c3 => exact rfl); (case c4 => exact rfl); k_whole; intro g' L' h' FG' F' N' B' X' T'; (try dsimp only); (try k_fold))
  walk_at "mysteps"
  rename Fr _ _ _ _ => F2
  rename News _ _ _ _ => N2
  k_dflt (refine' (bis_con4 w loose mean mg mb news0 row vs k ns x tx _ hI hl) _ _ _ _ _ _ _ _ _ _ _ _ _ _ _ _ _ ?B ?F ?X ?N ?T ?hk ?hd ?hu ?_; (case B => k_asm); (case F => exact F2); (case X => k_asm); (case N => exact N2); (case T => k_asm); (case hk => first | exact rfl | assumption); (case hd => cb_room); (case hu => cb_units))
  clear F2 N2
  intro t6 h6 tk6 F6 N6
  (try dsimp only)
  (try k_fold)
  walk_at "mysteps"
  rename Fr _ _ _ _ => F8
  rename News _ _ _ _ => N8
  have hr := bis_range ns x
  k_dflt (refine' kl_insert (its := vs.toArray) (n := k) (l := kl_ins vs (bis ns x) (.int x tx)) F8 N8 ?f rfl (Upd.head hoff) ?z ?_)
  case f => unfold Builtin.List.listFitsIndex; simp; omega
  case z => show vs.length ≤ _; rw [PySem.sizeLine_eq, hI.length]; omega
  clear F8 N8
  intro h9 F9 N9
  (try dsimp only)
  (try k_fold)
  walk_at "mysteps"
  exact hret _ _ _ (ints_ins hI _ _ _) (by assumption) (by assumption)
theorem ins_use {w : World} {loose : List Str} {mean : ExcName → Option Value} {mg mb : Str → Option Value} {news : List (Addr × Obj)} {g : Obj → List (Addr × Obj)} {row : Addr} {vs : List Value} {k : Nat} {ns : List Int} {x : Int} {tx : Tok}
    {dp un : Nat} {gd : Option (List Code)} {cn : Str} {cs : Scope} {a : Addr} {ccd : Value} {cl : List (Str × Addr)} {outer : List Env} {A₀ : Around} {base h₀ : Heap} {L : Addr} {m : Str → Option Value} {s : Shared} {Q E : Value → Shared → Prop} (ns' : List Int)
    (hI : IntsAre vs ns) (hl : ns.length ≤ 100) (e : insG ns x = ns')
    (B : Below A₀ base outer h₀) (F : Fr h₀ L s.heap m) (X : (hd.heap_39 w.params).In h₀) (N : News h₀ L s.heap news) (U : UpdF row (W.listOf vs.toArray k) news g) (Tp : Top hd.view_39 loose mean mg mb h₀) (hk : cs.kind = .function)
    (hd : dp + 1 + 1 < recursionLimit) (hu : un + 8 * (1 + 1) < cLine)
    (hret : ∀ h' tk' vs', IntsAre vs' ns' → Fr h₀ L h' m → News h₀ L h' (g (W.listOf vs'.toArray (k + 1))) → Q .none { s with heap := h', toks := tk' }) :
    wpAny (model Challenge.rw_gf0003_01.row.prog w) (ktrTop dp un gd cn cs L a ccd cl outer) (call (.ref 37) [.ref row, .int x tx]) Q E s := by
  obtain ⟨pre, post, rfl, hg, a1, a2⟩ := U.split
  subst e
  refine ins_con w loose mean mg mb (pre ++ post) row vs k ns x tx hI hl (fun p hp => ?_) dp un gd cn cs a ccd cl outer A₀ base h₀ L m s Q E B F X (fun p hp => N p ?_) Tp hk hd hu fun h' tk' vs' hI' F' N' => hret h' tk' vs' hI' F' fun p hp => N' p ?_
  · rcases List.mem_append.mp hp with hp | hp
    · exact a1 p hp
    · exact a2 p hp
  · simp only [List.mem_cons, List.mem_append] at hp ⊢
    rcases hp with hp | hp | hp
    · exact .inr (.inl hp)
    · exact .inl hp
    · exact .inr (.inr hp)
  · rw [hg] at hp
    simp only [List.mem_cons, List.mem_append] at hp ⊢
    rcases hp with hp | hp | hp
    · exact .inr (.inl hp)
    · exact .inl hp
    · exact .inr (.inr hp)
end Mine
end
section
open PySem PySem.W PyProof.Rows PyProof.V
set_option maxRecDepth 100000
set_option maxHeartbeats 400000
namespace Mine
section
variable {prog : Program} {w : World} {A : Around} {E : Value → Shared → Prop} {s : Shared} {R : Result → Shared → Prop} {h₀ : Heap} {L : Addr} {m : Str → Option Value} {env : Env}
open LCg in
/-- a comprehension over a list of the ledger -/
theorem comp_list1 {elt iter : PySem.Expr} {y : Str} {py : Pos} {scope : Scope} {pos : Pos} {cl : List (Str × Addr)} {Q : Value → Shared → Prop} {l : Addr} {ol : Obj} {vs : List Value} {nl : Nat} {news : List (Addr × Obj)}
    (hh : A.handled = none) (F : Fr h₀ L s.heap m) (N : News h₀ L s.heap news) (hl : (l, ol) ∈ news) (hlc : ol.cls = .type "list") (hld : ol.data = .seq vs.toArray nl)
    (hkind : scope.kind = .function) (hxb : scope.names.lookup y = some .local)
    (PF : Nat → List Value → List (Addr × Obj) → Prop) (hPF : PF 0 [] news) (hsz : ∀ i ys nw, i < vs.length → PF i ys nw → ys.length ≤ sizeLine)
    (step : ∀ i v ys news₁ I oI C oC D m₂ h tk (E' : Value → Shared → Prop), vs[i]? = some v → PF i ys news₁ → (∀ p ∈ news, p ∈ news₁) → NsObj oC m₂ → m₂ y = some v →
      Fr h₀ L h m → News h₀ L h ((I, oI) :: (C, oC) :: (D, lst ys) :: news₁) → Off3 I C D news₁ → ((@Ne Nat I C) ∧ (@Ne Nat I D) ∧ (@Ne Nat C D)) →
      wpAny (model prog w) A (eval elt (compEnvC scope cl C env)) (CompEnd h₀ L m { s with heap := h, toks := tk } I oI C oC D (lst ys) (fun nw => ∀ p ∈ news₁, p ∈ nw) (fun y nw => PF (i + 1) (ys ++ [y]) nw)) E' { s with heap := h, toks := tk })
    (fin : ∀ D h tk ys news', s.heap.objs.size ≤ D → Fr h₀ L h m → News h₀ L h ((D, lst ys) :: news') → (∀ p ∈ news, p ∈ news') → PF vs.length ys news' → Q (.ref D) { s with heap := h, toks := tk }) :
    wpAny (model prog w) A (pyIter (.ref l)) (fun it s₂ => CompAt prog w A h₀ L env (.ListComp elt [⟨.Name y py, iter, [], 0⟩] scope pos) scope cl Q it s₂) E s := by
  have hlist : s.heap.IsList l vs.toArray := ⟨ol, (N _ hl).1, hlc, _, hld⟩
  have hllt : l < s.heap.objs.size := Heap.lt_size (N _ hl).1
  have hLlt : L < s.heap.objs.size := F.ns.lt
  refine wpAny_pyIter_list hlist ?_
  refine ⟨m, news, fun ys nw => (∀ p ∈ news, p ∈ nw) ∧ PF vs.length ys nw, F.push _, fun p hp => ⟨Heap.get?_push_of_some _ (N p hp).1, (N p hp).2⟩, ?_, ?_⟩
  · intro D C h₁ tk hDge hCge hCD old F1 N1 hD1 hC1 hC0 hD0 hCL hDL
    rw [Heap.size_push] at hDge hCge
    have hit : h₁.IsListIter s.heap.objs.size l 0 := ⟨_, old _ _ (Heap.get?_push_size _ rfl), rfl, rfl⟩
    have hli : h₁.IsList l vs.toArray := hlist.at fun o e => old _ _ (Heap.get?_push_of_some _ e)
    have hI0 : h₀.get? s.heap.objs.size = none := next_is_new F
    have hIC : s.heap.objs.size ≠ C := Nat.ne_of_lt hCge
    have hID : s.heap.objs.size ≠ D := Nat.ne_of_lt hDge
    have hnewsI : ∀ p ∈ news, p.1 ≠ s.heap.objs.size ∧ p.1 ≠ C ∧ p.1 ≠ D := fun p hp => by
      have hlt := Heap.lt_size (N p hp).1
      exact ⟨Nat.ne_of_lt hlt, Nat.ne_of_lt (Nat.lt_trans hlt hCge), Nat.ne_of_lt (Nat.lt_trans hlt hDge)⟩
    have loop : codeAny (model prog w) A (.compLoop (.ListComp elt [⟨.Name y py, iter, [], 0⟩] scope pos) 0 (.ref s.heap.objs.size) (.ref D) (compEnvC scope cl C env)) (LoopOk h₀ L m { s with heap := s.heap.push { cls := .type "list_iterator", data := .fields #[.ref l, .int 0 0] } } C D (fun ys nw => (∀ p ∈ news, p ∈ nw) ∧ PF vs.length ys nw)) { s with heap := h₁, toks := tk } := by
      refine comp_last (s := { s with heap := h₁, toks := tk }) (ys₀ := []) (news := news) (compTurn_one _ _ _ _ _ _ _ _) (KTurns.ofWalks (Walks.list hh s.heap.objs.size l (Nat.ne_of_lt hllt) vs.toArray) (fun i v s Q E _ hq => wpAny_pure hq)) (fun i h st => let ⟨⟨_, he, _⟩, _⟩ := st; ⟨_, he⟩) ?_
        (fun _ => True) (fun i m₂ => ∃ v, vs[i]? = some v ∧ m₂ y = some v) ?_ PF (fun i ys nw hi => hsz i ys nw (by simpa using hi)) F1 N1 (let ⟨mc, h⟩ := hC1; ⟨mc, h, trivial⟩) hD1 (Off3.of hnewsI) ⟨hIC, hID, hCD⟩ ?_ ?_ (Nat.ne_of_lt hLlt) hCL hDL hI0 hC0 hD0 ⟨hit, hli⟩ hPF ?_ ?_
      · rintro i h h' oI nw ⟨⟨o, he, hr⟩, hr2⟩ e1 e2 hk N2 hs2
        refine ⟨⟨o, ?_, hr⟩, ol, (N2 _ (hs2 _ hl)).1, hlc, _, hld⟩
        rw [e2, ← e1]; exact he
      · rintro i v h tk' mc Q' E' hv hns _ hq
        have hv' : vs[i]? = some v := by simpa using hv
        refine wpAny_assign_Name (wpAny_storeName_local (lookup_relabel_local hxb) hns (fun h' hn' hs' => ?_) (by simp [compEnvC, relabel, hkind]))
        exact hq h' _ _ hn' ⟨v, hv', by simp⟩ trivial fun c o hc e => hs'.extBut c o hc e
      · intro hm2
        rcases List.mem_cons.mp hm2 with e | e
        · exact hIC e.symm
        · exact (hnewsI _ hl).2.1 (List.mem_singleton.mp e).symm
      · intro hm2
        rcases List.mem_cons.mp hm2 with e | e
        · exact hID e.symm
        · exact (hnewsI _ hl).2.2 (List.mem_singleton.mp e).symm
      · rintro i ys news₁ oI oC m₂ h tk2 E' hi hp1 hs1 hoC ⟨v, hv, hy⟩ _ F2 N2 off2
        exact step i v ys news₁ _ oI C oC D m₂ h tk2 E' hv hp1 hs1 hoC hy F2 N2 off2 ⟨hIC, hID, hCD⟩
      · intro h' tk2 ys news' mc F2 N2 hn2 _ hD2 off2 hs2 hp2
        rw [List.size_toArray] at hp2
        refine ⟨h', tk2, mc, ys, news', rfl, rfl, hn2, F2, fun p hp => ?_, fun p hp => (off2.mem p hp).2.1, hs2, hp2⟩
        rcases List.mem_cons.mp hp with rfl | hp
        · exact ⟨hD2, hDL, hD0⟩
        · exact N2 p hp
    exact codeAny_compStart_list loop (wpAny_pyIter_listiter hit loop)
  · rintro D h tk ys news' hDge F2 N2 ⟨hs2, hp2⟩
    rw [Heap.size_push] at hDge
    exact fin D h tk ys news' (Nat.le_of_succ_le hDge) F2 N2 hs2 hp2
theorem len_lot {nw nw' : List (Addr × Obj)} {b : Addr} {n : Nat} {Q : Value → Shared → Prop} (N : News h₀ L s.heap nw') (x : LotIs nw (.ref b) n) (hs : ∀ p ∈ nw, p ∈ nw') (hn : n ≤ 1000)
    (h : Q (.int n (s.toks + 1)) { s with toks := s.toks + 1 + 1 }) : wpAny (model prog w) A (call (.builtin "len") [.ref b]) Q E s := by
  obtain ⟨b', ob, items, k, e, h1, h2, h3, h4⟩ := x
  cases e
  subst h4
  exact len_tuple (items := items) ⟨ob, (N _ (hs _ h1)).1, h2, k, h3⟩ (by omega) h
theorem len_lots {nw nw' : List (Addr × Obj)} {l : Addr} {Ls : List Nat} {Q : Value → Shared → Prop} (N : News h₀ L s.heap nw') (x : LotsIn nw l Ls) (hs : ∀ p ∈ nw, p ∈ nw') (hn : Ls.length ≤ 1000)
    (h : Q (.int Ls.length (s.toks + 1)) { s with toks := s.toks + 1 + 1 }) : wpAny (model prog w) A (call (.builtin "len") [.ref l]) Q E s := by
  obtain ⟨ol, vs, k, h1, h2, h3, h4⟩ := x
  have e : vs.toArray.size = Ls.length := by simp [h4.1]
  exact Calls.call_len_list (items := vs.toArray) ⟨ol, (N _ (hs _ h1)).1, h2, k, h3⟩ (by omega) (by rw [e]; exact h)
/-- a list of ints of the ledger -/
def RowIs (nw : List (Addr × Obj)) (r : Addr) (ns : List Int) : Prop := ∃ vs k, (r, W.listOf vs.toArray k) ∈ nw ∧ IntsAre vs ns
theorem RowIs.sub {nw nw' : List (Addr × Obj)} {r : Addr} {ns : List Int} (h : RowIs nw r ns) (hs : ∀ p ∈ nw, p ∈ nw') : RowIs nw' r ns := let ⟨vs, k, h1, h2⟩ := h; ⟨vs, k, hs _ h1, h2⟩
theorem len_row {nw nw' : List (Addr × Obj)} {r : Addr} {ns : List Int} {Q : Value → Shared → Prop} (N : News h₀ L s.heap nw') (x : RowIs nw r ns) (hs : ∀ p ∈ nw, p ∈ nw') (hn : ns.length ≤ 1000)
    (h : Q (.int ns.length (s.toks + 1)) { s with toks := s.toks + 1 + 1 }) : wpAny (model prog w) A (call (.builtin "len") [.ref r]) Q E s := by
  obtain ⟨vs, k, h1, h2⟩ := x
  have e : vs.toArray.size = ns.length := by simp [h2.length]
  exact Calls.call_len_list (items := vs.toArray) ⟨_, (N _ (hs _ h1)).1, rfl, k, rfl⟩ (by omega) (by rw [e]; exact h)
theorem sub_row {value slice : PySem.Expr} {nw nw' : List (Addr × Obj)} {r : Addr} {ns : List Int} {k : Int} {u : Tok} {Q : Value → Shared → Prop} (N : News h₀ L s.heap nw') (x : RowIs nw r ns) (hs : ∀ p ∈ nw, p ∈ nw') (h0 : 0 ≤ k) (h1 : k < ns.length) (hfit : k < 2 ^ 63)
    (h : ∀ t, Q (.int (ns.getD k.toNat 0) t) s)
    (hsb : subscripted slice false (.ref r) (.int k u) = operate [.ref r, .int k u] (getItem (.ref r) (.int k u)) := by with_unfolding_all rfl) :
    wpAny (model prog w) A (subscriptTail value slice (.ref r) (.int k u)) Q E s := by
  obtain ⟨vs, n, h3, h2⟩ := x
  exact ksa_sub N (hs _ h3) h2 h0 h1 hfit h hsb
theorem sum_of {nw nw' : List (Addr × Obj)} {r : Addr} {ys : List Value} {ns : List Int} {Q : Value → Shared → Prop} (hh : A.handled = none) (F : Fr h₀ L s.heap m) (N : News h₀ L s.heap nw') (hm : (r, LCg.lst ys) ∈ nw') (hi : IntsAre ys ns)
    (h : ∀ h' tk t', Fr h₀ L h' m → News h₀ L h' nw' → Q (.int ns.sum t') { s with heap := h', toks := tk }) : wpAny (model prog w) A (call (.builtin "sum") [.ref r]) Q E s :=
  LSm.sum_ints F N hh ⟨_, (N _ hm).1, rfl, _, rfl⟩ hi h
end
end Mine
end
section
local macro_rules | `(tactic| walk_at "mine dummy 17 0") => `(tactic| skip)
local macro_rules | `(tactic| walk_at "mine dummy 17 1") => `(tactic| skip)
local macro_rules | `(tactic| walk_at "mine dummy 17 2") => `(tactic| skip)
local macro_rules | `(tactic| walk_at "mine dummy 17 3") => `(tactic| skip)
local macro_rules | `(tactic| walk_at "mine dummy 17 4") => `(tactic| skip)
local macro_rules | `(tactic| walk_at "mine dummy 17 5") => `(tactic| skip)
local macro_rules | `(tactic| walk_at "mine dummy 17 6") => `(tactic| skip)
local macro_rules | `(tactic| walk_at "mine dummy 17 7") => `(tactic| skip)
local macro_rules | `(tactic| walk_at "mine dummy 17 8") => `(tactic| skip)
local macro_rules | `(tactic| walk_at "mine dummy 17 9") => `(tactic| skip)
local macro_rules | `(tactic| walk_at "mine dummy 17 10") => `(tactic| skip)
local macro_rules | `(tactic| walk_at "mine dummy 17 11") => `(tactic| skip)
local macro_rules | `(tactic| walk_at "mine dummy 17 12") => `(tactic| skip)
local macro_rules | `(tactic| walk_at "mine dummy 17 13") => `(tactic| skip)
local macro_rules | `(tactic| walk_at "mine dummy 17 14") => `(tactic| skip)
local macro_rules | `(tactic| walk_at "mine dummy 17 15") => `(tactic| skip)
local macro_rules | `(tactic| walk_at "mine dummy 17 16") => `(tactic| skip)
local macro_rules | `(tactic| walk_at "mine dummy 17 17") => `(tactic| skip)
local macro_rules | `(tactic| walk_at "mine dummy 17 18") => `(tactic| skip)
local macro_rules | `(tactic| walk_at "mine dummy 17 19") => `(tactic| skip)
local macro_rules | `(tactic| walk_at "mine dummy 17 20") => `(tactic| skip)
local macro_rules | `(tactic| walk_at "mine dummy 17 21") => `(tactic| skip)
local macro_rules | `(tactic| walk_at "mine dummy 17 22") => `(tactic| skip)
local macro_rules | `(tactic| walk_at "mine dummy 17 23") => `(tactic| skip)
local macro_rules | `(tactic| walk_at "mine dummy 17 24") => `(tactic| skip)
local macro_rules | `(tactic| walk_at "mine dummy 17 25") => `(tactic| skip)
local macro_rules | `(tactic| walk_at "mine dummy 17 26") => `(tactic| skip)
local macro_rules | `(tactic| walk_at "mine dummy 17 27") => `(tactic| skip)
local macro_rules | `(tactic| walk_at "mine dummy 17 28") => `(tactic| skip)
local macro_rules | `(tactic| walk_at "mine dummy 17 29") => `(tactic| skip)
local macro_rules | `(tactic| walk_at "mine dummy 17 30") => `(tactic| skip)
local macro_rules | `(tactic| walk_at "mine dummy 17 31") => `(tactic| skip)
local macro_rules | `(tactic| walk_at "mine dummy 17 32") => `(tactic| skip)
local macro_rules | `(tactic| walk_at "mine dummy 17 33") => `(tactic| skip)
local macro_rules | `(tactic| walk_at "mine dummy 17 34") => `(tactic| skip)
local macro_rules | `(tactic| walk_at "mine dummy 17 35") => `(tactic| skip)
local macro_rules | `(tactic| walk_at "mine dummy 17 36") => `(tactic| skip)
local macro_rules | `(tactic| walk_at "mine dummy 17 37") => `(tactic| skip)
local macro_rules | `(tactic| walk_at "mine dummy 17 38") => `(tactic| skip)
local macro_rules | `(tactic| walk_at "mine dummy 17 39") => `(tactic| skip)
local macro_rules | `(tactic| walk_at "mine dummy 17 40") => `(tactic| skip)
local macro_rules | `(tactic| walk_at "mine dummy 17 41") => `(tactic| skip)
local macro_rules | `(tactic| walk_at "mine dummy 17 42") => `(tactic| skip)
local macro_rules | `(tactic| walk_at "mine dummy 17 43") => `(tactic| skip)
local macro_rules | `(tactic| walk_at "mine dummy 17 44") => `(tactic| skip)
local macro_rules | `(tactic| walk_at "mine dummy 17 45") => `(tactic| skip)
local macro_rules | `(tactic| walk_at "mine dummy 17 46") => `(tactic| skip)
local macro_rules | `(tactic| walk_at "mine dummy 17 47") => `(tactic| skip)
local macro_rules | `(tactic| walk_at "mine dummy 17 48") => `(tactic| skip)
local macro_rules | `(tactic| walk_at "mine dummy 17 49") => `(tactic| skip)
local macro_rules | `(tactic| walk_at "mine dummy 17 50") => `(tactic| skip)
local macro_rules | `(tactic| walk_at "mine dummy 17 51") => `(tactic| skip)
local macro_rules | `(tactic| walk_at "mine dummy 17 52") => `(tactic| skip)
local macro_rules | `(tactic| walk_at "mine dummy 17 53") => `(tactic| skip)
local macro_rules | `(tactic| walk_at "mine dummy 17 54") => `(tactic| skip)
local macro_rules | `(tactic| walk_at "mine dummy 17 55") => `(tactic| skip)
local macro_rules | `(tactic| walk_at "mine dummy 17 56") => `(tactic| skip)
local macro_rules | `(tactic| walk_at "mine dummy 17 57") => `(tactic| skip)
local macro_rules | `(tactic| walk_at "mine dummy 17 58") => `(tactic| skip)
local macro_rules | `(tactic| walk_at "mine dummy 17 59") => `(tactic| skip)
local macro_rules | `(tactic| walk_at "mine dummy 17 60") => `(tactic| skip)
local macro_rules | `(tactic| walk_at "mine dummy 17 61") => `(tactic| skip)
local macro_rules | `(tactic| walk_at "mine dummy 17 62") => `(tactic| skip)
local macro_rules | `(tactic| walk_at "mine dummy 17 63") => `(tactic| skip)
local macro_rules | `(tactic| walk_at "mine dummy 17 64") => `(tactic| skip)
local macro_rules | `(tactic| walk_at "mine dummy 17 65") => `(tactic| skip)
local macro_rules | `(tactic| walk_at "mine dummy 17 66") => `(tactic| skip)
local macro_rules | `(tactic| walk_at "mine dummy 17 67") => `(tactic| skip)
local macro_rules | `(tactic| walk_at "mine dummy 17 68") => `(tactic| skip)
local macro_rules | `(tactic| walk_at "mine dummy 17 69") => `(tactic| skip)
local macro_rules | `(tactic| walk_at "mine dummy 17 70") => `(tactic| skip)
local macro_rules | `(tactic| walk_at "mine dummy 17 71") => `(tactic| skip)
local macro_rules | `(tactic| walk_at "mine dummy 17 72") => `(tactic| skip)
local macro_rules | `(tactic| walk_at "mine dummy 17 73") => `(tactic| skip)
local macro_rules | `(tactic| walk_at "mine dummy 17 74") => `(tactic| skip)
local macro_rules | `(tactic| walk_at "mine dummy 17 75") => `(tactic| skip)
local macro_rules | `(tactic| walk_at "mine dummy 17 76") => `(tactic| skip)
local macro_rules | `(tactic| walk_at "mine dummy 17 77") => `(tactic| skip)
local macro_rules | `(tactic| walk_at "mine dummy 17 78") => `(tactic| skip)
local macro_rules | `(tactic| walk_at "mine dummy 17 79") => `(tactic| skip)
local macro_rules | `(tactic| walk_at "mine dummy 17 80") => `(tactic| skip)
local macro_rules | `(tactic| walk_at "mine dummy 17 81") => `(tactic| skip)
local macro_rules | `(tactic| walk_at "mine dummy 17 82") => `(tactic| skip)
local macro_rules | `(tactic| walk_at "mine dummy 17 83") => `(tactic| skip)
local macro_rules | `(tactic| walk_at "mine dummy 17 84") => `(tactic| skip)
local macro_rules | `(tactic| walk_at "mine dummy 17 85") => `(tactic| skip)
local macro_rules | `(tactic| walk_at "mine dummy 17 86") => `(tactic| skip)
local macro_rules | `(tactic| walk_at "mine dummy 17 87") => `(tactic| skip)
local macro_rules | `(tactic| walk_at "mine dummy 17 88") => `(tactic| skip)
local macro_rules | `(tactic| walk_at "mine dummy 17 89") => `(tactic| skip)
local macro_rules | `(tactic| walk_at "mine dummy 17 90") => `(tactic| skip)
local macro_rules | `(tactic| walk_at "mine dummy 17 91") => `(tactic| skip)
local macro_rules | `(tactic| walk_at "mine dummy 17 92") => `(tactic| skip)
local macro_rules | `(tactic| walk_at "mine dummy 17 93") => `(tactic| skip)
local macro_rules | `(tactic| walk_at "mine dummy 17 94") => `(tactic| skip)
local macro_rules | `(tactic| walk_at "mine dummy 17 95") => `(tactic| skip)
local macro_rules | `(tactic| walk_at "mine dummy 17 96") => `(tactic| skip)
local macro_rules | `(tactic| walk_at "mine dummy 17 97") => `(tactic| skip)
local macro_rules | `(tactic| walk_at "mine dummy 17 98") => `(tactic| skip)
local macro_rules | `(tactic| walk_at "mine dummy 17 99") => `(tactic| skip)
local macro_rules | `(tactic| walk_at "mine dummy 17 100") => `(tactic| skip)
local macro_rules | `(tactic| walk_at "mine dummy 17 101") => `(tactic| skip)
local macro_rules | `(tactic| walk_at "mine dummy 17 102") => `(tactic| skip)
local macro_rules | `(tactic| walk_at "mine dummy 17 103") => `(tactic| skip)
local macro_rules | `(tactic| walk_at "mine dummy 17 104") => `(tactic| skip)
local macro_rules | `(tactic| walk_at "mine dummy 17 105") => `(tactic| skip)
local macro_rules | `(tactic| walk_at "mine dummy 17 106") => `(tactic| skip)
local macro_rules | `(tactic| walk_at "mine dummy 17 107") => `(tactic| skip)
local macro_rules | `(tactic| walk_at "mine dummy 17 108") => `(tactic| skip)
local macro_rules | `(tactic| walk_at "mine dummy 17 109") => `(tactic| skip)
local macro_rules | `(tactic| walk_at "mine dummy 17 110") => `(tactic| skip)
local macro_rules | `(tactic| walk_at "mine dummy 17 111") => `(tactic| skip)
local macro_rules | `(tactic| walk_at "mine dummy 17 112") => `(tactic| skip)
local macro_rules | `(tactic| walk_at "mine dummy 17 113") => `(tactic| skip)
local macro_rules | `(tactic| walk_at "mine dummy 17 114") => `(tactic| skip)
local macro_rules | `(tactic| walk_at "mine dummy 17 115") => `(tactic| skip)
local macro_rules | `(tactic| walk_at "mine dummy 17 116") => `(tactic| skip)
local macro_rules | `(tactic| walk_at "mine dummy 17 117") => `(tactic| skip)
local macro_rules | `(tactic| walk_at "mine dummy 17 118") => `(tactic| skip)
local macro_rules | `(tactic| walk_at "mine dummy 17 119") => `(tactic| skip)
local macro_rules | `(tactic| walk_at "mine dummy 17 120") => `(tactic| skip)
local macro_rules | `(tactic| walk_at "mine dummy 17 121") => `(tactic| skip)
local macro_rules | `(tactic| walk_at "mine dummy 17 122") => `(tactic| skip)
local macro_rules | `(tactic| walk_at "mine dummy 17 123") => `(tactic| skip)
local macro_rules | `(tactic| walk_at "mine dummy 17 124") => `(tactic| skip)
local macro_rules | `(tactic| walk_at "mine dummy 17 125") => `(tactic| skip)
local macro_rules | `(tactic| walk_at "mine dummy 17 126") => `(tactic| skip)
local macro_rules | `(tactic| walk_at "mine dummy 17 127") => `(tactic| skip)
local macro_rules | `(tactic| walk_at "mine dummy 17 128") => `(tactic| skip)
local macro_rules | `(tactic| walk_at "mine dummy 17 129") => `(tactic| skip)
local macro_rules | `(tactic| walk_at "mine dummy 17 130") => `(tactic| skip)
local macro_rules | `(tactic| walk_at "mine dummy 17 131") => `(tactic| skip)
local macro_rules | `(tactic| walk_at "mine dummy 17 132") => `(tactic| skip)
local macro_rules | `(tactic| walk_at "mine dummy 17 133") => `(tactic| skip)
local macro_rules | `(tactic| walk_at "mine dummy 17 134") => `(tactic| skip)
local macro_rules | `(tactic| walk_at "mine dummy 17 135") => `(tactic| skip)
local macro_rules | `(tactic| walk_at "mine dummy 17 136") => `(tactic| skip)
local macro_rules | `(tactic| walk_at "mine dummy 17 137") => `(tactic| skip)
local macro_rules | `(tactic| walk_at "mine dummy 17 138") => `(tactic| skip)
local macro_rules | `(tactic| walk_at "mine dummy 17 139") => `(tactic| skip)
local macro_rules | `(tactic| walk_at "mine dummy 17 140") => `(tactic| skip)
local macro_rules | `(tactic| walk_at "mine dummy 17 141") => `(tactic| skip)
local macro_rules | `(tactic| walk_at "mine dummy 17 142") => `(tactic| skip)
local macro_rules | `(tactic| walk_at "mine dummy 17 143") => `(tactic| skip)
local macro_rules | `(tactic| walk_at "mine dummy 17 144") => `(tactic| skip)
local macro_rules | `(tactic| walk_at "mine dummy 17 145") => `(tactic| skip)
local macro_rules | `(tactic| walk_at "mine dummy 17 146") => `(tactic| skip)
local macro_rules | `(tactic| walk_at "mine dummy 17 147") => `(tactic| skip)
local macro_rules | `(tactic| walk_at "mine dummy 17 148") => `(tactic| skip)
local macro_rules | `(tactic| walk_at "mine dummy 17 149") => `(tactic| skip)
local macro_rules | `(tactic| walk_at "mine dummy 17 150") => `(tactic| skip)
local macro_rules | `(tactic| walk_at "mine dummy 17 151") => `(tactic| skip)
local macro_rules | `(tactic| walk_at "mine dummy 17 152") => `(tactic| skip)
local macro_rules | `(tactic| walk_at "mine dummy 17 153") => `(tactic| skip)
local macro_rules | `(tactic| walk_at "mine dummy 17 154") => `(tactic| skip)
local macro_rules | `(tactic| walk_at "mine dummy 17 155") => `(tactic| skip)
local macro_rules | `(tactic| walk_at "mine dummy 17 156") => `(tactic| skip)
local macro_rules | `(tactic| walk_at "mine dummy 17 157") => `(tactic| skip)
local macro_rules | `(tactic| walk_at "mine dummy 17 158") => `(tactic| skip)
local macro_rules | `(tactic| walk_at "mine dummy 17 159") => `(tactic| skip)
local macro_rules | `(tactic| walk_at "mine dummy 17 160") => `(tactic| skip)
local macro_rules | `(tactic| walk_at "mine dummy 17 161") => `(tactic| skip)
local macro_rules | `(tactic| walk_at "mine dummy 17 162") => `(tactic| skip)
local macro_rules | `(tactic| walk_at "mine dummy 17 163") => `(tactic| skip)
local macro_rules | `(tactic| walk_at "mine dummy 17 164") => `(tactic| skip)
local macro_rules | `(tactic| walk_at "mine dummy 17 165") => `(tactic| skip)
local macro_rules | `(tactic| walk_at "mine dummy 17 166") => `(tactic| skip)
local macro_rules | `(tactic| walk_at "mine dummy 17 167") => `(tactic| skip)
local macro_rules | `(tactic| walk_at "mine dummy 17 168") => `(tactic| skip)
local macro_rules | `(tactic| walk_at "mine dummy 17 169") => `(tactic| skip)
local macro_rules | `(tactic| walk_at "mine dummy 17 170") => `(tactic| skip)
local macro_rules | `(tactic| walk_at "mine dummy 17 171") => `(tactic| skip)
local macro_rules | `(tactic| walk_at "mine dummy 17 172") => `(tactic| skip)
local macro_rules | `(tactic| walk_at "mine dummy 17 173") => `(tactic| skip)
local macro_rules | `(tactic| walk_at "mine dummy 17 174") => `(tactic| skip)
local macro_rules | `(tactic| walk_at "mine dummy 17 175") => `(tactic| skip)
local macro_rules | `(tactic| walk_at "mine dummy 17 176") => `(tactic| skip)
local macro_rules | `(tactic| walk_at "mine dummy 17 177") => `(tactic| skip)
local macro_rules | `(tactic| walk_at "mine dummy 17 178") => `(tactic| skip)
local macro_rules | `(tactic| walk_at "mine dummy 17 179") => `(tactic| skip)
local macro_rules | `(tactic| walk_at "mine dummy 17 180") => `(tactic| skip)
local macro_rules | `(tactic| walk_at "mine dummy 17 181") => `(tactic| skip)
local macro_rules | `(tactic| walk_at "mine dummy 17 182") => `(tactic| skip)
local macro_rules | `(tactic| walk_at "mine dummy 17 183") => `(tactic| skip)
local macro_rules | `(tactic| walk_at "mine dummy 17 184") => `(tactic| skip)
local macro_rules | `(tactic| walk_at "mine dummy 17 185") => `(tactic| skip)
local macro_rules | `(tactic| walk_at "mine dummy 17 186") => `(tactic| skip)
local macro_rules | `(tactic| walk_at "mine dummy 17 187") => `(tactic| skip)
local macro_rules | `(tactic| walk_at "mine dummy 17 188") => `(tactic| skip)
local macro_rules | `(tactic| walk_at "mine dummy 17 189") => `(tactic| skip)
local macro_rules | `(tactic| walk_at "mine dummy 17 190") => `(tactic| skip)
local macro_rules | `(tactic| walk_at "mine dummy 17 191") => `(tactic| skip)
local macro_rules | `(tactic| walk_at "mine dummy 17 192") => `(tactic| skip)
local macro_rules | `(tactic| walk_at "mine dummy 17 193") => `(tactic| skip)
local macro_rules | `(tactic| walk_at "mine dummy 17 194") => `(tactic| skip)
local macro_rules | `(tactic| walk_at "mine dummy 17 195") => `(tactic| skip)
local macro_rules | `(tactic| walk_at "mine dummy 17 196") => `(tactic| skip)
local macro_rules | `(tactic| walk_at "mine dummy 17 197") => `(tactic| skip)
local macro_rules | `(tactic| walk_at "mine dummy 17 198") => `(tactic| skip)
local macro_rules | `(tactic| walk_at "mine dummy 17 199") => `(tactic| skip)
local macro_rules | `(tactic| walk_at "mine dummy 17 200") => `(tactic| skip)
local macro_rules | `(tactic| walk_at "mine dummy 17 201") => `(tactic| skip)
local macro_rules | `(tactic| walk_at "mine dummy 17 202") => `(tactic| skip)
local macro_rules | `(tactic| walk_at "mine dummy 17 203") => `(tactic| skip)
local macro_rules | `(tactic| walk_at "mine dummy 17 204") => `(tactic| skip)
local macro_rules | `(tactic| walk_at "mine dummy 17 205") => `(tactic| skip)
local macro_rules | `(tactic| walk_at "mine dummy 17 206") => `(tactic| skip)
local macro_rules | `(tactic| walk_at "mine dummy 17 207") => `(tactic| skip)
local macro_rules | `(tactic| walk_at "mine dummy 17 208") => `(tactic| skip)
local macro_rules | `(tactic| walk_at "mine dummy 17 209") => `(tactic| skip)
local macro_rules | `(tactic| walk_at "mine dummy 17 210") => `(tactic| skip)
local macro_rules | `(tactic| walk_at "mine dummy 17 211") => `(tactic| skip)
local macro_rules | `(tactic| walk_at "mine dummy 17 212") => `(tactic| skip)
local macro_rules | `(tactic| walk_at "mine dummy 17 213") => `(tactic| skip)
local macro_rules | `(tactic| walk_at "mine dummy 17 214") => `(tactic| skip)
local macro_rules | `(tactic| walk_at "mine dummy 17 215") => `(tactic| skip)
open PySem PySem.W PyProof.Rows PyProof.V
set_option maxRecDepth 100000
set_option maxHeartbeats 8000000
namespace Mine
local macro_rules | `(tactic| walk_at "mysteps") => `(tactic| repeat' (first | (k_unfold; (try dsimp only)) | (k_end; wrow_close) | ((fail_if_success (with_reducible show wpAny _ _ (exec (Stmt.While _ _ _ _) _) _ _ _)); (fail_if_success (with_reducible show WhlIf _ _ _)); (fail_if_success (with_reducible show WhlStep _ _ _ _)); (fail_if_success (with_reducible show wpAny _ _ (call (Value.ref _) _) _ _ _)); walk1) | (dsimp only; (fail_if_success (with_reducible show wpAny _ _ (exec (Stmt.While _ _ _ _) _) _ _ _)); (fail_if_success (with_reducible show WhlIf _ _ _)); (fail_if_success (with_reducible show WhlStep _ _ _ _)); (fail_if_success (with_reducible show wpAny _ _ (call (Value.ref _) _) _ _ _)); walk1) | (leave1; walk_say "STEP leave1"; try dsimp only) | fail "no step"))
local macro_rules | `(tactic| walk_at "mysteps2") => `(tactic| repeat' (first | (k_unfold; (try dsimp only)) | (k_end; wrow_close) | ((fail_if_success (with_reducible show wpAny _ _ (exec (Stmt.While _ _ _ _) _) _ _ _)); (fail_if_success (with_reducible show WhlIf _ _ _)); (fail_if_success (with_reducible show WhlStep _ _ _ _)); (fail_if_success (with_reducible show wpAny _ _ (call (Value.ref _) _) _ _ _)); (fail_if_success (with_reducible show wpAny _ _ (exec (Stmt.For _ _ _ _ _) _) _ _ _)); walk1) | (dsimp only; (fail_if_success (with_reducible show wpAny _ _ (exec (Stmt.While _ _ _ _) _) _ _ _)); (fail_if_success (with_reducible show WhlIf _ _ _)); (fail_if_success (with_reducible show WhlStep _ _ _ _)); (fail_if_success (with_reducible show wpAny _ _ (call (Value.ref _) _) _ _ _)); (fail_if_success (with_reducible show wpAny _ _ (exec (Stmt.For _ _ _ _ _) _) _ _ _)); walk1) | (leave1; walk_say "STEP leave1"; try dsimp only) | fail "no step"))
local macro_rules | `(tactic| walk_at "mysteps4") => `(tactic| repeat' (first | (k_unfold; (try dsimp only)) | (k_end; wrow_close) | ((fail_if_success (with_reducible show wpAny _ _ (exec (Stmt.While _ _ _ _) _) _ _ _)); (fail_if_success (with_reducible show WhlIf _ _ _)); (fail_if_success (with_reducible show WhlStep _ _ _ _)); (fail_if_success (with_reducible show wpAny _ _ (call (Value.ref _) _) _ _ _)); (fail_if_success (with_reducible show wpAny _ _ (call (Value.builtin "dict.get") _) _ _ _)); (fail_if_success (with_reducible show wpAny _ _ (call (Value.builtin "sum") _) _ _ _)); (fail_if_success (with_reducible show wpAny _ _ (exec (Stmt.For _ _ _ _ _) _) _ _ _)); walk1) | (dsimp only; (fail_if_success (with_reducible show wpAny _ _ (exec (Stmt.While _ _ _ _) _) _ _ _)); (fail_if_success (with_reducible show WhlIf _ _ _)); (fail_if_success (with_reducible show WhlStep _ _ _ _)); (fail_if_success (with_reducible show wpAny _ _ (call (Value.ref _) _) _ _ _)); (fail_if_success (with_reducible show wpAny _ _ (call (Value.builtin "dict.get") _) _ _ _)); (fail_if_success (with_reducible show wpAny _ _ (call (Value.builtin "sum") _) _ _ _)); (fail_if_success (with_reducible show wpAny _ _ (exec (Stmt.For _ _ _ _ _) _) _ _ _)); walk1) | (leave1; walk_say "STEP leave1"; try dsimp only) | fail "no step"))
local macro_rules | `(tactic| walk_at "mysteps3") => `(tactic| repeat' (first | (k_unfold; (try dsimp only)) | (k_end; wrow_close) | ((fail_if_success (with_reducible show wpAny _ _ (exec (Stmt.While _ _ _ _) _) _ _ _)); (fail_if_success (with_reducible show WhlIf _ _ _)); (fail_if_success (with_reducible show WhlStep _ _ _ _)); (fail_if_success (with_reducible show wpAny _ _ (call (Value.ref _) _) _ _ _)); (fail_if_success (with_reducible show wpAny _ _ (isTrue _ _ _) _ _ _)); (fail_if_success (with_reducible show wpAny _ _ (exec (Stmt.For _ _ _ _ _) _) _ _ _)); walk1) | (dsimp only; (fail_if_success (with_reducible show wpAny _ _ (exec (Stmt.While _ _ _ _) _) _ _ _)); (fail_if_success (with_reducible show WhlIf _ _ _)); (fail_if_success (with_reducible show WhlStep _ _ _ _)); (fail_if_success (with_reducible show wpAny _ _ (call (Value.ref _) _) _ _ _)); (fail_if_success (with_reducible show wpAny _ _ (isTrue _ _ _) _ _ _)); (fail_if_success (with_reducible show wpAny _ _ (exec (Stmt.For _ _ _ _ _) _) _ _ _)); walk1) | (leave1; walk_say "STEP leave1"; try dsimp only) | fail "no step"))
local macro_rules | `(tactic| walk_at "eval ListComp") => `(tactic| (k_here; k_dflt (refine' comp_eval ?F0 ?c1 ?c2 ?c3 ?c4 ?_; (case F0 => k_asm); (case c1 => with_unfolding_all rfl); (case c2 => decide); (case c3 => rfl); (case c4 => decide))))
local macro_rules | `(tactic| walk_at "call builtin:len") => `(tactic| (k_here; k_dflt (first
  | (refine' len_lot ?N ?I ?s ?n ?_; (case N => k_asm); (case I => with_reducible assumption); (case s => (intro p hp; (repeat (first | exact hp | refine List.Mem.tail _ ?_)))); (case n => omega))
  | (refine' len_lots ?N ?I ?s ?n ?_; (case N => k_asm); (case I => with_reducible assumption); (case s => (intro p hp; (repeat (first | exact hp | refine List.Mem.tail _ ?_)))); (case n => omega))
  | (refine' len_row ?N ?I ?s ?n ?_; (case N => k_asm); (case I => with_reducible assumption); (case s => (intro p hp; (repeat (first | exact hp | refine List.Mem.tail _ ?_)))); (case n => decide)))))
local macro_rules | `(tactic| walk_at "subscriptTail") => `(tactic| (k_here; k_dflt (refine' sub_row ?N ?I ?s ?a ?b ?c ?_ ?d; (case N => k_asm); (case I => with_reducible assumption); (case s => (intro p hp; (repeat (first | exact hp | refine List.Mem.tail _ ?_)))); (case a => omega); (case b => first | omega | (simp; omega)); (case c => omega); (case d => with_unfolding_all rfl)); intro tS))
local macro_rules | `(tactic| walk_at "call builtin:sum") => `(tactic| (k_here; k_dflt (refine' sum_of ?a ?F ?N ?m ?I ?_; (case a => rfl); (case F => k_asm); (case N => k_asm); (case m => exact .head _); (case I => with_reducible assumption)); intro hS tkS tS FS NS))
local macro_rules | `(tactic| walk_at "getMethod ref") => `(tactic| (k_here; k_dflt (refine' getGet_TT ?N ?T ?_; (case N => k_asm); (case T => exact TT.sub (by with_reducible assumption) (by (intro p hp; (repeat (first | exact hp | refine List.Mem.tail _ ?_))))))))
local macro_rules | `(tactic| walk_at "call ref") => `(tactic| (k_here; (with_reducible show wpAny _ _ (call (Value.ref 68) _) _ _ _); k_dflt (refine' ways_use ?C ?B ?F ?X ?N ?T ?hk ?hp ?hl ?hd ?hu ?_; (case B => k_asm); (case F => k_asm); (case X => k_asm); (case N => k_asm); (case T => k_asm); (case C => exact ways_all _ _ _ _ _ 11); (case hk => first | exact rfl | assumption); (case hp => omega); (case hl => omega); (case hd => cb_room); (case hu => cb_units)); intro t9 h9 tk9 F9 N9; (try dsimp only); (try k_fold)))
def sgn (n : Nat) : Int := 1 - 2 * (n : Int).fmod 2
theorem sum_one (b : Int) (h1 : 1 ≤ b) (h2 : b ≤ 10) : sumT (tabN 1 b.toNat) = 2 ^ b.toNat := by
  have h : ∀ n, n < 11 → sumT (tabN 1 n) = 2 ^ n := by decide +kernel
  exact h _ (by omega)
theorem sum_two (b : Int) (h1 : 1 ≤ b) (h2 : b ≤ 10) : sumT (tabN (-1) b.toNat) = 0 := by
  have h : ∀ n, n < 11 → 1 ≤ n → sumT (tabN (-1) n) = 0 := by decide +kernel
  exact h _ (by omega) (by omega)
theorem lots_len (w : Int) (h1 : 0 ≤ w) (h2 : w ≤ 10) : (lotN 11 w w).length ≤ 1000 := by
  have h : ∀ n : Nat, n < 11 → (lotN 11 (n : Int) (n : Int)).length ≤ 1000 := by decide +kernel
  have := h w.toNat (by omega)
  rwa [Int.toNat_of_nonneg h1] at this
theorem sum_to {prog : Program} {w : World} {A : Around} {E : Value → Shared → Prop} {s : Shared} {h₀ : Heap} {L : Addr} {m : Str → Option Value} {nw' : List (Addr × Obj)} {r : Addr} {ys : List Value} {ns : List Int} {Q : Value → Shared → Prop} (x : Int) (hx : ns.sum = x) (hh : A.handled = none) (F : Fr h₀ L s.heap m) (N : News h₀ L s.heap nw') (hm : (r, LCg.lst ys) ∈ nw') (hi : IntsAre ys ns)
    (h : ∀ h' tk t', Fr h₀ L h' m → News h₀ L h' nw' → Q (.int x t') { s with heap := h', toks := tk }) : wpAny (model prog w) A (call (.builtin "sum") [.ref r]) Q E s := by
  subst hx
  exact sum_of (nw := nw') hh F N hm hi h
def rowN : List Int := [1, 2, 5, 7, 12, 15, 22, 26]
def sgs (w : Int) : Int := ((lotN 11 w w).map sgn).sum
def dueN (w pl : Int) : Int := if w = 0 then 1 else (1 - 2 * (pl.fdiv 2 + 1).fmod 2) * (if rowN.getD pl.toNat 0 = w then 1 else 0)
theorem law_nat : ∀ b : Nat, b < 11 → ∀ n : Nat, n ≤ b → (getT (n : Int) (tabN 1 b)).getD 0 = ((lotN 11 (n : Int) (n : Int)).length : Int) ∧ (getT (n : Int) (tabN (-1) b)).getD 0 = sgs (n : Int) := by decide +kernel
theorem due_nat : ∀ n : Nat, n < 11 → sgs (n : Int) = dueN (n : Int) (bis rowN (n : Int)) ∧ bis rowN (n : Int) < 8 := by decide +kernel
theorem law_at {b w : Int} (h1 : 0 ≤ w) (h2 : w ≤ b) (h3 : b ≤ 10) : (getT w (tabN 1 b.toNat)).getD 0 = ((lotN 11 w w).length : Int) ∧ (getT w (tabN (-1) b.toNat)).getD 0 = sgs w := by
  have := law_nat b.toNat (by omega) w.toNat (by omega)
  rwa [Int.toNat_of_nonneg h1] at this
theorem due_at {w : Int} (h1 : 0 ≤ w) (h2 : w ≤ 10) : sgs w = dueN w (bis rowN w) ∧ bis rowN w < 8 := by
  have := due_nat w.toNat (by omega)
  rwa [Int.toNat_of_nonneg h1] at this
theorem bis_use {w : World} {loose : List Str} {mean : ExcName → Option Value} {mg mb : Str → Option Value} {nw news : List (Addr × Obj)} {row : Addr} {ns : List Int} {x : Int} {tx : Tok} (pl : Int) (hp : bis ns x = pl)
    {dp un : Nat} {gd : Option (List Code)} {cn : Str} {cs : Scope} {a : Addr} {ccd : Value} {cl : List (Str × Addr)} {outer : List Env} {A₀ : Around} {base h₀ : Heap} {L : Addr} {m : Str → Option Value} {s : Shared} {Q E : Value → Shared → Prop}
    (hr : RowIs nw row ns) (hs : ∀ p ∈ nw, p ∈ news) (hl : ns.length ≤ 100)
    (B : Below A₀ base outer h₀) (F : Fr h₀ L s.heap m) (X : (hd.heap_39 w.params).In h₀) (N : News h₀ L s.heap news) (Tp : Top hd.view_39 loose mean mg mb h₀) (hk : cs.kind = .function)
    (hd : dp + 0 + 1 < recursionLimit) (hu : un + 8 * (0 + 1) < cLine)
    (hret : ∀ t h' tk', Fr h₀ L h' m → News h₀ L h' news → Q (.int pl t) { s with heap := h', toks := tk' }) :
    wpAny (model Challenge.rw_gf0003_01.row.prog w) (ktrTop dp un gd cn cs L a ccd cl outer) (call (.ref 46) [.ref row, .int x tx]) Q E s := by
  obtain ⟨vs, k, hm, hI⟩ := hr
  subst hp
  refine bis_con2 w loose mean mg mb news row vs k ns x tx hI hl dp un gd cn cs a ccd cl outer A₀ base h₀ L m s Q E B F X (fun p hp => ?_) Tp hk hd hu fun t h' tk' F' N' => hret t h' tk' F' fun p hp => N' p (.tail _ hp)
  rcases List.mem_cons.mp hp with rfl | hp
  · exact N _ (hs _ hm)
  · exact N _ hp
theorem due_one {w pl : Int} (h : bis rowN w = pl) (h1 : 0 ≤ w) (h2 : w ≤ 10) : (w = 0 → sgs w = 1) ∧ (w ≠ 0 → sgs w = (1 - 2 * (pl.fdiv 2 + 1).fmod 2) * if (([1, 2, 5, 7, 12, 15, 22, 26] : List Int).getD pl.toNat 0 == w) = true then 1 else 0) ∧ pl < (([1, 2, 5, 7, 12, 15, 22, 26] : List Int).length : Int) := by
  have := due_at h1 h2
  rw [h] at this
  unfold dueN at this
  refine ⟨fun e => by rw [this.1, if_pos e], fun e => ?_, this.2⟩
  rw [this.1, if_neg e]
  simp [rowN, beq_iff_eq]
theorem row_items {nw : List (Addr × Obj)} {r : Addr} (h : RowIs nw r [1, 2, 5, 7, 12, 15, 22, 26]) : ∃ u1 u2 u3 u4 u5 u6 u7 u8 k, (r, W.listOf #[.int 1 u1, .int 2 u2, .int 5 u3, .int 7 u4, .int 12 u5, .int 15 u6, .int 22 u7, .int 26 u8] k) ∈ nw := by
  obtain ⟨vs, k, hm, hI⟩ := h
  obtain ⟨u1, vs1, rfl, h1⟩ := hI.cons_inv
  obtain ⟨u2, vs2, rfl, h2⟩ := h1.cons_inv
  obtain ⟨u3, vs3, rfl, h3⟩ := h2.cons_inv
  obtain ⟨u4, vs4, rfl, h4⟩ := h3.cons_inv
  obtain ⟨u5, vs5, rfl, h5⟩ := h4.cons_inv
  obtain ⟨u6, vs6, rfl, h6⟩ := h5.cons_inv
  obtain ⟨u7, vs7, rfl, h7⟩ := h6.cons_inv
  obtain ⟨u8, vs8, rfl, h8⟩ := h7.cons_inv
  obtain rfl := h8.nil_inv
  exact ⟨u1, u2, u3, u4, u5, u6, u7, u8, k, hm⟩
theorem two_names {h₀ h : Heap} {L : Addr} {m : Str → Option Value} {bd : Int} {tb : Tok} {r : Addr} {vs : List Value} {k : Nat} {ns : List Int} {news : List (Addr × Obj)} (F : Fr h₀ L h m) (_N : News h₀ L h news) (I : IntsAre vs ns) (h1 : m (Str.ofString "bound") = some (.int bd tb)) (h2 : m (Str.ofString "row") = some (.ref r)) (hr : (r, W.listOf vs.toArray k) ∈ news) :
    ∃ (m₀ : Str → Option Value) (r' : Addr) (tb' : Tok), Fr h₀ L h (fun y => if y = Str.ofString "row" then some (.ref r') else if y = Str.ofString "bound" then some (.int bd tb') else m₀ y) ∧ RowIs news r' ns := ⟨m, r, tb, by rw [mset h2, mset h1] at F; exact F, vs, k, hr, I⟩
theorem law_walk : PySem.Challenge.rw_gf0003_01.Holds := hd (by
  k_go0
  all_goals (try k_fold)
  have I0 : IntsAre [] [] := .nil
  walk_at "mysteps"
  rename Fr _ _ _ _ => F2
  rename News _ _ _ _ => N2
  k_dflt (refine' ins_use [1] I0 (by decide) (by decide +kernel) ?B F2 ?X N2 ?U ?T ?hk ?hd ?hu ?_; (case U => k_updF); (case B => k_asm); (case X => k_asm); (case T => k_asm); (case hk => first | exact rfl | assumption); (case hd => cb_room); (case hu => cb_units))
  clear F2 N2 I0
  intro h3 tk3 vs1 I1 F3 N3
  (try dsimp only at N3)
  (try dsimp only)
  (try k_fold)
  walk_at "mysteps"
  rename Fr _ _ _ _ => F2
  rename News _ _ _ _ => N2
  k_dflt (refine' ins_use [1, 2] I1 (by decide) (by decide +kernel) ?B F2 ?X N2 ?U ?T ?hk ?hd ?hu ?_; (case U => k_updF); (case B => k_asm); (case X => k_asm); (case T => k_asm); (case hk => first | exact rfl | assumption); (case hd => cb_room); (case hu => cb_units))
  clear F2 N2 I1
  intro h3 tk3 vs2 I2 F3 N3
  (try dsimp only at N3)
  (try dsimp only)
  (try k_fold)
  walk_at "mysteps"
  rename Fr _ _ _ _ => F2
  rename News _ _ _ _ => N2
  k_dflt (refine' ins_use [1, 2, 5] I2 (by decide) (by decide +kernel) ?B F2 ?X N2 ?U ?T ?hk ?hd ?hu ?_; (case U => k_updF); (case B => k_asm); (case X => k_asm); (case T => k_asm); (case hk => first | exact rfl | assumption); (case hd => cb_room); (case hu => cb_units))
  clear F2 N2 I2
  intro h3 tk3 vs3 I3 F3 N3
  (try dsimp only at N3)
  (try dsimp only)
  (try k_fold)
  walk_at "mysteps"
  rename Fr _ _ _ _ => F2
  rename News _ _ _ _ => N2
  k_dflt (refine' ins_use [1, 2, 5, 7] I3 (by decide) (by decide +kernel) ?B F2 ?X N2 ?U ?T ?hk ?hd ?hu ?_; (case U => k_updF); (case B => k_asm); (case X => k_asm); (case T => k_asm); (case hk => first | exact rfl | assumption); (case hd => cb_room); (case hu => cb_units))
  clear F2 N2 I3
  intro h3 tk3 vs4 I4 F3 N3
  (try dsimp only at N3)
  (try dsimp only)
  (try k_fold)
  walk_at "mysteps"
  rename Fr _ _ _ _ => F2
  rename News _ _ _ _ => N2
  k_dflt (refine' ins_use [1, 2, 5, 7, 12] I4 (by decide) (by decide +kernel) ?B F2 ?X N2 ?U ?T ?hk ?hd ?hu ?_; (case U => k_updF); (case B => k_asm); (case X => k_asm); (case T => k_asm); (case hk => first | exact rfl | assumption); (case hd => cb_room); (case hu => cb_units))
  clear F2 N2 I4
  intro h3 tk3 vs5 I5 F3 N3
  (try dsimp only at N3)
  (try dsimp only)
  (try k_fold)
  walk_at "mysteps"
  rename Fr _ _ _ _ => F2
  rename News _ _ _ _ => N2
  k_dflt (refine' ins_use [1, 2, 5, 7, 12, 15] I5 (by decide) (by decide +kernel) ?B F2 ?X N2 ?U ?T ?hk ?hd ?hu ?_; (case U => k_updF); (case B => k_asm); (case X => k_asm); (case T => k_asm); (case hk => first | exact rfl | assumption); (case hd => cb_room); (case hu => cb_units))
  clear F2 N2 I5
  intro h3 tk3 vs6 I6 F3 N3
  (try dsimp only at N3)
  (try dsimp only)
  (try k_fold)
  walk_at "mysteps"
  rename Fr _ _ _ _ => F2
  rename News _ _ _ _ => N2
  k_dflt (refine' ins_use [1, 2, 5, 7, 12, 15, 22] I6 (by decide) (by decide +kernel) ?B F2 ?X N2 ?U ?T ?hk ?hd ?hu ?_; (case U => k_updF); (case B => k_asm); (case X => k_asm); (case T => k_asm); (case hk => first | exact rfl | assumption); (case hd => cb_room); (case hu => cb_units))
  clear F2 N2 I6
  intro h3 tk3 vs7 I7 F3 N3
  (try dsimp only at N3)
  (try dsimp only)
  (try k_fold)
  walk_at "mysteps"
  rename Fr _ _ _ _ => F2
  rename News _ _ _ _ => N2
  k_dflt (refine' ins_use [1, 2, 5, 7, 12, 15, 22, 26] I7 (by decide) (by decide +kernel) ?B F2 ?X N2 ?U ?T ?hk ?hd ?hu ?_; (case U => k_updF); (case B => k_asm); (case X => k_asm); (case T => k_asm); (case hk => first | exact rfl | assumption); (case hd => cb_room); (case hu => cb_units))
  clear F2 N2 I7
  intro h3 tk3 vs8 I8 F3 N3
  (try dsimp only at N3)
  (try dsimp only)
  (try k_fold)
  walk_at "mysteps"
  rename Fr _ _ _ _ => F2
  rename News _ _ _ _ => N2
  have hb0 : ∀ S : Int, 1 ≤ 1 + S.fmod 10 ∧ 1 + S.fmod 10 ≤ 10 := fun S => by
    rw [Int.fmod_eq_emod_of_nonneg _ (by decide)]; omega
  rename List Int => scr
  have hb := hb0 scr.sum
  generalize hbd : 1 + scr.sum.fmod 10 = bd at F2 N2 hb ⊢
  clear hb0
  obtain ⟨m₀, row, tb, F2', row2⟩ := two_names F2 N2 I8 rfl rfl (.tail _ (.head _))
  clear F2
  k_dflt (refine' conO_use (table_con _ _ _ _ _ _ bd (0 - 1) _ _ ⟨by omega, hb.2⟩ (Or.inr rfl)) ?B F2' ?X N2 ?T ?hk ?hd ?hu ?_; (case B => k_asm); (case X => k_asm); (case T => k_asm); (case hk => first | exact rfl | assumption); (case hd => cb_room); (case hu => cb_units))
  rintro r6 news6 h6 tk6 F6 N6 s6 ⟨tab, rfl, T6⟩
  have row6 := row2.sub s6
  clear F2' N2 s6 row2
  (try dsimp only)
  (try k_fold)
  walk_at "mysteps"
  k_dflt (refine' conO_use (table_con _ _ _ _ _ _ bd 1 _ _ ⟨by omega, hb.2⟩ (Or.inl rfl)) ?B F6 ?X N6 ?T ?hk ?hd ?hu ?_; (case B => k_asm); (case X => k_asm); (case T => k_asm); (case hk => first | exact rfl | assumption); (case hd => cb_room); (case hu => cb_units))
  rintro r7 news7 h7 tk7 F7 N7 s7 ⟨pln, rfl, T7⟩
  have row7 := row6.sub s7
  replace T6 := T6.sub s7
  clear F6 N6 s7 row6
  (try dsimp only)
  (try k_fold)
  walk_at "mysteps"
  rename Fr _ _ _ _ => F8
  rename News _ _ _ _ => N8
  replace N8 := cb_drop N8 (fun p hp => .tail _ hp)
  replace T6 : TT Challenge.rw_gf0003_01.row.prog _ news7 tab (tabN (-1) bd.toNat) := T6
  k_dflt (refine' (count_con _ _ _ _ _ news7 pln _ T7) _ _ _ _ _ _ _ _ _ _ _ _ _ _ _ _ _ ?B F8 ?X N8 ?T ?hk ?hd ?hu ?_; (case B => k_asm); (case X => k_asm); (case T => k_asm); (case hk => first | exact rfl | assumption); (case hd => cb_room); (case hu => cb_units))
  clear F8 N8
  intro t9 h9 tk9 F9 N9
  (try dsimp only)
  have hs1 := sum_one bd hb.1 hb.2
  have hs2 := sum_two bd hb.1 hb.2
  rw [hs1]
  (try k_fold)
  walk_at "mysteps2"
  rename Fr _ _ _ _ => F8
  rename News _ _ _ _ => N8
  k_dflt (refine' (count_con _ _ _ _ _ news7 tab _ T6) _ _ _ _ _ _ _ _ _ _ _ _ _ _ _ _ _ ?B F8 ?X N8 ?T ?hk ?hd ?hu ?_; (case B => k_asm); (case X => k_asm); (case T => k_asm); (case hk => first | exact rfl | assumption); (case hd => cb_room); (case hu => cb_units))
  clear F8 N8
  intro t9 h9 tk9 F9 N9
  (try dsimp only)
  rw [hs2]
  (try k_fold)
  clear hs1 hs2
  walk_at "mysteps2"
  k_dflt (refine' For_turns F9 ?_)
  walk_at "mysteps2"
  rename Fr _ _ _ _ => F10
  rename News _ _ _ _ => N10
  rename IsRange _ _ _ _ _ _ _ _ => R10
  refine' range_turns (n := (bd + 1 - 0).toNat) ?q1 R10 ?q2 ?q3 F10 N10
    (fun i m₁ news₁ => (∀ p ∈ news7, p ∈ news₁) ∧ m₁ (Str.ofString "table") = some (.ref tab) ∧ m₁ (Str.ofString "plain") = some (.ref pln) ∧ m₁ (Str.ofString "row") = some (.ref row) ∧ m₁ (Str.ofString "bound") = some (.int bd tb)) ?q6 ?_ ?_
  case q1 => rfl
  case q2 => exact small_one (by omega) (by omega) (by omega) (by omega)
  case q3 => exact rangeSize_nat _ _
  case q6 => exact ⟨fun p hp => hp, rfl, rfl, rfl, rfl⟩
  · rintro i m₁ news₁ h₁ tk₁ own I oI t hi ⟨hs, hm1, hm2, hm3, hm4⟩ hown hIo hcI hoff F₁ N₁
    rw [mset hm1, mset hm2, mset hm3, mset hm4] at F₁
    clear F10 N10 R10
    walk_at "mysteps2"
    rename Fr _ _ _ _ => F11
    rename News _ _ _ _ => N11
    have hw0 : 0 ≤ 0 + (i : Int) := by omega
    have hw1 : 0 + (i : Int) ≤ bd := by omega
    k_dflt (refine' conO_use (lots_all _ _ _ _ _ 11 (Nat.le_refl _) (0 + (i : Int)) _ (0 + (i : Int)) _ (own ++ news₁) ⟨hw0, by omega, hw0, by omega⟩ (by omega)) ?B F11 ?X N11 ?T ?hk ?hd ?hu ?_; (case B => k_asm); (case X => k_asm); (case T => k_asm); (case hk => first | exact rfl | assumption); (case hd => cb_room); (case hu => cb_units))
    rintro r12 news12 h12 tk12 F12 N12 s12 ⟨l12, rfl, L12, f12⟩
    clear F11 N11
    have s7 : ∀ p ∈ news7, p ∈ news12 := fun p hp => s12 _ (List.mem_append_right _ (hs p hp))
    have T6' := T6.sub s7
    have T7' := T7.sub s7
    have row7' := row7.sub s7
    have len12 := lots_len (0 + (i : Int)) hw0 (by omega)
    (try dsimp only)
    (try k_fold)
    walk_at "mysteps2"
    rename Fr _ _ _ _ => F13
    rename News _ _ _ _ => N13
    obtain ⟨ol, lvs, ln, hl1, hl2, hl3, hl4⟩ := id L12
    refine' comp_list1 ?q1 F13 N13 hl1 hl2 hl3 ?q2 ?q3 (fun j ys nw => IntsAre ys (((lotN 11 (0 + (i : Int)) (0 + (i : Int))).take j).map sgn)) ?q4 ?q5 ?_ ?_
    case q1 => rfl
    case q2 => rfl
    case q3 => rfl
    case q4 => exact .nil
    case q5 =>
      intro j ys nw hj hI
      have := hI.length
      rw [List.length_map, List.length_take] at this
      rw [PySem.sizeLine_eq]; omega
    · rintro j v ys news13 I' oI' C oC D m₂ h13 tk13 E' hv hPF hs13 hoC hy F14 N14 off14 hne
      obtain ⟨n, hn, hlot⟩ := hl4.2 j v hv
      obtain ⟨b, hb'⟩ : ∃ b, v = .ref b := let ⟨b, _, _, _, e, _⟩ := hlot; ⟨b, e⟩
      subst hb'
      have hlot' : LotIs news13 (.ref b) n := hlot.sub hs13
      have hn11 := lotN_le _ _ _ _ (List.mem_of_getElem? hn)
      clear F13 N13
      walk_at "mysteps2"
      rename Fr _ _ _ _ => F15
      rename News _ _ _ _ => N15
      refine comp_end0 F15 N15 off14 ?_
      have hjl := (List.getElem?_eq_some_iff.mp hn).1
      have hjv := (List.getElem?_eq_some_iff.mp hn).2
      rw [List.take_succ_eq_append_getElem hjl, List.map_append, hjv]
      exact IntsAre.append hPF (.cons _ _ .nil)
    · rintro D h13 tk13 ys news13 hD F13 N13 hs13 hI13
      have T6c := T6'.sub (fun p hp => List.Mem.tail (D, LCg.lst ys) (hs13 p hp))
      have T7c := T7'.sub (fun p hp => List.Mem.tail (D, LCg.lst ys) (hs13 p hp))
      have row7c := row7'.sub (fun p hp => List.Mem.tail (D, LCg.lst ys) (hs13 p hp))
      have L12c := L12.sub (fun p hp => List.Mem.tail (D, LCg.lst ys) (hs13 p hp))
      have elv := hl4.1
      rw [elv, List.take_length] at hI13
      clear T6' T7' row7' L12 hl4
      walk_at "mysteps4"
      rename Fr _ _ _ _ => F16
      rename News _ _ _ _ => N16
      have hlaw := law_at hw0 hw1 hb.2
      obtain ⟨pl, hpe⟩ : ∃ pl, bis rowN (0 + (i : Int)) = pl := ⟨_, rfl⟩
      have hpl : 0 ≤ pl := hpe ▸ (bis_range rowN (0 + (i : Int))).1
      obtain ⟨hd1, hd2, hpl8⟩ := due_one hpe hw0 (by omega)
      have hpl9 : pl < 8 := hpl8
      generalize hsg : sgs (0 + (i : Int)) = sg at hlaw hd1 hd2
      k_dflt (refine' sum_to (ns := (lotN 11 (0 + (i : Int)) (0 + (i : Int))).map sgn) sg hsg ?qa F16 N16 ?m hI13 ?_)
      case qa => rfl
      case m => exact .head _
      clear F16 N16
      intro hS tkS tS FS NS
      (try dsimp only)
      (try k_fold)
      walk_at "mysteps4"
      rename Fr _ _ _ _ => F16
      rename News _ _ _ _ => N16
      k_dflt (refine' get2_TT (n := 0 + (i : Int)) (T := tabN 1 bd.toNat) ?u N16 ?T ?K ?_)
      case T => exact T7c.sub (fun p hp => .tail _ hp)
      case K => exact ⟨_, .head _, TupKeyObj.made (.cons (by simp [mixKind, mixIs, Value.isStrOf]) (.cons (by simp [mixKind, mixIs, Value.isInt]) (.cons (by simp [mixKind, mixIs, Value.isStrOf]) .nil)))⟩
      case u => cb_units
      intro tG
      (try dsimp only)
      rw [hlaw.1]
      (try k_fold)
      walk_at "mysteps4"
      · exact absurd rfl (show ¬ (((lotN 11 (0 + (i : Int)) (0 + (i : Int))).length : Int) = ((lotN 11 (0 + (i : Int)) (0 + (i : Int))).length : Int)) by assumption)
      rename Fr _ _ _ _ => F17
      rename News _ _ _ _ => N17
      k_dflt (refine' get2_TT (n := 0 + (i : Int)) (T := tabN (-1) bd.toNat) ?u N17 ?T ?K ?_)
      case T => exact T6c.sub (fun p hp => .tail _ (.tail _ hp))
      case K => exact ⟨_, .head _, TupKeyObj.made (.cons (by simp [mixKind, mixIs, Value.isStrOf]) (.cons (by simp [mixKind, mixIs, Value.isInt]) (.cons (by simp [mixKind, mixIs, Value.isStrOf]) .nil)))⟩
      case u => cb_units
      intro tG
      (try dsimp only)
      rw [hlaw.2]
      (try k_fold)
      walk_at "mysteps4"
      · exact absurd rfl (show ¬ (sg = sg) by assumption)
      rename Fr _ _ _ _ => F18
      rename News _ _ _ _ => N18
      k_dflt (refine' bis_use (ns := rowN) pl hpe row7c (fun p hp => .tail _ (.tail _ hp)) (by decide) ?B F18 ?X N18 ?T ?hk ?hd ?hu ?_; (case B => k_asm); (case X => k_asm); (case T => k_asm); (case hk => first | exact rfl | assumption); (case hd => cb_room); (case hu => cb_units))
      clear F18 N18
      intro t19 h19 tk19 F19 N19
      (try dsimp only)
      (try k_fold)
      walk_at "mysteps4"
      all_goals try (first
        | exact absurd hpl8 (by assumption)
        | exact absurd (hd1 (by assumption)) (by assumption)
        | exact absurd (hd2 (by assumption)) (by assumption))
      all_goals (rename Fr _ _ _ _ => F20)
      all_goals (rename News _ _ _ _ => N20)
      all_goals (refine LoopStepU.intro F20 (news₂ := off I news13) ?_ (fun q hq => by simpa using off_ne q hq) ⟨fun q hq => off_mem (hs13 q (s7 q hq)) (hoff q (hs q hq)), rfl, rfl, rfl, rfl⟩)
      all_goals (intro q hq
                 rcases List.mem_append.mp hq with hq | hq
                 · exact N20 q (.tail _ (.tail _ (.tail _ (hs13 q (s12 q (List.mem_append_left _ hq))))))
                 · exact N20 q (.tail _ (.tail _ (.tail _ (off_sub q hq)))))
  · rintro h5 tk5 m5 news5 F5 N5 ⟨hs, hm1, hm2, hm3, hm4⟩
    rw [mset hm3, mset hm4] at F5
    obtain ⟨u1, u2, u3, u4, u5, u6, u7, u8, k, hm⟩ := row_items row7
    have N6 : News _ _ h5 [(row, W.listOf #[.int 1 u1, .int 2 u2, .int 5 u3, .int 7 u4, .int 12 u5, .int 15 u6, .int 22 u7, .int 26 u8] k)] := fun p hp => by
      rw [List.mem_singleton.mp hp]
      exact N5 _ (hs _ hm)
    clear N5
    clear F10 N10 R10
    (try k_unfold)
    (try dsimp only)
    (try k_fold)
    k_steps)
end Mine
end
theorem PySem.Challenge.cw_gf0003_01_holds : PySem.Challenge.rw_gf0003_01.Holds :=
  Mine.law_walk
