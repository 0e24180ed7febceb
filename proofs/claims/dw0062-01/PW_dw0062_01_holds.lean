import PyProof.Rows.All
import Wide.All
import OpenK.AllK
import Wide.FinOn
import PySem.Challenge.RW_dw0062_01
open PySem PySem.W PyProof.Rows PySem.Calls
set_option Elab.async false
set_option rowWalk.seconds 0
namespace Mine
set_option maxRecDepth 100000
set_option maxHeartbeats 8000000
open_top hd for PySem.Challenge.rw_dw0062_01
end Mine
namespace Mine
def digs (n : Nat) : List Nat := (Nat.toDigits 10 n).map Char.toNat
theorem digitChar_nat : ∀ d : Nat, d < 10 → (Nat.digitChar d).toNat = 48 + d := by decide
theorem digs_step (n : Nat) : digs n = (if n / 10 = 0 then [] else digs (n / 10)) ++ [48 + n % 10] := by
  unfold digs
  rw [Nat.toDigits_eq_if (by omega)]
  by_cases h : n < 10
  · rw [if_pos h, if_pos (by omega), List.map_singleton, List.nil_append, digitChar_nat n h, Nat.mod_eq_of_lt h]
  · rw [if_neg h, if_neg (by omega), List.map_append, List.map_singleton, digitChar_nat _ (Nat.mod_lt _ (by omega))]
theorem digs_pos (n : Nat) : 0 < (digs n).length := by
  unfold digs; rw [List.length_map]; exact Nat.length_toDigits_pos
theorem digs_len {n k : Nat} (hk : 0 < k) (h : n < 10 ^ k) : (digs n).length ≤ k := by
  unfold digs; rw [List.length_map]; exact (Nat.length_toDigits_le_iff (by omega) hk).mpr h
theorem str_ext {a b : Str} (h : a.cps.toList = b.cps.toList) : a = b := by
  cases a; cases b; simp only [Str.mk.injEq]; exact Array.toList_inj.mp h
theorem cps_append (a b : Str) : (a ++ b).cps.toList = a.cps.toList ++ b.cps.toList := by
  show (a.cps ++ b.cps).toList = _
  rw [Array.toList_append]
theorem len_list (a : Str) : a.length = a.cps.toList.length := by simp [Str.length]
theorem ofString_list (s : String) : (Str.ofString s).cps.toList = s.toList.map Char.toNat := by
  rw [Str.ofString_eq_toList]
theorem int_text (v : Int) : (Str.ofString (toString v)).cps.toList = (if v < 0 then [45] else []) ++ digs v.natAbs := by
  rw [ofString_list]
  cases v with
  | ofNat n =>
    have : ¬ (Int.ofNat n < 0) := by simp
    rw [if_neg this]
    show (List.map Char.toNat (toString n : String).toList) = _
    simp [digs]
  | negSucc n =>
    have : (Int.negSucc n < 0) := Int.negSucc_lt_zero n
    rw [if_pos this]
    show (List.map Char.toNat ("-" ++ (n+1).repr : String).toList) = _
    rw [String.toList_append, Nat.toList_repr]
    rfl
theorem digit_item (d : Nat) (h : d < 10) : Txt.item (Str.ofString "0123456789") (d : Int) = Str.mk #[48 + d] := by
  have : ∀ d : Nat, d < 10 → Txt.item (Str.ofString "0123456789") (d : Int) = Str.mk #[48 + d] := by decide +kernel
  exact this d h
end Mine
namespace Mine
theorem slot_bytes_repr : Slot "bytes" "__repr__" "bytes.__repr__" :=
  .of (owner := "bytes") (n := "__repr__") (by rw [typeLookup_type, builtinLookup_eq_fast]; kernel_rfl) (by decide +kernel) (by decide +kernel) (by decide +kernel)
    (by first | exact .inl (by decide +kernel) | exact .inr (by decide +kernel)) (by rw [isSubtype_type]; kernel_rfl)
theorem entry_bytes_repr : entryFor table "bytes.__repr__" = some Builtin.«bytes.__repr__» := entryFor_of_tree (by kernel_rfl)
theorem args_bytes_repr (a : Value) : argsOk "bytes.__repr__" ⟨[a], []⟩ := by unfold argsOk; kernel_rfl
theorem gives_bytes_repr (t : Tok) : Gives (Builtin.«bytes.__repr__» ⟨[.bytes #[] t], []⟩) (.str (Str.ofString "b''")) := .of_eq (by kernel_rfl)

section
variable {prog : Program} {w : World}
theorem bytesIs (t : Tok) : ReprIs prog w (.bytes #[] t) (Str.ofString "b''") := fun n hn _ _ _ _ h => by
  have hn' : n ≤ sizeLine := by omega
  rw [pyReprUnder_leaf (v := .bytes #[] t) hn' (fun _ e => nomatch e)]
  unfold pyRepr
  exact wpAny_bind (wpAny_pyReprObj_gives (typeIs_bytes _ _ t) slot_bytes_repr entry_bytes_repr (args_bytes_repr _) (gives_bytes_repr t) (wpAny_pure (h _)))

/-- what repr gives of a value, whatever else the heap holds, as long as it holds these objects -/
def Shows (prog : Program) (w : World) (fz : List (Addr × Obj)) (d : Nat) (v : Value) (t : Str) : Prop :=
  (∀ h₀ : Heap, (∀ p ∈ fz, h₀.get? p.1 = some p.2) → ReprK prog w (fz.map (·.1)) h₀ d v t) ∧
  (∀ (A : Around) (E : Value → Shared → Prop) (s : Shared) (Q : Value → Shared → Prop), A.guards = some [] → A.units + (d + 1) < cLine → (∀ p ∈ fz, s.heap.get? p.1 = some p.2) →
    (∀ h' u tk, (∀ b o, s.heap.get? b = some o → h'.get? b = some o) → Q (.str t u) { s with heap := h', toks := tk }) → wpAny (model prog w) A (call (.builtin "repr") [v]) Q E s)

theorem Shows.mono {fz fz' : List (Addr × Obj)} {d d' : Nat} {v : Value} {t : Str} (h : Shows prog w fz d v t) (hs : ∀ p ∈ fz, p ∈ fz') (hd : d ≤ d') : Shows prog w fz' d' v t := by
  refine ⟨fun h₀ hk => ((h.1 h₀ fun p hp => hk p (hs p hp)).more fun b hb => ?_).level_le hd, fun A E s Q hg hu hk hQ => h.2 A E s Q hg (by omega) (fun p hp => hk p (hs p hp)) hQ⟩
  obtain ⟨p, hp, rfl⟩ := List.mem_map.mp hb
  exact List.mem_map_of_mem (hs p hp)

theorem Shows.of_leaf {v : Value} {t : Str} (h1 : ReprIs prog w v t)
    (h2 : ∀ (A : Around) (E : Value → Shared → Prop) (s : Shared) (Q : Value → Shared → Prop), (∀ u tk, Q (.str t u) { s with toks := tk }) → wpAny (model prog w) A (call (.builtin "repr") [v]) Q E s) : Shows prog w [] 0 v t :=
  ⟨fun h₀ _ => .of_is h1 _ _ _, fun A E s Q _ _ _ hQ => h2 A E s Q fun u tk => hQ s.heap u tk fun _ _ e => e⟩
theorem shows_none : Shows prog w [] 0 .none (Str.ofString "None") := .of_leaf .none fun _ _ _ _ h => P.repr_of_none (h _ _)
theorem shows_bool (b : Bool) : Shows prog w [] 0 (.bool b) (if b then "True" else "False") := .of_leaf (.bool b) fun _ _ _ _ h => P.repr_of_bool (h _ _)
theorem shows_int {i : Int} (t : Tok) (hi : i.natAbs.log2 < 1920) : Shows prog w [] 0 (.int i t) (Str.ofString (toString i)) := .of_leaf (.int t hi) fun _ _ _ _ h => P.repr_of_int hi (h _ _)
theorem shows_str {x : Str} (t : Tok) (hx : (reprText x).length ≤ sizeLine) : Shows prog w [] 0 (.str x t) (reprText x) := .of_leaf (.str x t hx) fun _ _ _ _ h => P.repr_of_str (h _ _) hx
theorem shows_bytes (t : Tok) : Shows prog w [] 0 (.bytes #[] t) (Str.ofString "b''") :=
  .of_leaf (bytesIs t) fun _ _ s _ h => call_repr_gives (typeIs_bytes s _ t) slot_bytes_repr entry_bytes_repr (args_bytes_repr _) (gives_bytes_repr t) (h _ _)

inductive ShowsAll (prog : Program) (w : World) (fz : List (Addr × Obj)) (d : Nat) : List Value → List Str → Prop
  | nil : ShowsAll prog w fz d [] []
  | cons {v : Value} {t : Str} {l : List Value} {ts : List Str} : Shows prog w fz d v t → ShowsAll prog w fz d l ts → ShowsAll prog w fz d (v :: l) (t :: ts)
theorem ShowsAll.mono {fz fz' : List (Addr × Obj)} {d d' : Nat} {vs : List Value} {ts : List Str} (h : ShowsAll prog w fz d vs ts) (hs : ∀ p ∈ fz, p ∈ fz') (hd : d ≤ d') : ShowsAll prog w fz' d' vs ts := by
  induction h with
  | nil => exact .nil
  | cons h _ ih => exact .cons (h.mono hs hd) ih
theorem ShowsAll.length {fz : List (Addr × Obj)} {d : Nat} {vs : List Value} {ts : List Str} (h : ShowsAll prog w fz d vs ts) : ts.length = vs.length := by
  induction h with
  | nil => rfl
  | cons _ _ ih => simp [ih]
theorem ShowsAll.snoc {fz : List (Addr × Obj)} {d : Nat} {vs : List Value} {ts : List Str} {v : Value} {t : Str} (h : ShowsAll prog w fz d vs ts) (hv : Shows prog w fz d v t) : ShowsAll prog w fz d (vs ++ [v]) (ts ++ [t]) := by
  induction h with
  | nil => exact .cons hv .nil
  | cons h _ ih => exact .cons h ih
theorem ShowsAll.drop {fz : List (Addr × Obj)} {d : Nat} {vs : List Value} {ts : List Str} (h : ShowsAll prog w fz d vs ts) (k : Nat) : ShowsAll prog w fz d (vs.drop k) (ts.drop k) := by
  induction h generalizing k with
  | nil => rw [List.drop_nil, List.drop_nil]; exact .nil
  | cons h r ih =>
    cases k with
    | zero => exact .cons h r
    | succ k => exact ih k
theorem ShowsAll.at {fz : List (Addr × Obj)} {d : Nat} {vs : List Value} {ts : List Str} (h : ShowsAll prog w fz d vs ts) : ∀ (i : Nat) (v : Value), vs[i]? = some v → ∃ t, ts[i]? = some t ∧ Shows prog w fz d v t := by
  induction h with
  | nil => intro i v e; simp at e
  | cons h r ih =>
    intro i v e
    cases i with
    | zero => simp at e; subst e; exact ⟨_, rfl, h⟩
    | succ i => simpa using ih i v (by simpa using e)
theorem ShowsAll.reprs {fz : List (Addr × Obj)} {d : Nat} {vs : List Value} {ts : List Str} (h : ShowsAll prog w fz d vs ts) {h₀ : Heap} (hk : ∀ p ∈ fz, h₀.get? p.1 = some p.2) : ReprAllK prog w (fz.map (·.1)) h₀ d vs ts := by
  induction h with
  | nil => exact .nil
  | cons h _ ih => exact .cons (h.1 h₀ hk) ih
theorem repr_item {as : List Addr} {h₀ : Heap} {d : Nat} {l : List Value} {ts : List Str} (h : ReprAllK prog w as h₀ d l ts) : ∀ (i : Nat) (y : Value), l.toArray[i]? = some y → ∃ t, ts[i]? = some t ∧ ReprK prog w as h₀ d y t := by
  induction h with
  | nil => intro i y e; simp at e
  | cons h r ih =>
    intro i y e
    cases i with
    | zero => simp at e; subst e; exact ⟨_, rfl, h⟩
    | succ i => simpa using ih i y (by simpa using e)

theorem shows_list {fz : List (Addr × Obj)} {d : Nat} {vs : List Value} {ts : List Str} {a : Addr} {n : Nat} (h : ShowsAll prog w fz d vs ts) (hna : ∀ p ∈ fz, p.1 ≠ a) (hsz : (listText ts).length ≤ sizeLine) :
    Shows prog w ((a, listOf vs.toArray n) :: fz) (d + 1) (.ref a) (listText ts) := by
  have hna' : a ∉ fz.map (·.1) := fun q => by
    obtain ⟨p, hp, e⟩ := List.mem_map.mp q
    exact hna p hp e
  cases vs with
  | nil =>
    cases h
    refine ⟨fun h₀ hk => .listEmpty (hk _ (.head _)) rfl rfl, fun A E s Q hg hu hk hQ => ?_⟩
    exact call_repr_slot (by omega) ⟨_, hk _ (.head _), rfl⟩ F.slot_list_repr.toG (call_list_repr_empty ⟨_, hk _ (.head _), rfl⟩ (hk _ (.head _)) rfl ⟨_, _, rfl, hQ s.heap _ _ fun _ _ e => e⟩)
  | cons x l =>
    have hlen : ts.length = (x :: l).toArray.size := by simpa using h.length
    refine ⟨fun h₀ hk => .list (hk _ (.head _)) rfl rfl hna' hlen (repr_item (h.reprs fun p hp => hk p (.tail _ hp))), fun A E s Q hg hu hk hQ => ?_⟩
    exact call_repr_slot (by omega) ⟨_, hk _ (.head _), rfl⟩ F.slot_list_repr.toG (call_list_reprK (h₀ := s.heap) (hk _ (.head _)) rfl rfl hna' hlen (repr_item (h.reprs fun p hp => hk p (.tail _ hp))) hg (fun b _ => Clear.nil b)
      (by show A.units + 1 + (d + 1) < cLine; omega) (fun _ _ e => e) (fun h' u tk hk' => ⟨_, _, rfl, hQ h' u tk hk'⟩) hsz)

theorem shows_tuple {fz : List (Addr × Obj)} {d : Nat} {vs : List Value} {ts : List Str} {a : Addr} {o : Obj} {n : Nat} (hc : o.cls = .type "tuple") (ho : o.data = .seq vs.toArray n) (h : ShowsAll prog w fz d vs ts) (hna : ∀ p ∈ fz, p.1 ≠ a) (hsz : (tupleText ts).length ≤ sizeLine) :
    Shows prog w ((a, o) :: fz) (d + 1) (.ref a) (tupleText ts) := by
  have hna' : a ∉ fz.map (·.1) := fun q => by
    obtain ⟨p, hp, e⟩ := List.mem_map.mp q
    exact hna p hp e
  refine ⟨fun h₀ hk => .tuple (hk _ (.head _)) hc ho hna' (h.reprs fun p hp => hk p (.tail _ hp)), fun A E s Q hg hu hk hQ => ?_⟩
  exact call_repr_slot (by omega) ⟨_, hk _ (.head _), hc⟩ F.slot_tuple_repr (call_tuple_reprK (h₀ := s.heap) (hk _ (.head _)) hc ho hna' (h.reprs fun p hp => hk p (.tail _ hp)) hg (fun b _ => Clear.nil b)
    (by show A.units + 1 + (d + 1) < cLine; omega) (fun _ _ e => e) (fun h' u tk hk' => ⟨_, _, rfl, hQ h' u tk hk'⟩) hsz)

/-- a table's entries: a key that shows as k, a value that shows as t -/
inductive ShowsKv (prog : Program) (w : World) (fz : List (Addr × Obj)) (d : Nat) : List DictEntry → List Str → Prop
  | nil : ShowsKv prog w fz d [] []
  | cons {e : DictEntry} {k t : Str} {l : List DictEntry} {ts : List Str} : Shows prog w fz d e.key k → Shows prog w fz d e.val t → ShowsKv prog w fz d l ts → ShowsKv prog w fz d (e :: l) ((k ++ ": " ++ t) :: ts)
theorem ShowsKv.reprs {fz : List (Addr × Obj)} {d : Nat} {es : List DictEntry} {ts : List Str} (h : ShowsKv prog w fz d es ts) {h₀ : Heap} (hk : ∀ p ∈ fz, h₀.get? p.1 = some p.2) : ReprEntriesK prog w (fz.map (·.1)) h₀ d es ts := by
  induction h with
  | nil => exact .nil
  | cons h1 h2 _ ih => exact .cons (h1.1 h₀ hk) (h2.1 h₀ hk) ih
theorem shows_dict {fz : List (Addr × Obj)} {d : Nat} {es : Array DictEntry} {ts : List Str} {a : Addr} {o : Obj} {n : Nat} (hc : o.cls = .type "dict") (ho : o.data = .dict es n) (h : ShowsKv prog w fz d es.toList ts) (hna : ∀ p ∈ fz, p.1 ≠ a) (hsys : (a == sysModules) = false) (hsz : (dictText ts).length ≤ sizeLine) :
    Shows prog w ((a, o) :: fz) (d + 1) (.ref a) (dictText ts) := by
  have hna' : a ∉ fz.map (·.1) := fun q => by
    obtain ⟨p, hp, e⟩ := List.mem_map.mp q
    exact hna p hp e
  refine ⟨fun h₀ hk => .dict (hk _ (.head _)) hc ho hsys hna' (h.reprs fun p hp => hk p (.tail _ hp)), fun A E s Q hg hu hk hQ => ?_⟩
  exact call_repr_slot (by omega) ⟨_, hk _ (.head _), hc⟩ F.slot_dict_repr (call_dict_reprK (h₀ := s.heap) (hk _ (.head _)) hc ho hsys hna' (h.reprs fun p hp => hk p (.tail _ hp)) hg (fun b _ => Clear.nil b)
    (by show A.units + 1 + (d + 1) < cLine; omega) (fun _ _ e => e) (fun h' u tk hk' => ⟨_, _, rfl, hQ h' u tk hk'⟩) hsz)
end
end Mine
namespace Mine

/-- how a turn of a loop must end: the ledger and the frame again as the word says, the loop's own objects as they were -/
def Turned (h₀ : Heap) (L : Addr) (fp : List Addr) (J : (Str → Option Value) → List (Addr × Obj) → Prop) (own : List (Addr × Obj)) (s : Shared) (Q : Flow → Shared → Prop) (f : Flow) (s₃ : Shared) : Prop :=
  match f with
  | .next | .cont => ∃ h' tk' m' led' news', s₃ = { s with heap := h', toks := tk' } ∧ Fr h₀ L h' m' ∧ News h₀ L h' news' ∧ (∀ p ∈ led', p ∈ news') ∧ (∀ p ∈ own, p ∈ news') ∧ (∀ p ∈ led', p.1 ∉ fp) ∧ J m' led'
  | .brk => Q .next s₃
  | .ret v => Q (.ret v) s₃

theorem Turned.next {h₀ : Heap} {L : Addr} {fp : List Addr} {J : (Str → Option Value) → List (Addr × Obj) → Prop} {own led' news' : List (Addr × Obj)} {s : Shared} {Q : Flow → Shared → Prop} {h' : Heap} {tk' : Nat} {m' : Str → Option Value}
    (F : Fr h₀ L h' m') (N : News h₀ L h' news') (h1 : ∀ p ∈ led', p ∈ news') (h2 : ∀ p ∈ own, p ∈ news') (h3 : ∀ p ∈ led', p.1 ∉ fp) (hJ : J m' led') :
    Turned h₀ L fp J own s Q .next { s with heap := h', toks := tk' } := ⟨h', tk', m', led', news', rfl, F, N, h1, h2, h3, hJ⟩

theorem own_of {h : Heap} : ∀ {fp : List Addr}, (∀ b ∈ fp, ∃ o, h.get? b = some o) → ∃ own : List (Addr × Obj), own.map (·.1) = fp ∧ ∀ p ∈ own, h.get? p.1 = some p.2
  | [], _ => ⟨[], rfl, fun _ h => nomatch h⟩
  | b :: r, hb => by
    obtain ⟨o, ho⟩ := hb b (.head _)
    obtain ⟨own, e, hw⟩ := own_of (fp := r) fun c hc => hb c (.tail _ hc)
    refine ⟨(b, o) :: own, by rw [List.map_cons, e], fun p hp => ?_⟩
    rcases List.mem_cons.mp hp with rfl | hp
    · exact ho
    · exact hw p hp

theorem Fr.off {h₀ h h' : Heap} {L : Addr} {m : Str → Option Value} {wr : List Addr} (F : Fr h₀ L h m) (hL : L ∉ wr) (hw : ∀ b ∈ wr, h₀.get? b = none)
    (hk : ∀ b o, b ∉ wr → h.get? b = some o → h'.get? b = some o) : Fr h₀ L h' m :=
  ⟨F.ns.at' fun o e => hk L o hL e, fun b o e => hk b o (fun hb => by rw [hw b hb] at e; cases e) (F.keep b o e), F.above⟩

section
variable {prog : Program} {w : World} {A : Around} {s : Shared} {env : Env} {h₀ : Heap}

theorem forLoop_led {R : Result → Shared → Prop} {target : Expr} {body : List Stmt} {I : Addr} {fp wr : List Addr} {n : Nat} {P : Nat → Value → Prop} {St : Nat → Heap → Prop} {m : Str → Option Value} {led : List (Addr × Obj)}
    (W : Walks prog w A I fp wr n P St) (ht : ∀ v, letOwnedTupleGo target (.ref I) v = pure ())
    (hL : env.locals ∉ fp) (hfp : ∀ b ∈ fp, h₀.get? b = none) (hSt : ∀ i h, St i h → ∀ b ∈ fp, ∃ o, h.get? b = some o)
    (J : Nat → (Str → Option Value) → List (Addr × Obj) → Prop)
    (hst : St 0 s.heap) (F : Fr h₀ env.locals s.heap m) (N : News h₀ env.locals s.heap led) (hoff : ∀ p ∈ led, p.1 ∉ fp) (h0 : J 0 m led)
    (turn : ∀ i v m₁ led₁ h tk own, i < n → P i v → J i m₁ led₁ → Fr h₀ env.locals h m₁ → News h₀ env.locals h (led₁ ++ own) → own.map (·.1) = fp → (∀ p ∈ led₁, p.1 ∉ fp) →
      wpAny (model prog w) A (assign target env v) (fun _ s₂ => wpAny (model prog w) A (execs body env) (Turned h₀ env.locals fp (J (i + 1)) own s (fun f s' => R (.ok f) s'))
        (notedBy (model prog w) A env fun e s' => R (.error e) s') s₂) (notedBy (model prog w) A env fun e s' => R (.error e) s') { s with heap := h, toks := tk })
    (done : ∀ m₁ led₁ h tk, J n m₁ led₁ → Fr h₀ env.locals h m₁ → News h₀ env.locals h led₁ → R (.ok .next) { s with heap := h, toks := tk }) :
    codeAny (model prog w) A (.forLoop target (.ref I) body [] env) R s := by
  have hwf : ∀ b ∈ wr, b ∈ fp := W.sub
  refine codeAny_forLoop
    (fun k s' => ∃ h' tk m' led' i, s' = { s with heap := h', toks := tk } ∧ St i h' ∧ Fr h₀ env.locals h' m' ∧ News h₀ env.locals h' led' ∧ (∀ p ∈ led', p.1 ∉ fp) ∧ J i m' led' ∧ i ≤ n ∧ k = n + 1 - i) ?_ (n + 1)
    ⟨s.heap, s.toks, m, led, 0, rfl, hst, F, N, hoff, h0, Nat.zero_le _, rfl⟩ ht
  rintro k s' ⟨h', tk, m', led', i, rfl, hst', F', N', hoff', hJ, hi, rfl⟩
  have next : ∀ h₁ : Heap, (∀ b o, b ∉ wr → h'.get? b = some o → h₁.get? b = some o) → Fr h₀ env.locals h₁ m' ∧ News h₀ env.locals h₁ led' := fun h₁ hk =>
    ⟨Fr.off F' (fun q => hL (hwf _ q)) (fun b hb => hfp b (hwf b hb)) hk, fun p hp => ⟨hk _ _ (fun q => hoff' p hp (hwf _ q)) (N' p hp).1, (N' p hp).2⟩⟩
  by_cases hlt : i < n
  · refine W.item i _ _ _ hlt hst' fun v h₁ tk₁ hP hst₁ hk₁ => ?_
    obtain ⟨F₁, N₁⟩ := next h₁ hk₁
    obtain ⟨own, hown, hget⟩ := own_of (hSt _ _ hst₁)
    have hmem : ∀ p ∈ own, p.1 ∈ fp := fun p hp => hown ▸ List.mem_map_of_mem hp
    have N₂ : News h₀ env.locals h₁ (led' ++ own) := fun p hp => (List.mem_append.mp hp).elim (N₁ p) fun hp => ⟨hget p hp, fun q => hL (q ▸ hmem p hp), hfp _ (hmem p hp)⟩
    refine wpAny_mono (turn i v m' led' h₁ tk₁ own hlt hP hJ F₁ N₂ hown hoff') (fun _ s₂ h₂ => wpAny_mono h₂ (fun f s₃ h₃ => ?_) fun _ _ e => e) fun _ _ e => e
    have fin : (∃ h' tk' m' led' news', s₃ = { s with heap := h', toks := tk' } ∧ Fr h₀ env.locals h' m' ∧ News h₀ env.locals h' news' ∧ (∀ p ∈ led', p ∈ news') ∧ (∀ p ∈ own, p ∈ news') ∧ (∀ p ∈ led', p.1 ∉ fp) ∧ J (i + 1) m' led') →
        ∃ k', k' < n + 1 - i ∧ ∃ h' tk m' led' j, s₃ = { s with heap := h', toks := tk } ∧ St j h' ∧ Fr h₀ env.locals h' m' ∧ News h₀ env.locals h' led' ∧ (∀ p ∈ led', p.1 ∉ fp) ∧ J j m' led' ∧ j ≤ n ∧ k' = n + 1 - j := by
      rintro ⟨h₃', tk₃, m₃, led₃, news₃, rfl, F₃, N₃, a, b, c, J₃⟩
      refine ⟨n + 1 - (i + 1), by omega, h₃', tk₃, m₃, led₃, i + 1, rfl, W.frame _ _ _ hst₁ fun d hd o e => ?_, F₃, fun p hp => N₃ p (a p hp), c, J₃, hlt, rfl⟩
      rw [← hown] at hd
      obtain ⟨q, hq, rfl⟩ := List.mem_map.mp hd
      rw [hget q hq] at e
      cases e
      exact (N₃ q (b q hq)).1
    cases f with
    | next => exact fin h₃
    | cont => exact fin h₃
    | brk => exact h₃
    | ret v => exact h₃
  · have hin : i = n := by omega
    subst hin
    refine W.done _ _ _ hst' fun h₁ tk₁ hk₁ => wpAny_execs_nil ?_
    obtain ⟨F₁, N₁⟩ := next h₁ hk₁
    exact done m' led' h₁ tk₁ hJ F₁ N₁
end

section
variable {prog : Program} {w : World} {A : Around} {s : Shared} {env : Env} {h₀ : Heap} {Q : Flow → Shared → Prop} {target : Expr} {body : List Stmt} {m : Str → Option Value} {led : List (Addr × Obj)}

/-- a loop over a text's signs, its target any name -/
theorem for_text {x : Str} {t : Tok} (ht : ∀ it v, letOwnedTupleGo target it v = pure ()) (hh : A.handled = none)
    (J : Nat → (Str → Option Value) → List (Addr × Obj) → Prop)
    (F : Fr h₀ env.locals s.heap m) (N : News h₀ env.locals s.heap led) (h0 : J 0 m led)
    (turn : ∀ i c u m₁ led₁ h tk I oI, x.cps[i]? = some c → J i m₁ led₁ → Fr h₀ env.locals h m₁ → News h₀ env.locals h (led₁ ++ [(I, oI)]) → (∀ p ∈ led₁, p.1 ∉ [I]) →
      wpAny (model prog w) A (assign target env (.str ⟨#[c]⟩ u)) (fun _ s₂ => wpAny (model prog w) A (execs body env) (Turned h₀ env.locals [I] (J (i + 1)) [(I, oI)] s Q) (fun _ _ => False) s₂) (fun _ _ => False) { s with heap := h, toks := tk })
    (done : ∀ m₁ led₁ h tk, J x.length m₁ led₁ → Fr h₀ env.locals h m₁ → News h₀ env.locals h led₁ → Q .next { s with heap := h, toks := tk }) :
    wpAny (model prog w) A (pyIter (.str x t)) (fun it s₂ => codeAny (model prog w) A (.forLoop target it body [] env) (fun r s' => match r with | .ok f => Q f s' | .error e => cameBackBy (model prog w) A env (fun _ _ => False) e s') s₂) (fun _ _ => False) s := by
  have go : ∀ (o : Obj) (St : Nat → Heap → Prop), (∀ i h, St i h → ∃ o, h.get? s.heap.objs.size = some o) → (∀ A' : Around, A'.handled = none → Walks prog w A' s.heap.objs.size [s.heap.objs.size] [s.heap.objs.size] x.cps.size (SignAt x) St) → St 0 (s.heap.push o) →
      codeAny (model prog w) A (.forLoop target (.ref s.heap.objs.size) body [] env) (fun r s' => match r with | .ok f => Q f s' | .error e => cameBackBy (model prog w) A env (fun _ _ => False) e s') { s with heap := s.heap.push o } := by
    intro o St hS hW hst
    refine forLoop_led (hW A hh) (ht _) ?_ ?_ ?_ J hst (F.push _) (fun p hp => ⟨Heap.get?_push_of_some _ (N p hp).1, (N p hp).2⟩) ?_ h0 ?_ ?_
    · intro q
      exact absurd F.ns.lt ((List.mem_singleton.mp q) ▸ Nat.lt_irrefl _)
    · intro b hb
      rw [List.mem_singleton.mp hb]
      exact next_is_new F
    · intro i h q b hb
      rw [List.mem_singleton.mp hb]
      exact hS i h q
    · intro p hp q
      exact absurd (Heap.lt_size (N p hp).1) ((List.mem_singleton.mp q) ▸ Nat.lt_irrefl _)
    · rintro i v m₁ led₁ h tk own hi ⟨c, u, hc, rfl⟩ hJ F₁ N₁ hown hoff
      obtain ⟨⟨I, oI⟩, rfl, e⟩ := List.map_eq_singleton_iff.mp hown
      dsimp only at e
      subst e
      have q := turn i c u m₁ led₁ h tk _ oI hc hJ F₁ N₁ hoff
      exact wpAny_passesOwn PassesOwn.never (wpAny_mono q (fun _ _ z => wpAny_passesOwn PassesOwn.never z) fun _ _ z => z)
    · intro m₁ led₁ h tk hJ F₁ N₁
      exact done m₁ led₁ h tk hJ F₁ N₁
  cases ha : x.cps.all (· < 128)
  · exact wpAny_pyIter_wide ha (go _ _ (fun i h ⟨o, ho, _⟩ => ⟨o, ho⟩) (fun A' hA => Walks.strWide hA _ x t) ⟨_, Heap.get?_push_size _ rfl, rfl, rfl⟩)
  · exact wpAny_pyIter_ascii ha (go _ _ (fun i h ⟨o, ho, _⟩ => ⟨o, ho⟩) (fun A' hA => Walks.strAscii hA _ x t) ⟨_, Heap.get?_push_size _ rfl, rfl, rfl⟩)

/-- a loop over a list that the call has made -/
theorem for_list {l : Addr} {ol : Obj} {vs : Array Value} (ht : ∀ it v, letOwnedTupleGo target it v = pure ()) (hh : A.handled = none)
    (J : Nat → (Str → Option Value) → List (Addr × Obj) → Prop)
    (F : Fr h₀ env.locals s.heap m) (N : News h₀ env.locals s.heap ((l, ol) :: led)) (hl : s.heap.IsList l vs) (hoff : ∀ p ∈ led, p.1 ≠ l) (h0 : J 0 m led)
    (turn : ∀ i v m₁ led₁ h tk own, vs[i]? = some v → J i m₁ led₁ → Fr h₀ env.locals h m₁ → News h₀ env.locals h (led₁ ++ own) → own.map (·.1) = [s.heap.objs.size, l] → (∀ p ∈ led₁, p.1 ∉ [s.heap.objs.size, l]) →
      wpAny (model prog w) A (assign target env v) (fun _ s₂ => wpAny (model prog w) A (execs body env) (Turned h₀ env.locals [s.heap.objs.size, l] (J (i + 1)) own s Q) (fun _ _ => False) s₂) (fun _ _ => False) { s with heap := h, toks := tk })
    (done : ∀ m₁ led₁ h tk, J vs.size m₁ led₁ → Fr h₀ env.locals h m₁ → News h₀ env.locals h led₁ → Q .next { s with heap := h, toks := tk }) :
    wpAny (model prog w) A (pyIter (.ref l)) (fun it s₂ => codeAny (model prog w) A (.forLoop target it body [] env) (fun r s' => match r with | .ok f => Q f s' | .error e => cameBackBy (model prog w) A env (fun _ _ => False) e s') s₂) (fun _ _ => False) s := by
  have hlt : l < s.heap.objs.size := Heap.lt_size (N _ (.head _)).1
  have hne : l ≠ s.heap.objs.size := Nat.ne_of_lt hlt
  refine wpAny_pyIter_list hl ?_
  refine forLoop_led (Walks.list (prog := prog) (w := w) hh s.heap.objs.size l hne vs) (ht _) ?_ ?_ ?_ J ⟨⟨_, Heap.get?_push_size _ rfl, rfl, rfl⟩, hl.at fun o e => Heap.get?_push_of_some _ e⟩ (F.push _)
    (fun p hp => ⟨Heap.get?_push_of_some _ (N p (.tail _ hp)).1, (N p (.tail _ hp)).2⟩) ?_ h0 ?_ ?_
  · intro q
    rcases List.mem_cons.mp q with q | q
    · exact absurd F.ns.lt (q ▸ Nat.lt_irrefl _)
    · exact (N _ (.head _)).2.1 (List.mem_singleton.mp q).symm
  · intro b hb
    rcases List.mem_cons.mp hb with rfl | hb
    · exact next_is_new F
    · rw [List.mem_singleton.mp hb]
      exact (N _ (.head _)).2.2
  · rintro i h ⟨⟨o, ho, _⟩, ⟨o', ho', _⟩⟩ b hb
    rcases List.mem_cons.mp hb with rfl | hb
    · exact ⟨o, ho⟩
    · rw [List.mem_singleton.mp hb]
      exact ⟨o', ho'⟩
  · intro p hp q
    rcases List.mem_cons.mp q with q | q
    · exact absurd (Heap.lt_size (N p (.tail _ hp)).1) (q ▸ Nat.lt_irrefl _)
    · exact hoff p hp (List.mem_singleton.mp q)
  · intro i v m₁ led₁ h tk own hi hP hJ F₁ N₁ hown hoff'
    have q := turn i v m₁ led₁ h tk own hP hJ F₁ N₁ hown hoff'
    exact wpAny_passesOwn PassesOwn.never (wpAny_mono q (fun _ _ z => wpAny_passesOwn PassesOwn.never z) fun _ _ z => z)
  · intro m₁ led₁ h tk hJ F₁ N₁
    exact done m₁ led₁ h tk hJ F₁ N₁
end
end Mine
namespace Mine
/-- what stands behind a statement that goes on to the next -/
def MidAt (g : Heap) (L : Addr) (s : Shared) (Rel : (Str → Option Value) → List (Addr × Obj) → Prop) (f : Flow) (s' : Shared) : Prop :=
  f = .next ∧ ∃ h' tk' m' led, s' = { s with heap := h', toks := tk' } ∧ Fr g L h' m' ∧ News g L h' led ∧ Rel m' led
theorem MidAt.intro {g : Heap} {L : Addr} {s : Shared} {Rel : (Str → Option Value) → List (Addr × Obj) → Prop} {h' : Heap} {tk' : Nat} {m' : Str → Option Value} {led : List (Addr × Obj)}
    (F : Fr g L h' m') (N : News g L h' led) (hr : Rel m' led) : MidAt g L s Rel .next { s with heap := h', toks := tk' } := ⟨rfl, h', tk', m', led, rfl, F, N, hr⟩
theorem cut {M : Model} {A : Around} {E : Value → Shared → Prop} {Q : Flow → Shared → Prop} {s : Shared} {env : Env} {st : Stmt} {rest : List Stmt} {g : Heap} {L : Addr} (Rel : (Str → Option Value) → List (Addr × Obj) → Prop)
    (h1 : wpAny M A (exec st env) (MidAt g L s Rel) E s)
    (h2 : ∀ m' led h' tk', Fr g L h' m' → News g L h' led → Rel m' led → wpAny M A (execs rest env) Q E { s with heap := h', toks := tk' }) : wpAny M A (execs (st :: rest) env) Q E s := by
  refine wpAny_execs_cons (wpAny_mono h1 (fun f s' h => ?_) fun _ _ z => z)
  obtain ⟨rfl, h', tk', m', led, rfl, F, N, hr⟩ := h
  exact h2 m' led h' tk' F N hr
end Mine
namespace Mine
set_option maxRecDepth 100000
set_option maxHeartbeats 8000000

abbrev Ret (h₀ : Heap) (L : Addr) (m : Str → Option Value) (news : List (Addr × Obj)) (s : Shared) (Q : Value → Shared → Prop) (R : Tok → Value) : Prop :=
  ∀ (t : Tok) (h' : Heap) (tk' : Nat), Fr h₀ L h' m → News h₀ L h' news → Q (R t) { s with heap := h', toks := tk' }

abbrev Claim (prog : Program) (w : World) (K : Frag) (f : Addr) (vs : List Value) (kw : List (Str × Value)) (pre : Prop) (R : Tok → Value) : Prop :=
  ∀ (p : Program) (loose : List Str) (mean : ExcName → Option Value) (mg mb : Str → Option Value) (news : List (Addr × Obj)) (dp un : Nat) (cn : Str) (cs : Scope) (a : Addr) (ccd : Value) (cl : List (Str × Addr)) (outer : List Env) (A₀ : Around) (base h₀ : Heap) (L : Addr) (m : Str → Option Value) (s : Shared) (Q E : Value → Shared → Prop),
    Below A₀ base outer h₀ → Fr h₀ L s.heap m → K.In h₀ → News h₀ L s.heap news → Top p loose mean mg mb h₀ → cs.kind = .function →
    pre → dp + 1 < recursionLimit → un + 1000 < cLine → Ret h₀ L m news s Q R →
      wpAny (model prog w) (ktrTop dp un (some []) cn cs L a ccd cl outer) (call (.ref f) vs kw) Q E s

end Mine
namespace Mine
theorem see {h₀ : Heap} {L : Addr} {h : Heap} {m : Str → Option Value} {x : Str} {v : Value} (F : Fr h₀ L h m) (hx : m x = some v) :
    Fr h₀ L h (fun y => if y = x then some v else m y) := by
  have e : (fun y => if y = x then some v else m y) = m := by
    funext y
    by_cases hy : y = x
    · rw [if_pos hy, hy, hx]
    · rw [if_neg hy]
  rw [e]; exact F
theorem sub {h₀ : Heap} {L : Addr} {h : Heap} {l l' : List (Addr × Obj)} (N : News h₀ L h l) (hs : ∀ p ∈ l', p ∈ l) : News h₀ L h l' := fun p hp => N p (hs p hp)
end Mine
namespace Mine
theorem seeL {h₀ : Heap} {L : Addr} {h : Heap} {m : Str → Option Value} (ps : List (Str × Value)) (F : Fr h₀ L h m) (hx : ∀ p ∈ ps, m p.1 = some p.2) :
    Fr h₀ L h (kstB m ps) := by
  have e : kstB m ps = m := by
    funext y
    exact kstB_eq hx fun _ => rfl
  rw [e]; exact F
end Mine

namespace Mine
abbrev ClaimN (prog : Program) (w : World) (K : Frag) (f : Addr) (vs : List Value) (kw : List (Str × Value)) (pre : List (Addr × Obj) → Prop) (R : Tok → Value) : Prop :=
  ∀ (p : Program) (loose : List Str) (mean : ExcName → Option Value) (mg mb : Str → Option Value) (news : List (Addr × Obj)) (dp un : Nat) (cn : Str) (cs : Scope) (a : Addr) (ccd : Value) (cl : List (Str × Addr)) (outer : List Env) (A₀ : Around) (base h₀ : Heap) (L : Addr) (m : Str → Option Value) (s : Shared) (Q E : Value → Shared → Prop),
    Below A₀ base outer h₀ → Fr h₀ L s.heap m → K.In h₀ → News h₀ L s.heap news → Top p loose mean mg mb h₀ → cs.kind = .function →
    pre news → dp + 1 < recursionLimit → un + 1000 < cLine → Ret h₀ L m news s Q R →
      wpAny (model prog w) (ktrTop dp un (some []) cn cs L a ccd cl outer) (call (.ref f) vs kw) Q E s

theorem repr_shows {prog : Program} {w : World} {A : Around} {E : Value → Shared → Prop} {s : Shared} {h₀ : Heap} {L : Addr} {m : Str → Option Value} {news fz : List (Addr × Obj)} {d : Nat} {v : Value} {t : Str} {Q : Value → Shared → Prop}
    (S : Shows prog w fz d v t) (hs : ∀ p ∈ fz, p ∈ news) (hg : A.guards = some []) (hu : A.units + (d + 1) < cLine) (F : Fr h₀ L s.heap m) (N : News h₀ L s.heap news)
    (h : ∀ h' u tk, Fr h₀ L h' m → News h₀ L h' news → Q (.str t u) { s with heap := h', toks := tk }) : wpAny (model prog w) A (call (.builtin "repr") [v]) Q E s :=
  S.2 A E s Q hg hu (fun p hp => (N p (hs p hp)).1) fun h' u tk hk => h h' u tk (F.keeps hk) (N.keepsAll hk)
end Mine
namespace Mine
theorem item_at {prog : Program} {w : World} {A : Around} {E : Value → Shared → Prop} {s : Shared} {value slice : Expr} {l : Addr} {vs : Array Value} {i : Int} {u : Tok} {v : Value} {Q : Value → Shared → Prop} (j : Nat)
    (hl : s.heap.IsList l vs) (hij : i = (j : Int)) (hj : j < 1000) (hx : vs[j]? = some v) (h : Q v s)
    (hs : subscripted slice false (.ref l) (.int i u) = operate [.ref l, .int i u] (getItem (.ref l) (.int i u)) := by with_unfolding_all rfl) :
    wpAny (model prog w) A (subscriptTail value slice (.ref l) (.int i u)) Q E s :=
  tail_any hl.typeIs slot_list_getitem.lookup (wpAny_getItem_list hl (by omega) (by omega) (by rw [hij, Int.toNat_natCast]; exact hx) h) hs
end Mine
namespace Mine
theorem strs_values {us : List Value} {ts : List Str} (h : StrsAre us ts) : ∃ l : List (Str × Tok), us = strValues l ∧ l.map (·.1) = ts := by
  induction h with
  | nil => exact ⟨[], rfl, rfl⟩
  | cons y t _ ih =>
    obtain ⟨l, e1, e2⟩ := ih
    exact ⟨(y, t) :: l, by rw [e1]; rfl, by rw [← e2]; rfl⟩
theorem join_strs {prog : Program} {w : World} {A : Around} {E : Value → Shared → Prop} {s : Shared} {x : Str} {t : Tok} {D : Addr} {us : List Value} {ts : List Str} {Q : Value → Shared → Prop}
    (hl : s.heap.IsList D us.toArray) (hu : StrsAre us ts) (hw : (ts.map (·.length)).sum + ts.length ≤ 1048576) (hs : x.length ≤ 16)
    (hq : ∀ t' k, Q (.str (Txt.join x ts) t') { s with toks := k }) : wpAny (model prog w) A (call (.builtin "str.join") [.str x t, .ref D]) Q E s := by
  obtain ⟨l, rfl, e⟩ := strs_values hu
  exact SC.join hl e (joinOk_of_weight hw hs) hq
theorem pick_from (l : List Value) (n : Nat) : (slicePick l.toArray (some (n : Int)) none none).toList = l.drop n := by
  rw [slicePick_from']
theorem piled_sum : ∀ ts : List Str, (ts.map (·.length)).sum + 2 * ts.length = piled ts
  | [] => rfl
  | t :: r => by
    have := piled_sum r
    rw [piled_cons]
    simp only [List.map_cons, List.sum_cons, List.length_cons]
    omega
theorem join_list (ts : List Str) : Str.ofString "[" ++ Txt.join (Str.ofString ", ") ts ++ Str.ofString "]" = listText ts := by
  rw [listText_eq_join]
  show Str.ofString "[" ++ Builtin.Str.glued (Str.ofString ", ") ts ++ Str.ofString "]" = _
  rw [StrLaws.glued_eq_join]
theorem join_len (ts : List Str) : (Txt.join (Str.ofString ", ") ts).length ≤ piled ts := by
  show (Builtin.Str.glued (Str.ofString ", ") ts).length ≤ _
  rw [StrLaws.glued_eq_join]
  by_cases h : ts = []
  · subst h; exact Nat.zero_le _
  · have := join_length_add ts h
    omega
theorem listText_len (ts : List Str) : (listText ts).length ≤ piled ts + 2 := by
  have h1 : (Str.ofString "[").cps.toList.length = 1 := by decide +kernel
  have h2 : (Str.ofString "]").cps.toList.length = 1 := by decide +kernel
  have := join_len ts
  rw [len_list] at this
  rw [← join_list, len_list, cps_append, cps_append, List.length_append, List.length_append, h1, h2]
  omega
end Mine
namespace Mine
theorem tuple_one {ts : List Str} (h : ts.length = 1) : Str.ofString "(" ++ Txt.join (Str.ofString ", ") ts ++ Str.ofString "," ++ Str.ofString ")" = tupleText ts := by
  unfold tupleText
  rw [show (if ts.length == 1 then ",)" else ")" : String) = ",)" from by simp [h]]
  show Str.ofString "(" ++ Builtin.Str.glued (Str.ofString ", ") ts ++ Str.ofString "," ++ Str.ofString ")" = Str.ofString "(" ++ Str.join (Str.ofString ", ") ts ++ Str.ofString ",)"
  rw [StrLaws.glued_eq_join]
  apply str_ext
  simp only [cps_append]
  rw [show (Str.ofString ",)").cps.toList = (Str.ofString ",").cps.toList ++ (Str.ofString ")").cps.toList from by decide +kernel]
  simp
theorem tuple_more {ts : List Str} (h : ts.length ≠ 1) : Str.ofString "(" ++ Txt.join (Str.ofString ", ") ts ++ Str.ofString "" ++ Str.ofString ")" = tupleText ts := by
  unfold tupleText
  rw [show (if ts.length == 1 then ",)" else ")" : String) = ")" from by simp [h]]
  show Str.ofString "(" ++ Builtin.Str.glued (Str.ofString ", ") ts ++ Str.ofString "" ++ Str.ofString ")" = Str.ofString "(" ++ Str.join (Str.ofString ", ") ts ++ Str.ofString ")"
  rw [StrLaws.glued_eq_join]
  apply str_ext
  simp only [cps_append]
  rw [show (Str.ofString "").cps.toList = [] from by decide +kernel]
  simp
theorem tupleText_len (ts : List Str) : (tupleText ts).length ≤ piled ts + 3 := by
  have h1 : (Str.ofString "(").cps.toList.length = 1 := by decide +kernel
  have h2 : (Str.ofString ")").cps.toList.length = 1 := by decide +kernel
  have h3 : (Str.ofString ",").cps.toList.length = 1 := by decide +kernel
  have h4 : (Str.ofString "").cps.toList.length = 0 := by decide +kernel
  have := join_len ts
  rw [len_list] at this
  by_cases h : ts.length = 1
  · rw [← tuple_one h, len_list, cps_append, cps_append, cps_append, List.length_append, List.length_append, List.length_append, h1, h2, h3]
    omega
  · rw [← tuple_more h, len_list, cps_append, cps_append, cps_append, List.length_append, List.length_append, List.length_append, h1, h2, h4]
    omega
end Mine
namespace Mine
def signs14 : List Nat := [97, 98, 39, 34, 92, 10, 13, 9, 0, 127, 27, 32, 39, 233]
def escs : List Nat := [92, 10, 13, 9, 0, 127, 27]
def qOf (x : Str) : Nat := if (Builtin.Str.occurrences x (Str.ofString "'") 0 x.length 1).isEmpty = false ∧ (Builtin.Str.occurrences x (Str.ofString "\"") 0 x.length 1).isEmpty = true then 34 else 39
theorem qOf_a {x : Str} (h : (Builtin.Str.occurrences x (Str.ofString "'") 0 x.length 1).isEmpty = true) : qOf x = 39 := by
  unfold qOf; rw [if_neg (by rw [h]; simp)]
theorem qOf_b {x : Str} (h : (Builtin.Str.occurrences x (Str.ofString "'") 0 x.length 1).isEmpty = false) (h2 : (Builtin.Str.occurrences x (Str.ofString "\"") 0 x.length 1).isEmpty = true) : qOf x = 34 := by
  unfold qOf; rw [if_pos ⟨h, h2⟩]
theorem qOf_c {x : Str} (h : (Builtin.Str.occurrences x (Str.ofString "\"") 0 x.length 1).isEmpty = false) : qOf x = 39 := by
  unfold qOf; rw [if_neg (by rw [h]; simp)]
theorem q39 : Str.ofString "'" = ⟨#[39]⟩ := by decide +kernel
theorem q34 : Str.ofString "\"" = ⟨#[34]⟩ := by decide +kernel
theorem qOf_or (x : Str) : qOf x = 34 ∨ qOf x = 39 := by unfold qOf; split <;> simp
theorem qOf_repr (x : Str) : qOf x = reprQuote x := by
  have a := StrLaws.found_one x 39
  have b := StrLaws.found_one x 34
  have c39 : x.cps.contains 39 = decide (39 ∈ x.cps.toList) := by simp
  have c34 : x.cps.contains 34 = decide (34 ∈ x.cps.toList) := by simp
  unfold qOf reprQuote
  rw [q39, q34, c39, c34, ← a, ← b]
  cases (Builtin.Str.occurrences x ⟨#[39]⟩ 0 x.length 1).isEmpty <;> cases (Builtin.Str.occurrences x ⟨#[34]⟩ 0 x.length 1).isEmpty <;> rfl
/-- what the law writes of a text's signs -/
def quoted (q : Nat) (l : List Nat) : List Nat := l.flatMap (fun c => Builtin.Str.reprChar q c)
theorem foldl_quoted (q : Nat) : ∀ (l : List Nat) (acc : Array Nat), (l.foldl (fun out c => out ++ (Builtin.Str.reprChar q c).toArray) acc).toList = acc.toList ++ quoted q l
  | [], acc => by simp [quoted]
  | c :: r, acc => by
    rw [List.foldl_cons, foldl_quoted q r]
    simp [quoted]
theorem reprText_list (x : Str) : (reprText x).cps.toList = [qOf x] ++ quoted (qOf x) x.cps.toList ++ [qOf x] := by
  unfold reprText
  rw [← qOf_repr]
  show ((x.cps.foldl (fun out c => out ++ (Builtin.Str.reprChar (qOf x) c).toArray) #[qOf x]).push (qOf x)).toList = _
  rw [Array.toList_push, ← Array.foldl_toList, foldl_quoted]
theorem quoted_step {q : Nat} {l : List Nat} {i c : Nat} (h : l[i]? = some c) : quoted q (l.take (i + 1)) = quoted q (l.take i) ++ Builtin.Str.reprChar q c := by
  rw [List.take_add_one, h]; simp [quoted]
theorem piece_len : ∀ c ∈ signs14, ∀ q ∈ [34, 39], (Builtin.Str.reprChar q c).length ≤ 4 := by decide +kernel
theorem quoted_len {q : Nat} (hq : q ∈ [34, 39]) : ∀ {l : List Nat}, (∀ c ∈ l, c ∈ signs14) → (quoted q l).length ≤ 4 * l.length
  | [], _ => Nat.le_refl _
  | c :: r, h => by
    have ih := quoted_len hq (l := r) fun d hd => h d (.tail _ hd)
    have hc := piece_len c (h c (.head _)) q hq
    simp only [quoted, List.flatMap_cons, List.length_append, List.length_cons] at ih ⊢
    omega
theorem piece_plain : ∀ c ∈ signs14, c ∉ escs → ∀ q ∈ [34, 39], c ≠ q → Builtin.Str.reprChar q c = [c] := by decide +kernel
theorem piece_quote : ∀ q ∈ [34, 39], Builtin.Str.reprChar q q = [92, q] := by decide +kernel
theorem piece_esc : ∀ q ∈ [34, 39], Builtin.Str.reprChar q 92 = [92, 92] ∧ Builtin.Str.reprChar q 10 = [92, 110] ∧ Builtin.Str.reprChar q 13 = [92, 114] ∧ Builtin.Str.reprChar q 9 = [92, 116] ∧
    Builtin.Str.reprChar q 0 = [92, 120, 48, 48] ∧ Builtin.Str.reprChar q 127 = [92, 120, 55, 102] ∧ Builtin.Str.reprChar q 27 = [92, 120, 49, 98] := by decide +kernel
theorem esc_texts : (Str.ofString "\\\\").cps.toList = [92, 92] ∧ (Str.ofString "\\n").cps.toList = [92, 110] ∧ (Str.ofString "\\r").cps.toList = [92, 114] ∧ (Str.ofString "\\t").cps.toList = [92, 116] ∧
    (Str.ofString "\\x00").cps.toList = [92, 120, 48, 48] ∧ (Str.ofString "\\x7f").cps.toList = [92, 120, 55, 102] ∧ (Str.ofString "\\x1b").cps.toList = [92, 120, 49, 98] := by decide +kernel
def plc (c : Nat) : List Int := (rangeKs 0 7).foldl (fun l k => if (Txt.item (Str.ofString "\\\n\r\t\x00\x7f\x1b") k == ⟨#[c]⟩) = true then l ++ [k] else l) []
theorem esc_item : ∀ k : Nat, k < 7 → Txt.item (Str.ofString "\\\n\r\t\x00\x7f\x1b") (k : Int) = ⟨#[escs.getD k 0]⟩ := by decide +kernel
theorem plc_cases (c : Nat) : (c ∉ escs ∧ plc c = []) ∨ ∃ i : Nat, i < 7 ∧ escs.getD i 0 = c ∧ plc c = [(i : Int)] := by
  have e : plc c = [0, 1, 2, 3, 4, 5, 6].foldl (fun (l : List Int) (k : Nat) => if escs.getD k 0 = c then l ++ [(k : Int)] else l) [] := by
    have h : ∀ k : Nat, k < 7 → ((Txt.item (Str.ofString "\\\n\r\t\x00\x7f\x1b") (k : Int) == (⟨#[c]⟩ : Str)) = true ↔ escs.getD k 0 = c) := fun k hk => by
      rw [esc_item k hk]; simp
    show ([((0 : Nat) : Int), ((1 : Nat) : Int), ((2 : Nat) : Int), ((3 : Nat) : Int), ((4 : Nat) : Int), ((5 : Nat) : Int), ((6 : Nat) : Int)].foldl _ []) = _
    simp only [List.foldl_cons, List.foldl_nil, h 0 (by omega), h 1 (by omega), h 2 (by omega), h 3 (by omega), h 4 (by omega), h 5 (by omega), h 6 (by omega)]
  rw [e]
  by_cases hc : c ∈ escs
  · right
    simp only [escs, List.mem_cons, List.not_mem_nil, or_false] at hc
    rcases hc with rfl | rfl | rfl | rfl | rfl | rfl | rfl
    · exact ⟨0, by decide, by decide, by decide⟩
    · exact ⟨1, by decide, by decide, by decide⟩
    · exact ⟨2, by decide, by decide, by decide⟩
    · exact ⟨3, by decide, by decide, by decide⟩
    · exact ⟨4, by decide, by decide, by decide⟩
    · exact ⟨5, by decide, by decide, by decide⟩
    · exact ⟨6, by decide, by decide, by decide⟩
  · left
    refine ⟨hc, ?_⟩
    simp only [escs, List.mem_cons, List.not_mem_nil, or_false, not_or] at hc
    obtain ⟨h0, h1, h2, h3, h4, h5, h6⟩ := hc
    simp [escs, Ne.symm h0, Ne.symm h1, Ne.symm h2, Ne.symm h3, Ne.symm h4, Ne.symm h5, Ne.symm h6]
end Mine
namespace Mine
theorem quoted_as : ∀ n : Nat, quoted 39 (List.replicate n 97) = List.replicate n 97
  | 0 => rfl
  | n + 1 => by
    have h : Builtin.Str.reprChar 39 97 = [97] := by decide +kernel
    rw [List.replicate_succ]
    show Builtin.Str.reprChar 39 97 ++ quoted 39 (List.replicate n 97) = _
    rw [quoted_as n, h]; rfl
theorem qOf_as (n : Int) : qOf (Txt.mul (Str.ofString "a") n) = 39 := by
  rw [show Str.ofString "a" = ⟨#[97]⟩ from by decide +kernel]
  apply qOf_a
  have h := StrLaws.found_one (Txt.mul ⟨#[97]⟩ n) 39
  rw [q39]
  have hn : ¬ (39 ∈ (Txt.mul ⟨#[97]⟩ n).cps.toList) := by rw [mul_one_list]; simp
  rw [decide_eq_false hn] at h
  simpa using h
theorem as_text (n : Int) : Str.ofString "'" ++ Txt.mul (Str.ofString "a") n ++ Str.ofString "'" = reprText (Txt.mul (Str.ofString "a") n) := by
  apply str_ext
  rw [reprText_list, qOf_as, cps_append, cps_append, q39]
  have h : (Txt.mul (Str.ofString "a") n).cps.toList = List.replicate n.toNat 97 := by
    rw [show Str.ofString "a" = ⟨#[97]⟩ from by decide +kernel]; exact mul_one_list _ _
  rw [h, quoted_as]
theorem as_len {n : Int} (h : n ≤ 90) : (reprText (Txt.mul (Str.ofString "a") n)).length ≤ 92 := by
  rw [← as_text, len_list, cps_append, cps_append, q39]
  have h : (Txt.mul (Str.ofString "a") n).cps.toList = List.replicate n.toNat 97 := by
    rw [show Str.ofString "a" = ⟨#[97]⟩ from by decide +kernel]; exact mul_one_list _ _
  rw [h]
  simp
  omega
end Mine
namespace Mine
theorem mod_small (k : Int) : (k.fmod (10 ^ Int.toNat 90)).natAbs < 10 ^ 90 := by
  have e : (10 : Int) ^ Int.toNat 90 = ((10 ^ 90 : Nat) : Int) := by decide +kernel
  rw [e]
  have hp : 0 < 10 ^ 90 := Nat.pow_pos (by omega)
  generalize 10 ^ 90 = N at hp ⊢
  have h1 := Int.fmod_nonneg_of_pos k (b := (N : Int)) (by omega)
  have h2 := Int.fmod_lt_of_pos k (b := (N : Int)) (by omega)
  omega
theorem fig_room {z : Int} (h : z.natAbs < 10 ^ 90) : (digs z.natAbs).length ≤ 90 := digs_len (by omega) h
theorem int_log {z : Int} (h : z.natAbs < 10 ^ 90) : z.natAbs.log2 < 1920 := by
  by_cases h0 : z.natAbs = 0
  · rw [h0]; decide
  · exact (Nat.log2_lt h0).mpr (Nat.lt_trans h (by decide +kernel))
theorem int_len {z : Int} {n : Nat} (h : (digs z.natAbs).length ≤ n) : (Str.ofString (toString z)).length ≤ n + 1 := by
  rw [len_list, int_text, List.length_append]
  have : (if z < 0 then [45] else [] : List Nat).length ≤ 1 := by split <;> simp
  omega
end Mine
namespace Mine
def SIGNS : Str := Str.ofString "ab'\"\\\n\r\t\x00\x7f\x1b 'é"
theorem signs_item : ∀ i : Nat, i < 14 → (Txt.item SIGNS (i : Int)).cps.toList ⊆ signs14 := by decide +kernel
theorem join_signs {α : Type} (f : α → Str) : ∀ l : List α, (∀ a ∈ l, (f a).cps.toList ⊆ signs14) → ∀ c ∈ (Txt.join (Str.ofString "") (l.map f)).cps.toList, c ∈ signs14 := by
  intro l h
  show ∀ c ∈ (Builtin.Str.glued (Str.ofString "") (l.map f)).cps.toList, c ∈ signs14
  rw [StrLaws.glued_eq_join]
  induction l with
  | nil => intro c hc; exact nomatch hc
  | cons a r ih =>
    have ih' := ih fun b hb => h b (.tail _ hb)
    have ha := h a (.head _)
    cases r with
    | nil => intro c hc; exact ha hc
    | cons b r' =>
      intro c hc
      have e : (Str.join (Str.ofString "") ((a :: b :: r').map f)).cps.toList = (f a).cps.toList ++ (Str.ofString "").cps.toList ++ (Str.join (Str.ofString "") ((b :: r').map f)).cps.toList := by
        show (f a ++ Str.ofString "" ++ Str.join (Str.ofString "") ((b :: r').map f)).cps.toList = _
        rw [cps_append, cps_append]
      rw [e] at hc
      rcases List.mem_append.mp hc with hc | hc
      · rcases List.mem_append.mp hc with hc | hc
        · exact ha hc
        · exact nomatch hc
      · exact ih' c hc
theorem repr_len {x : Str} (h : ∀ c ∈ x.cps.toList, c ∈ signs14) : (reprText x).length ≤ 4 * x.length + 2 := by
  rw [len_list, len_list x, reprText_list, List.length_append, List.length_append]
  have hq : qOf x ∈ [34, 39] := by rcases qOf_or x with e | e <;> rw [e] <;> decide
  have := quoted_len hq h
  simp only [List.length_cons, List.length_nil]
  omega
end Mine
namespace Mine
set_option maxRecDepth 100000
set_option maxHeartbeats 8000000

/-- what holds at the head of the figures' loop -/
def FigJ (v : Int) (t : Tok) (news : List (Addr × Obj)) (n : Nat) (m : Str → Option Value) (nx : List (Addr × Obj)) : Prop :=
  ∃ (x : Str) (tx : Tok) (l : Nat) (tl : Tok),
    m (Str.ofString "figures") = some (.str x tx) ∧ m (Str.ofString "left") = some (.int (l : Int) tl) ∧ m (Str.ofString "n") = some (.int v t) ∧
    nx = news ∧ n = l + (if x.length = 0 then 1 else 0) ∧
    ((x = Str.empty ∧ l = v.natAbs) ∨ (x.length ≠ 0 ∧ digs v.natAbs = (if l = 0 then [] else digs l) ++ x.cps.toList))

theorem fig_turn {N l : Nat} {x y : Str} (hc : l ≠ 0 ∨ x.length = 0) (h6 : (x = Str.empty ∧ l = N) ∨ (x.length ≠ 0 ∧ digs N = (if l = 0 then [] else digs l) ++ x.cps.toList))
    (hy : y = Txt.item (Str.ofString "0123456789") ((l : Int).fmod 10) ++ x) :
    y.length ≠ 0 ∧ digs N = (if l / 10 = 0 then [] else digs (l / 10)) ++ y.cps.toList := by
  have e : (l : Int).fmod 10 = ((l % 10 : Nat) : Int) := by
    rw [Int.fmod_eq_emod_of_nonneg _ (by omega)]; omega
  rw [e, digit_item _ (Nat.mod_lt _ (by omega))] at hy
  have hl : y.cps.toList = [48 + l % 10] ++ x.cps.toList := by rw [hy, cps_append]
  refine ⟨by rw [len_list, hl]; simp, ?_⟩
  rw [hl]
  rcases h6 with ⟨rfl, rfl⟩ | ⟨h, h6⟩
  · rw [digs_step l]; rfl
  · have hl0 : l ≠ 0 := by omega
    rw [h6, if_neg hl0, digs_step l]
    simp
theorem fig_less {l n : Nat} {x : Str} (hc : l ≠ 0 ∨ x.length = 0) (h5 : n = l + if x.length = 0 then 1 else 0) : l / 10 < n := by
  split at h5 <;> omega
theorem fig_end {v : Int} {l : Nat} {x : Str} (hl : l = 0) (hx : x.length ≠ 0) (h6 : (x = Str.empty ∧ l = v.natAbs) ∨ (x.length ≠ 0 ∧ digs v.natAbs = (if l = 0 then [] else digs l) ++ x.cps.toList)) :
    x.cps.toList = digs v.natAbs := by
  rcases h6 with ⟨rfl, _⟩ | ⟨_, h6⟩
  · exact absurd rfl hx
  · rw [h6, if_pos hl]; rfl

theorem fig (prog : Program) (w : World) (v : Int) (t : Tok) : Claim prog w (hd.heap_39 w.params) 29 [.int v t] [] ((digs v.natAbs).length ≤ 100) (fun t => .str (Str.ofString (toString v)) t) := by
  k_with_none
  w_top off
  unfold Claim Ret
  intro p loose mean mg mb news dp un cn cs a ccd cl outer A₀ base h₀ L m s Q E B0 F0 X0 N0 T0 hk hpre hdp hun hret
  refine wpAny_call ?_
  (first | k_dflt cell_enter | fail "no entry")
  (repeat' ((fail_if_success (with_reducible show wpAny _ _ (exec (Stmt.While _ _ _ _) _) _ _ _)); (first | (k_unfold; (try dsimp only)) | (k_end; wrow_close) | walk1 | (dsimp only; walk1) | (leave1; walk_say "STEP leave1"; try dsimp only) | fail "no step")))
  (with_reducible rename Fr _ _ _ _ => F)
  (with_reducible rename News _ _ _ _ => N)
  refine While_inv2 (n₀ := v.natAbs + 1) (FigJ v t news) F (sub N (fun p hp => List.mem_cons_of_mem _ hp)) ?_ ?_ ?_
  · have e : (if v < 0 then -v else v) = (v.natAbs : Int) := by split <;> omega
    rw [e]
    exact ⟨Str.ofString "", _, v.natAbs, _, by rfl, by rfl, by rfl, rfl, by rfl, .inl ⟨by decide, rfl⟩⟩
  · rintro n m₁ nx h tk F1 N1 ⟨x, tx, l, tl, h1, h2, h3, h4, h5, h6⟩
    subst h4
    replace F1 := seeL [(Str.ofString "figures", _), (Str.ofString "left", _), (Str.ofString "n", _)] F1 (List.forall_mem_cons.mpr ⟨h1, List.forall_mem_cons.mpr ⟨h2, List.forall_mem_cons.mpr ⟨h3, List.forall_mem_nil _⟩⟩⟩)
    dsimp only [kstB] at F1
    clear h1 h2 h3 F N
    have hx : x.length ≤ 100 := by
      rcases h6 with ⟨rfl, _⟩ | ⟨_, h6⟩
      · decide
      · have := congrArg List.length h6
        rw [List.length_append, ← len_list] at this
        omega
    k_steps
    · (with_reducible rename Fr _ _ _ _ => F)
      (with_reducible rename News _ _ _ _ => N)
      have hc : l ≠ 0 ∨ x.length = 0 := .inl (by omega)
      have ht := fig_turn hc h6 rfl
      exact ⟨_, _, _, nx, l / 10, rfl, F, sub N (fun p hp => List.mem_cons_of_mem _ hp), fig_less hc h5, _, _, l / 10, _, by rfl, (by show some (Value.int ((l : Int).fdiv 10) _) = _; rw [Int.fdiv_eq_ediv_of_nonneg _ (by omega)]; rfl), by rfl, rfl, by rw [if_neg ht.1]; rfl, .inr ht⟩
    · (with_reducible rename Fr _ _ _ _ => F)
      (with_reducible rename News _ _ _ _ => N)
      have hc : l ≠ 0 ∨ x.length = 0 := .inr (by rw [show x = Str.ofString "" from by simpa using ‹(x == Str.ofString "") = true›]; decide)
      have ht := fig_turn hc h6 rfl
      exact ⟨_, _, _, nx, l / 10, rfl, F, sub N (fun p hp => List.mem_cons_of_mem _ hp), fig_less hc h5, _, _, l / 10, _, by rfl, (by show some (Value.int ((l : Int).fdiv 10) _) = _; rw [Int.fdiv_eq_ediv_of_nonneg _ (by omega)]; rfl), by rfl, rfl, by rw [if_neg ht.1]; rfl, .inr ht⟩
    all_goals (
      (with_reducible rename Fr h₀ _ _ _ => F)
      (with_reducible rename News h₀ _ _ _ => N)
      have hx0 : x.length ≠ 0 := fun q => by
        have e : x = Str.ofString "" := str_ext (by rw [List.length_eq_zero_iff.mp ((len_list x).symm.trans q)]; rfl)
        simp [e] at *
      have he := fig_end (by omega) hx0 h6
      first
        | (have e : Str.ofString "-" ++ x = Str.ofString (toString v) := str_ext (by rw [cps_append, he, int_text, if_pos (by assumption)]; rfl)
           rw [e]; exact hret _ _ _ F N)
        | (have e : x = Str.ofString (toString v) := str_ext (by rw [he, int_text, if_neg (by assumption)]; rfl)
           rw [e]; exact hret _ _ _ F N))
  · first | passes_own | with_unfolding_all passes_own
end Mine
namespace Mine
set_option maxRecDepth 100000
set_option maxHeartbeats 8000000
def QuoJ (c : Addr) (news : List (Addr × Obj)) (x : Str) (t : Tok) (n : Nat) (m : Str → Option Value) (led : List (Addr × Obj)) : Prop :=
  ∃ oc v₀ tq y ty, led = (c, oc) :: news ∧ oc.data = .cell v₀ ∧ m (Str.ofString "text") = some (.str x t) ∧ m (Str.ofString "quote") = some (.str ⟨#[qOf x]⟩ tq) ∧ m (Str.ofString "out") = some (.str y ty) ∧
    y.cps.toList = quoted (qOf x) (x.cps.toList.take n)

local macro_rules | `(tactic| units_room) => `(tactic| ktr_units)
local macro_rules | `(tactic| walk_at "CompSrcT") => `(tactic| (k_here; k_dflt (k_extra "mycomp")))
theorem quo (prog : Program) (w : World) (x : Str) (t : Tok) : Claim prog w (hd.heap_39 w.params) 34 [.str x t] [] (x.length ≤ 100 ∧ ∀ c ∈ x.cps.toList, c ∈ signs14) (fun t => .str (reprText x) t) := by
  k_with_none
  w_top off
  unfold Claim Ret
  intro p loose mean mg mb news dp un cn cs a ccd cl outer A₀ base h₀ L m s Q E B0 F0 X0 N0 T0 hk hpre hdp hun hret
  refine wpAny_call ?_
  refine' code_defC ?k1 ?k2 ?k3 ?k4 ?k5 ?kA ?kF ?kK ?k6 ?k7 ?k8 ?k9 ?kB ?kD ?_ ?c2 ?c3 ?c4; (case kA => exact rfl); (case kF => exact rfl); (case kK => assumption); (case k1 => k_asm); (case k2 => k_asm); (case k3 => k_asm); (case k4 => k_asm); (case k5 => k_asm); (case k6 => k_is); (case k7 => k_is); (case k8 => ktr_room); (case k9 => exact BindsTo.of_eq rfl); (case kB => exact rfl); (case kD => decide +kernel); (case c2 => exact rfl); (case c3 => exact rfl); (case c4 => exact rfl); k_whole; intro g L' h₁ tk₁ cells FG F1 N1 Y1 B1 X1 T1 l1; (try k_lt l1); k_cells Y1; (try simp only [List.cons_append, List.nil_append] at N1); (try dsimp only); (try k_lift B1)
  refine wpAny_noRaise ?_
  replace F1 := seeL [(Str.ofString "text", .str x t)] F1 (List.forall_mem_cons.mpr ⟨by rfl, List.forall_mem_nil _⟩)
  revert F1
  generalize bindL _ _ _ = m0
  intro F1
  dsimp only [kstB] at F1
  rename_i oc dc
  refine cut (g := g) (L := L') (fun m led => led = (L' + 1, oc) :: news ∧ m (Str.ofString "text") = some (.str x t) ∧ ∃ tq, m (Str.ofString "quote") = some (.str ⟨#[qOf x]⟩ tq)) ?_ ?_
  · k_steps
    all_goals (
      refine MidAt.intro (by assumption) (by assumption) ⟨rfl, by rfl, ?_⟩
      first
        | (rw [qOf_a (by assumption), ← q39]; exact ⟨_, by rfl⟩)
        | (rw [qOf_b (by assumption) (by assumption), ← q34]; exact ⟨_, by rfl⟩)
        | (rw [qOf_c (by assumption), ← q39]; exact ⟨_, by rfl⟩))
  · rintro m₁ led h₂ tk₂ F2 N2 ⟨rfl, hm1, tq, hm2⟩
    replace F2 := seeL [(Str.ofString "text", .str x t), (Str.ofString "quote", _)] F2 (List.forall_mem_cons.mpr ⟨hm1, List.forall_mem_cons.mpr ⟨hm2, List.forall_mem_nil _⟩⟩)
    clear hm1 hm2 F1 N1
    dsimp only [kstB] at F2
    (repeat' ((fail_if_success (with_reducible show wpAny _ _ (exec (Stmt.For _ _ _ _ _) _) _ _ _)); (first | (k_unfold; (try dsimp only)) | (k_end; wrow_close) | walk1 | (dsimp only; walk1) | (leave1; walk_say "STEP leave1"; try dsimp only) | fail "no step")))
    (with_reducible rename Fr _ _ _ _ => F)
    (with_reducible rename News _ _ _ _ => N)
    refine wpAny_For (nameX_L F (by rfl) ?_)
    refine for_text (by intros; rfl) rfl (QuoJ (L' + 1) news x t) F N ?_ ?_ ?_
    · exact ⟨oc, _, tq, _, _, rfl, dc, by rfl, by rfl, by rfl, by rfl⟩
    · rintro i c u m₁ led₁ h tk I oI hc ⟨oc, v₀, tq, y, ty, rfl, hcell, hm1, hm2, hm3, hy⟩ F1 N1 hI
      change Fr g L' h m₁ at F1
      change News g L' h _ at N1
      replace F1 := seeL [(Str.ofString "text", .str x t), (Str.ofString "quote", _), (Str.ofString "out", _)] F1 (List.forall_mem_cons.mpr ⟨hm1, List.forall_mem_cons.mpr ⟨hm2, List.forall_mem_cons.mpr ⟨hm3, List.forall_mem_nil _⟩⟩⟩)
      clear hm1 hm2 hm3 F N
      dsimp only [kstB] at F1
      simp only [List.cons_append] at N1
      obtain ⟨tl, etl⟩ : ∃ tl, tl = news ++ [(I, oI)] := ⟨_, rfl⟩
      rw [← etl] at N1
      have hoff : OwnOff tl [L' + 1] := by
        intro p hp b hb
        rw [List.mem_singleton.mp hb]
        rw [etl] at hp
        rcases List.mem_append.mp hp with hp | hp
        · exact fun (q : p.1 = L' + 1) => absurd (l1 p hp) (by rw [q]; exact Nat.not_lt.mpr (Nat.le_succ _))
        · have := hI _ (.head _); rw [List.mem_singleton.mp hp]; simpa using Ne.symm (by simpa using this)
      have hoffA : ∀ p ∈ tl, p.1 ≠ L' + 1 := fun p hp => hoff p hp _ (.head _)
      refine wpAny_assign_Name (storeX_C F1 N1 (by rfl) (UpdF.head hoffA) hcell fun h₃ oc₃ F3 N3 d3 => ?_)
      clear F1 N1 hcell dc
      refine cut (g := g) (L := L') (fun m led => ∃ D ys, led = (D, LCg.lst ys) :: (L' + 1, oc₃) :: tl ∧ IntsAre ys (plc c) ∧ L' + 1 ≠ D ∧ LCg.Off1 D tl ∧ m (Str.ofString "text") = some (.str x t) ∧ m (Str.ofString "quote") = some (.str ⟨#[qOf x]⟩ tq) ∧ m (Str.ofString "out") = some (.str y ty) ∧ m (Str.ofString "places") = some (.ref D)) ?_ ?_
      · k_with "mycomp" => (
          refine LCt.CompSrcT.range (by rfl) (by k_asm) (by k_asm) (by assumption) (by first | decide | exact small_one (by l_bnd) (by l_bnd) (by l_bnd) (by l_bnd)) (by first | exact rangeSize_nat _ _ | rfl) (by first | exact Nat.le_of_ble_eq_true rfl | size_fits) ?_
          intro g'
          refine' kci_range (fun l k => if (Txt.item (Str.ofString "\\\n\r\t\x00\x7f\x1b") k == ⟨#[c]⟩) = true then l ++ [k] else l) (fun k' t' I' oI' C' oC' D' m' ys' l' h' tk' E' hlo' hhi' hI' hC' hx' F' N' off' ne' => ?_) ?_ ?_
          (all_goals (try (simp only [LCg.Off3, and_true] at off')))
          (all_goals (try ((show KPfMark → _); intro hMark'))))
        k_steps
        · exact LCg.CompEnd.intro F' N' _ (fun p hp => hp) off' trivial (kci_el (by rw [if_pos (by assumption)]) rfl rfl)
        · exact LCg.CompEnd.intro F' N' _ (fun p hp => hp) off' trivial (kci_no (by rw [if_neg (by simp [*])]) rfl)
        · have ho := ‹L' + 1 ≠ _ ∧ LCg.Off1 _ tl›
          exact MidAt.intro (by assumption) (by assumption) ⟨_, ys, rfl, by assumption, ho.1, ho.2, by rfl, by rfl, by rfl, by rfl⟩
      · rintro m₂ led₂ h₄ tk₄ F4 N4 ⟨D, ys, rfl, hys, hD1, hD2, g1, g2, g3, g4⟩
        clear F3 N3
        replace F4 := seeL [(Str.ofString "text", .str x t), (Str.ofString "quote", _), (Str.ofString "out", _), (Str.ofString "places", _)] F4 (List.forall_mem_cons.mpr ⟨g1, List.forall_mem_cons.mpr ⟨g2, List.forall_mem_cons.mpr ⟨g3, List.forall_mem_cons.mpr ⟨g4, List.forall_mem_nil _⟩⟩⟩⟩)
        clear g1 g2 g3 g4
        dsimp only [kstB] at F4
        have hql : qOf x ∈ [34, 39] := by rcases qOf_or x with e | e <;> rw [e] <;> decide
        have hcs : c ∈ signs14 := hpre.2 c (by rw [← Array.getElem?_toList] at hc; exact List.mem_of_getElem? hc)
        have hc' : x.cps.toList[i]? = some c := by rw [← Array.getElem?_toList] at hc; exact hc
        have hyl : y.length ≤ 400 := by
          have h1 := quoted_len hql (l := x.cps.toList.take i) fun d hd => hpre.2 d (List.mem_of_mem_take hd)
          have h2 : (x.cps.toList.take i).length ≤ 100 := Nat.le_trans (List.length_take_le' _ _) (by rw [← len_list]; exact hpre.1)
          rw [len_list, hy]
          omega
        have fin : ∀ (pc : Str) ty' m' led' h' tk', pc.cps.toList = Builtin.Str.reprChar (qOf x) c → Fr g L' h' m' → News g L' h' led' → (∀ p ∈ (L' + 1, oc₃) :: tl, p ∈ led') → m' (Str.ofString "text") = some (.str x t) → m' (Str.ofString "quote") = some (.str ⟨#[qOf x]⟩ tq) → m' (Str.ofString "out") = some (.str (y ++ pc) ty') →
            ∃ h'' tk'' m'' led'' news'', ({ s with heap := h', toks := tk' } : Shared) = { s with heap := h'', toks := tk'' } ∧ Fr g L' h'' m'' ∧ News g L' h'' news'' ∧ (∀ p ∈ led'', p ∈ news'') ∧ (∀ p ∈ [(I, oI)], p ∈ news'') ∧ (∀ p ∈ led'', p.1 ∉ [I]) ∧ QuoJ (L' + 1) news x t (i + 1) m'' led'' := by
          intro pc ty' m' led' h' tk' hpc F' N' hsub k1 k2 k3
          refine ⟨h', tk', m', (L' + 1, oc₃) :: news, led', rfl, F', N', fun p hp => hsub p ?_, fun p hp => hsub p (.tail _ ?_), fun p hp => ?_, oc₃, _, tq, y ++ pc, ty', rfl, d3, k1, k2, k3, ?_⟩
          · rcases List.mem_cons.mp hp with rfl | hp
            · exact .head _
            · exact .tail _ (by rw [etl]; exact List.mem_append_left _ hp)
          · rw [etl]; exact List.mem_append_right _ hp
          · rcases List.mem_cons.mp hp with rfl | hp
            · exact hI (L' + 1, oc) (.head _)
            · exact hI p (.tail _ hp)
          · rw [cps_append, hy, hpc, quoted_step hc']
        rcases plc_cases c with ⟨hc1, e⟩ | ⟨j, hj, hcj, e⟩
        · rw [e] at hys
          cases hys
          k_steps
          · have hq : c = qOf x := by simpa using ‹(({ cps := #[c] } : Str) == { cps := #[qOf x] }) = true›
            (with_reducible rename Fr _ _ _ _ => F')
            have e2 : y ++ Str.ofString "\\" ++ ⟨#[c]⟩ = y ++ ⟨#[92, c]⟩ := str_ext (by simp only [cps_append]; rw [show (Str.ofString "\\").cps.toList = [92] from by decide +kernel]; simp)
            rw [e2] at F'
            exact fin ⟨#[92, c]⟩ _ _ _ _ _ (by rw [hq, piece_quote _ hql]) F' (by assumption) (by intro p hp; (repeat (first | exact hp | refine List.Mem.tail _ ?_))) (by rfl) (by rfl) (by rfl)
          · have hq : c ≠ qOf x := by simpa using ‹(({ cps := #[c] } : Str) == { cps := #[qOf x] }) = false›
            exact fin ⟨#[c]⟩ _ _ _ _ _ (by rw [piece_plain c hcs hc1 _ hql hq]) (by assumption) (by assumption) (by intro p hp; (repeat (first | exact hp | refine List.Mem.tail _ ?_))) (by rfl) (by rfl) (by rfl)
        · rw [e] at hys
          cases hys with
          | cons n t' r =>
          cases r
          have hpe := piece_esc _ hql
          have hte := esc_texts
          obtain rfl | rfl | rfl | rfl | rfl | rfl | rfl : j = 0 ∨ j = 1 ∨ j = 2 ∨ j = 3 ∨ j = 4 ∨ j = 5 ∨ j = 6 := by omega
          all_goals (
            subst hcj
            k_steps
            refine fin _ _ _ _ _ _ ?_ (by assumption) (by assumption) (by intro p hp; (repeat (first | exact hp | refine List.Mem.tail _ ?_))) (by rfl) (by rfl) (by rfl)
            (simp only [hte]; first | exact hpe.1.symm | exact hpe.2.1.symm | exact hpe.2.2.1.symm | exact hpe.2.2.2.1.symm | exact hpe.2.2.2.2.1.symm | exact hpe.2.2.2.2.2.1.symm | exact hpe.2.2.2.2.2.2.symm))
    · rintro m₁ led₁ h tk ⟨oc, v₀, tq', y, ty, rfl, hcell, hm1, hm2, hm3, hy⟩ F1 N1
      change Fr g L' h m₁ at F1
      change News g L' h _ at N1
      replace F1 := seeL [(Str.ofString "text", .str x t), (Str.ofString "quote", _), (Str.ofString "out", _)] F1 (List.forall_mem_cons.mpr ⟨hm1, List.forall_mem_cons.mpr ⟨hm2, List.forall_mem_cons.mpr ⟨hm3, List.forall_mem_nil _⟩⟩⟩)
      clear hm1 hm2 hm3 F N
      dsimp only [kstB] at F1
      have hql : qOf x ∈ [34, 39] := by rcases qOf_or x with e | e <;> rw [e] <;> decide
      rw [len_list, List.take_length] at hy
      have hyl : y.length ≤ 400 := by
        have h1 := quoted_len hql hpre.2
        rw [len_list, hy]
        have := hpre.1
        rw [len_list] at this
        omega
      dsimp only
      k_steps
      (with_reducible rename Fr h₀ _ _ _ => F)
      (with_reducible rename News h₀ _ _ _ => N)
      have e : (⟨#[qOf x]⟩ : Str) ++ y ++ ⟨#[qOf x]⟩ = reprText x := str_ext (by rw [reprText_list, cps_append, cps_append, hy])
      rw [e]
      exact hret _ _ _ F (sub N fun p hp => List.mem_cons_of_mem _ hp)
end Mine
namespace Mine
set_option maxRecDepth 100000
set_option maxHeartbeats 8000000
/-- what the law asks of the short telling -/
def due (t : Str) : Str := if (t.length : Int) < 80 then t else Txt.slice t none (some 80) ++ Str.ofString " [truncated]..."
local macro_rules | `(tactic| units_room) => `(tactic| ktr_units)
local macro_rules | `(tactic| walk_at "call builtin:repr") => `(tactic| (k_here; k_dflt (k_extra "myrepr")))

theorem safe1 (prog : Program) (w : World) (v : Value) (t : Str) (fz : List (Addr × Obj)) (d : Nat) (S : Shows prog w fz d v t) (hdl : d ≤ 500) (ht : t.length ≤ 1000000) :
    ClaimN prog w (hd.heap_39 w.params) 22 [v] [] (fun news => ∀ p ∈ fz, p ∈ news) (fun u => .str t u) := by
  k_with_none
  w_top off
  unfold ClaimN Ret
  intro p loose mean mg mb news dp un cn cs a ccd cl outer A₀ base h₀ L m s Q E B0 F0 X0 N0 T0 hk hpre hdp hun hret
  refine wpAny_call ?_
  refine' code_def ?k1 ?k2 ?k3 ?k4 ?k5 ?kA ?kF ?kK ?k6 ?k7 ?k8 ?k9 ?kB ?_ ?c2 ?c3 ?c4 ?c5; (case kA => exact rfl); (case kF => exact rfl); (case kK => assumption); (case k1 => k_asm); (case k2 => k_asm); (case k3 => k_asm); (case k4 => k_asm); (case k5 => k_asm); (case k6 => k_is); (case k7 => k_is); (case k8 => ktr_room); (case k9 => first | exact BindsTo.of_eq rfl | exact binds_K (by k_in) rfl (by k_is) rfl rfl rfl); (case c5 => decide); (case kB => exact locs rfl); (case c2 => exact rfl); (case c3 => exact rfl); (case c4 => exact rfl); k_whole; intro g' L' h' FG' F' N' B' X' T'; (try dsimp only); (try k_lift B'); (try k_fold)
  k_with "myrepr" => (
    (with_reducible rename Fr _ _ _ _ => F8)
    (with_reducible rename News _ _ _ _ => N8)
    refine repr_shows S hpre rfl (by first | ktr_units | omega) F8 N8 ?_
    intro h8 u8 tk8 F9 N9)
  k_steps
  (with_reducible rename Fr h₀ _ _ _ => F)
  (with_reducible rename News h₀ _ _ _ => N)
  exact hret _ _ _ F N
theorem safe2 (prog : Program) (w : World) (v : Value) (t : Str) (fz : List (Addr × Obj)) (d : Nat) (S : Shows prog w fz d v t) (hdl : d ≤ 500) (ht : t.length ≤ 1000000) :
    ClaimN prog w (hd.heap_39 w.params) 22 [v, .bool false] [] (fun news => ∀ p ∈ fz, p ∈ news) (fun u => .str t u) := by
  k_with_none
  w_top off
  unfold ClaimN Ret
  intro p loose mean mg mb news dp un cn cs a ccd cl outer A₀ base h₀ L m s Q E B0 F0 X0 N0 T0 hk hpre hdp hun hret
  refine wpAny_call ?_
  refine' code_def ?k1 ?k2 ?k3 ?k4 ?k5 ?kA ?kF ?kK ?k6 ?k7 ?k8 ?k9 ?kB ?_ ?c2 ?c3 ?c4 ?c5; (case kA => exact rfl); (case kF => exact rfl); (case kK => assumption); (case k1 => k_asm); (case k2 => k_asm); (case k3 => k_asm); (case k4 => k_asm); (case k5 => k_asm); (case k6 => k_is); (case k7 => k_is); (case k8 => ktr_room); (case k9 => first | exact BindsTo.of_eq rfl | exact binds_K (by k_in) rfl (by k_is) rfl rfl rfl); (case c5 => decide); (case kB => exact locs rfl); (case c2 => exact rfl); (case c3 => exact rfl); (case c4 => exact rfl); k_whole; intro g' L' h' FG' F' N' B' X' T'; (try dsimp only); (try k_lift B'); (try k_fold)
  k_with "myrepr" => (
    (with_reducible rename Fr _ _ _ _ => F8)
    (with_reducible rename News _ _ _ _ => N8)
    refine repr_shows S hpre rfl (by first | ktr_units | omega) F8 N8 ?_
    intro h8 u8 tk8 F9 N9)
  k_steps
  (with_reducible rename Fr h₀ _ _ _ => F)
  (with_reducible rename News h₀ _ _ _ => N)
  exact hret _ _ _ F N
theorem safe3 (prog : Program) (w : World) (v : Value) (t : Str) (fz : List (Addr × Obj)) (d : Nat) (S : Shows prog w fz d v t) (hdl : d ≤ 500) (ht : t.length ≤ 1000000) :
    ClaimN prog w (hd.heap_39 w.params) 22 [v] [(Str.ofString "short", .bool true)] (fun news => ∀ p ∈ fz, p ∈ news) (fun u => .str (due t) u) := by
  k_with_none
  w_top off
  unfold ClaimN Ret
  intro p loose mean mg mb news dp un cn cs a ccd cl outer A₀ base h₀ L m s Q E B0 F0 X0 N0 T0 hk hpre hdp hun hret
  refine wpAny_call ?_
  refine' code_def ?k1 ?k2 ?k3 ?k4 ?k5 ?kA ?kF ?kK ?k6 ?k7 ?k8 ?k9 ?kB ?_ ?c2 ?c3 ?c4 ?c5; (case kA => exact rfl); (case kF => exact rfl); (case kK => assumption); (case k1 => k_asm); (case k2 => k_asm); (case k3 => k_asm); (case k4 => k_asm); (case k5 => k_asm); (case k6 => k_is); (case k7 => k_is); (case k8 => ktr_room); (case k9 => first | exact BindsTo.of_eq rfl | exact binds_K (by k_in) rfl (by k_is) rfl rfl rfl); (case c5 => decide); (case kB => exact locs rfl); (case c2 => exact rfl); (case c3 => exact rfl); (case c4 => exact rfl); k_whole; intro g' L' h' FG' F' N' B' X' T'; (try dsimp only); (try k_lift B'); (try k_fold)
  k_with "myrepr" => (
    (with_reducible rename Fr _ _ _ _ => F8)
    (with_reducible rename News _ _ _ _ => N8)
    refine repr_shows S hpre rfl (by first | ktr_units | omega) F8 N8 ?_
    intro h8 u8 tk8 F9 N9)
  k_steps
  · (with_reducible rename Fr h₀ _ _ _ => F)
    (with_reducible rename News h₀ _ _ _ => N)
    have e : due t = t := if_pos (by assumption)
    rw [e] at hret
    exact hret _ _ _ F N
  · (with_reducible rename Fr h₀ _ _ _ => F)
    (with_reducible rename News h₀ _ _ _ => N)
    have e : due t = Txt.slice t none (some 80) ++ Str.ofString " [truncated]..." := if_neg (by assumption)
    rw [e] at hret
    exact hret _ _ _ F N
end Mine
namespace Mine
def lawFn : Stmt := PySem.Challenge.pw_dw0062_01.main.body.getD 6 (.Pass default)
def fnBody : Stmt → List Stmt
  | .FunctionDef _ _ b _ _ _ _ _ _ _ => b
  | _ => []
def fnScope : Stmt → Scope
  | .FunctionDef _ _ _ _ _ _ sc _ _ _ => sc
  | _ => default
def forBody : Stmt → List Stmt
  | .For _ _ b _ _ => b
  | _ => []
abbrev lawScope : Scope := fnScope lawFn
def loop1 : List Stmt := forBody ((fnBody lawFn).getD 1 (.Pass default))
def loop2 : List Stmt := forBody ((fnBody lawFn).getD 2 (.Pass default))
def bigIf : Stmt := loop1.getD 1 (.Pass default)
abbrev lawCells (L : Addr) : List (Str × Addr) := cellsFrom (L + 1) lawScope.names []
abbrev lawEnv (L fa : Addr) (cd : Value) : Env := envX (Str.ofString "law") lawScope L fa cd (lawCells L)
abbrev lawA (dp un : Nat) (L fa : Addr) (cd : Value) (outer : List Env) : Around := ktrTop dp un (some []) (Str.ofString "law") lawScope L fa cd (lawCells L) outer

def BigRel (prog : Program) (w : World) (L a1 a2 : Addr) (o1 o2 : Obj) (tl fz : List (Addr × Obj)) (d : Nat) (since r : Int) (bnd : Nat) (m : Str → Option Value) (led : List (Addr × Obj)) : Prop :=
  ∃ v t tt nw ok os vk vs tw ts, led = (L + 1, ok) :: (L + 2, os) :: (a1, o1) :: (a2, o2) :: (nw ++ tl) ∧ ok.data = .cell vk ∧ os.data = .cell vs ∧ OwnOff nw [L + 1, L + 2, a1, a2] ∧ OwnOff nw (tl.map (·.1)) ∧
    m (Str.ofString "things") = some (.ref a1) ∧ m (Str.ofString "texts") = some (.ref a2) ∧ m (Str.ofString "since") = some (.int since ts) ∧ m (Str.ofString "what") = some (.int r tw) ∧
    m (Str.ofString "thing") = some v ∧ m (Str.ofString "text") = some (.str t tt) ∧ Shows prog w (nw ++ fz) (d + 1) v t ∧ t.length ≤ bnd

/-- one way through the big if: what the turn's thing and its writing are -/
def BigClaim (prog : Program) (w : World) (r : Int) (k : Int) (bnd : Nat → Nat) : Prop :=
  ∀ (p : Program) (loose : List Str) (mean : ExcName → Option Value) (mg mb : Str → Option Value) (dp un : Nat) (fa : Addr) (cd : Value) (outer : List Env) (A₀ : Around) (base g : Heap) (L : Addr) (m : Str → Option Value) (s : Shared)
    (a1 a2 : Addr) (vs : List Value) (us : List Value) (ts : List Str) (n1 n2 : Nat) (tl fz : List (Addr × Obj)) (d : Nat) (since : Nat) (ok os : Obj) (tk : Tok) (vk : Option Value) (tw tsi : Tok),
    Below A₀ base outer g → (hd.heap_39 w.params).In g → Top p loose mean mg mb g → dp + 10 < recursionLimit → un + 2000 < cLine →
    Fr g L s.heap (fun z => if z = Str.ofString "what" then some (.int r tw) else if z = Str.ofString "things" then some (.ref a1) else if z = Str.ofString "texts" then some (.ref a2) else if z = Str.ofString "since" then some (.int (since : Int) tsi) else m z) →
    News g L s.heap ((L + 1, ok) :: (L + 2, os) :: (a1, listOf vs.toArray n1) :: (a2, listOf us.toArray n2) :: tl) →
    ok.data = .cell (some (.int k tk)) → os.data = .cell vk → OwnOff tl [L + 1, L + 2, a1, a2] → (@LT.lt Nat _ (L + 2) a1 ∧ @LT.lt Nat _ a1 a2) →
    StrsAre us ts → ShowsAll prog w fz d vs ts → (∀ p ∈ fz, p ∈ tl) → since ≤ vs.length → vs.length ≤ 20 → d ≤ 20 → piled (ts.drop since) ≤ 10000 →
    wpAny (model prog w) (lawA dp un L fa cd outer) (exec bigIf (lawEnv L fa cd))
      (MidAt g L s (BigRel prog w L a1 a2 (listOf vs.toArray n1) (listOf us.toArray n2) tl fz d since r (bnd (piled (ts.drop since))))) (fun _ _ => False) s
end Mine
namespace Mine
theorem allLt_mem {a : Addr} {l : List (Addr × Obj)} (h : AllLt a l) : ∀ p ∈ l, p.1 < a := by
  induction l with
  | nil => intro p hp; exact nomatch hp
  | cons q r ih =>
    intro p hp
    rcases List.mem_cons.mp hp with rfl | hp
    · exact h.1
    · exact ih h.2 p hp
/-- the end of a way that makes an object -/
theorem big_end {prog : Program} {w : World} {g h' : Heap} {L a1 a2 a : Addr} {o1 o2 o ok os : Obj} {tl fz news' : List (Addr × Obj)} {d bnd : Nat} {since r : Int} {m' : Str → Option Value} {s : Shared} {tk' : Nat} {vk vs : Option Value} {t : Str} {tw tsi tt : Tok}
    (F : Fr g L h' m') (N : News g L h' news') (hk : ok.data = .cell vk) (hs : os.data = .cell vs)
    (g1 : m' (Str.ofString "thing") = some (.ref a)) (g2 : m' (Str.ofString "text") = some (.str t tt)) (g3 : m' (Str.ofString "things") = some (.ref a1)) (g4 : m' (Str.ofString "texts") = some (.ref a2))
    (g5 : m' (Str.ofString "since") = some (.int since tsi)) (g6 : m' (Str.ofString "what") = some (.int r tw))
    (h0 : (a, o) ∈ news') (hsub : ∀ p ∈ (L + 1, ok) :: (L + 2, os) :: (a1, o1) :: (a2, o2) :: tl, p ∈ news')
    (hlt : L + 1 < a ∧ L + 2 < a ∧ a1 < a ∧ a2 < a) (hA : AllLt a tl) (S : Shows prog w ((a, o) :: fz) (d + 1) (.ref a) t) (hb : t.length ≤ bnd) :
    MidAt g L s (BigRel prog w L a1 a2 o1 o2 tl fz d since r bnd) .next { s with heap := h', toks := tk' } := by
  refine MidAt.intro F (led := (L + 1, ok) :: (L + 2, os) :: (a1, o1) :: (a2, o2) :: ([(a, o)] ++ tl)) (sub N ?_) ⟨_, _, _, [(a, o)], ok, os, _, _, _, _, rfl, hk, hs, ?_, ?_, g3, g4, g5, g6, g1, g2, S, hb⟩
  · intro p hp
    rcases List.mem_cons.mp hp with rfl | hp
    · exact hsub _ (.head _)
    rcases List.mem_cons.mp hp with rfl | hp
    · exact hsub _ (.tail _ (.head _))
    rcases List.mem_cons.mp hp with rfl | hp
    · exact hsub _ (.tail _ (.tail _ (.head _)))
    rcases List.mem_cons.mp hp with rfl | hp
    · exact hsub _ (.tail _ (.tail _ (.tail _ (.head _))))
    rcases List.mem_cons.mp hp with rfl | hp
    · exact h0
    · exact hsub _ (.tail _ (.tail _ (.tail _ (.tail _ hp))))
  · intro p hp b hb
    rw [List.mem_singleton.mp hp]
    simp only [List.mem_cons, List.not_mem_nil, or_false] at hb
    rcases hb with rfl | rfl | rfl | rfl
    · exact Nat.ne_of_gt hlt.1
    · exact Nat.ne_of_gt hlt.2.1
    · exact Nat.ne_of_gt hlt.2.2.1
    · exact Nat.ne_of_gt hlt.2.2.2
  · intro p hp b hb
    rw [List.mem_singleton.mp hp]
    obtain ⟨q, hq, rfl⟩ := List.mem_map.mp hb
    exact Nat.ne_of_gt (allLt_mem hA q hq)
end Mine
namespace Mine
set_option maxRecDepth 100000
set_option maxHeartbeats 8000000
local macro_rules | `(tactic| walk_at "exec If") => `(tactic| refine wpAny_If ?_)
local macro_rules | `(tactic| walk_at "ite") => `(tactic| (k_closed; first | with_reducible refine ite_pos (by k_dflt decide) ?_ | with_reducible refine ite_neg (by k_dflt decide) ?_))
local macro_rules | `(tactic| walk_at "execs cons") => `(tactic| first | (k_here; k_gentoks) | ((with_reducible refine wpAny_execs_cons ?_); try dsimp only))
local macro_rules | `(tactic| units_room) => `(tactic| ktr_units)
theorem big6 (prog : Program) (w : World) (k : Int) : BigClaim prog w 6 k (fun _ => 404) := by
  k_with_none
  w_top off
  unfold BigClaim
  intro p loose mean mg mb dp un fa cd outer A₀ base g L m s a1 a2 vs us ts n1 n2 tl fz d since ok os tk vk tw tsi B X T hdp hun F N hk hs hoff hlt hus hsh hfz hsi hvl hdl hpl
  simp only [bigIf, loop1, forBody, lawA, lawEnv, lawCells, lawScope, fnBody, fnScope, lawFn, PySem.Challenge.pw_dw0062_01, List.getD_cons_succ, List.getD_cons_zero]
  have hk20 : 0 ≤ k.fmod 20 ∧ k.fmod 20 < 20 := ⟨Int.fmod_nonneg_of_pos _ (by omega), Int.fmod_lt_of_pos _ (by omega)⟩
  have hln := as_len (n := 70 + k.fmod 20) (by omega)
  rw [← as_text] at hln
  k_steps
  refine MidAt.intro (by assumption) (by assumption) ?_
  refine ⟨_, _, _, [], ok, os, _, _, _, _, rfl, hk, hs, (fun _ h => nomatch h), (fun _ h => nomatch h), by rfl, by rfl, by rfl, by rfl, by rfl, by rfl, ?_, ?_⟩
  · rw [as_text] at hln ⊢
    exact (shows_str _ (by rw [sizeLine_eq]; omega)).mono (fun _ h => nomatch h) (Nat.zero_le _)
  · omega
theorem big7 (prog : Program) (w : World) (k : Int) : BigClaim prog w 7 k (fun _ => 404) := by
  k_with_none
  w_top off
  unfold BigClaim
  intro p loose mean mg mb dp un fa cd outer A₀ base g L m s a1 a2 vs us ts n1 n2 tl fz d since ok os tk vk tw tsi B X T hdp hun F N hk hs hoff hlt hus hsh hfz hsi hvl hdl hpl
  simp only [bigIf, loop1, forBody, lawA, lawEnv, lawCells, lawScope, fnBody, fnScope, lawFn, PySem.Challenge.pw_dw0062_01, List.getD_cons_succ, List.getD_cons_zero]
  have hk20 : 0 ≤ k.fmod 20 ∧ k.fmod 20 < 20 := ⟨Int.fmod_nonneg_of_pos _ (by omega), Int.fmod_lt_of_pos _ (by omega)⟩
  have hln := as_len (n := 70 + k.fmod 20) (by omega)
  rw [← as_text] at hln
  k_steps
  refine MidAt.intro (by assumption) (by assumption) ?_
  refine ⟨_, _, _, [], ok, os, _, _, _, _, rfl, hk, hs, (fun _ h => nomatch h), (fun _ h => nomatch h), by rfl, by rfl, by rfl, by rfl, by rfl, by rfl, ?_, ?_⟩
  · rw [as_text] at hln ⊢
    exact (shows_str _ (by rw [sizeLine_eq]; omega)).mono (fun _ h => nomatch h) (Nat.zero_le _)
  · omega
end Mine
namespace Mine
set_option maxRecDepth 100000
set_option maxHeartbeats 8000000
local macro_rules | `(tactic| walk_at "exec If") => `(tactic| refine wpAny_If ?_)
local macro_rules | `(tactic| walk_at "ite") => `(tactic| (k_closed; first | with_reducible refine ite_pos (by k_dflt decide) ?_ | with_reducible refine ite_neg (by k_dflt decide) ?_))
local macro_rules | `(tactic| walk_at "execs cons") => `(tactic| first | (k_here; k_gentoks) | ((with_reducible refine wpAny_execs_cons ?_); try dsimp only))
local macro_rules | `(tactic| units_room) => `(tactic| ktr_units)
local macro_rules | `(tactic| walk_at "call ref") => `(tactic| (k_here; k_dflt (k_extra "mycall")))
theorem big0 (prog : Program) (w : World) (k : Int) : BigClaim prog w 0 k (fun _ => 404) := by
  k_with_none
  w_top off
  unfold BigClaim
  intro p loose mean mg mb dp un fa cd outer A₀ base g L m s a1 a2 vs us ts n1 n2 tl fz d since ok os tk vk tw tsi B X T hdp hun F N hk hs hoff hlt hus hsh hfz hsi hvl hdl hpl
  simp only [bigIf, loop1, forBody, lawA, lawEnv, lawCells, lawScope, fnBody, fnScope, lawFn, PySem.Challenge.pw_dw0062_01, List.getD_cons_succ, List.getD_cons_zero]
  k_with "mycall" => (
    (with_reducible show wpAny _ _ (call (Value.ref 29) _ _) _ _ _)
    refine' fig prog w _ _ p loose mean mg mb _ dp un _ _ _ _ _ outer A₀ base g L _ _ _ _ B (by assumption) X (by assumption) T rfl ?_ (by omega) (by omega) ?_)
  have z1 := mod_small k
  have z2 : (-(-k).fmod (10 ^ Int.toNat 90)).natAbs < 10 ^ 90 := by rw [Int.natAbs_neg]; exact mod_small (-k)
  have y1 := fig_room z1
  have y2 := fig_room z2
  have x1 := int_log z1
  have x2 := int_log z2
  clear z1 z2
  k_steps
  · refine MidAt.intro (by assumption) (by assumption) ?_
    refine ⟨_, _, _, [], ok, os, _, _, _, _, rfl, hk, hs, (fun _ h => nomatch h), (fun _ h => nomatch h), by rfl, by rfl, by rfl, by rfl, by rfl, by rfl, ?_, ?_⟩
    · exact (shows_int _ x1).mono (fun _ h => nomatch h) (Nat.zero_le _)
    · exact Nat.le_trans (int_len y1) (by omega)
  · refine MidAt.intro (by assumption) (by assumption) ?_
    refine ⟨_, _, _, [], ok, os, _, _, _, _, rfl, hk, hs, (fun _ h => nomatch h), (fun _ h => nomatch h), by rfl, by rfl, by rfl, by rfl, by rfl, by rfl, ?_, ?_⟩
    · exact (shows_int _ x2).mono (fun _ h => nomatch h) (Nat.zero_le _)
    · exact Nat.le_trans (int_len y2) (by omega)
end Mine
namespace Mine
set_option maxRecDepth 100000
set_option maxHeartbeats 8000000
local macro_rules | `(tactic| walk_at "exec If") => `(tactic| refine wpAny_If ?_)
local macro_rules | `(tactic| walk_at "ite") => `(tactic| (k_closed; first | with_reducible refine ite_pos (by k_dflt decide) ?_ | with_reducible refine ite_neg (by k_dflt decide) ?_))
local macro_rules | `(tactic| walk_at "execs cons") => `(tactic| first | (k_here; k_gentoks) | ((with_reducible refine wpAny_execs_cons ?_); try dsimp only))
local macro_rules | `(tactic| units_room) => `(tactic| ktr_units)
local macro_rules | `(tactic| walk_at "subscriptTail") => `(tactic| (k_here; (with_reducible show wpAny _ _ (subscriptTail _ _ (Value.ref _) (Value.int _ _)) _ _ _); k_dflt (k_extra "myitem")))
theorem big2 (prog : Program) (w : World) (k : Int) : BigClaim prog w 2 k (fun _ => 404) := by
  k_with_none
  w_top off
  unfold BigClaim
  intro p loose mean mg mb dp un fa cd outer A₀ base g L m s a1 a2 vs us ts n1 n2 tl fz d since ok os tk vk tw tsi B X T hdp hun F N hk hs hoff hlt hus hsh hfz hsi hvl hdl hpl
  simp only [bigIf, loop1, forBody, lawA, lawEnv, lawCells, lawScope, fnBody, fnScope, lawFn, PySem.Challenge.pw_dw0062_01, List.getD_cons_succ, List.getD_cons_zero]
  have hk20 : 0 ≤ k.fmod 8 ∧ k.fmod 8 < 8 := ⟨Int.fmod_nonneg_of_pos _ (by omega), Int.fmod_lt_of_pos _ (by omega)⟩
  obtain ⟨j, hj8, hj⟩ : ∃ j : Nat, j < 8 ∧ k.fmod 8 = (j : Int) := ⟨(k.fmod 8).toNat, by omega, by omega⟩
  clear hk20
  k_with "myitem" => (refine item_at _ (by is_list) hj (by omega) (by rfl) ?_)
  obtain rfl | rfl | rfl | rfl | rfl | rfl | rfl | rfl : j = 0 ∨ j = 1 ∨ j = 2 ∨ j = 3 ∨ j = 4 ∨ j = 5 ∨ j = 6 ∨ j = 7 := by omega
  · k_steps
    refine MidAt.intro (led := (L + 1, ok) :: (L + 2, os) :: (a1, listOf vs.toArray n1) :: (a2, listOf us.toArray n2) :: ([] ++ tl)) (by assumption) (sub (by assumption) (by intro p hp; (repeat (first | exact hp | refine List.Mem.tail _ ?_)))) ?_
    refine ⟨_, _, _, [], ok, os, _, _, _, _, rfl, hk, hs, (fun _ h => nomatch h), (fun _ h => nomatch h), by rfl, by rfl, by rfl, by rfl, by rfl, by rfl, ?_, ?_⟩
    · exact (shows_none).mono (fun _ h => nomatch h) (Nat.zero_le _)
    · decide
  · k_steps
    refine MidAt.intro (led := (L + 1, ok) :: (L + 2, os) :: (a1, listOf vs.toArray n1) :: (a2, listOf us.toArray n2) :: ([] ++ tl)) (by assumption) (sub (by assumption) (by intro p hp; (repeat (first | exact hp | refine List.Mem.tail _ ?_)))) ?_
    refine ⟨_, _, _, [], ok, os, _, _, _, _, rfl, hk, hs, (fun _ h => nomatch h), (fun _ h => nomatch h), by rfl, by rfl, by rfl, by rfl, by rfl, by rfl, ?_, ?_⟩
    · exact (shows_bool true).mono (fun _ h => nomatch h) (Nat.zero_le _)
    · decide
  · k_steps
    refine MidAt.intro (led := (L + 1, ok) :: (L + 2, os) :: (a1, listOf vs.toArray n1) :: (a2, listOf us.toArray n2) :: ([] ++ tl)) (by assumption) (sub (by assumption) (by intro p hp; (repeat (first | exact hp | refine List.Mem.tail _ ?_)))) ?_
    refine ⟨_, _, _, [], ok, os, _, _, _, _, rfl, hk, hs, (fun _ h => nomatch h), (fun _ h => nomatch h), by rfl, by rfl, by rfl, by rfl, by rfl, by rfl, ?_, ?_⟩
    · exact (shows_bool false).mono (fun _ h => nomatch h) (Nat.zero_le _)
    · decide
  · k_steps
    refine big_end (by assumption) (by assumption) hk hs (by rfl) (by rfl) (by rfl) (by rfl) (by rfl) (by rfl) (by k_mem) (by intro p hp; (repeat (first | exact hp | refine List.Mem.tail _ ?_))) (by grind) (by grind) ?_ (by decide)
    exact shows_list (vs := []) (ts := []) (n := 0) .nil (fun p hp => Nat.ne_of_lt (allLt_mem (by grind) p (hfz p hp))) (by decide)
  · k_steps
    refine big_end (by assumption) (by assumption) hk hs (by rfl) (by rfl) (by rfl) (by rfl) (by rfl) (by rfl) (by k_mem) (by intro p hp; (repeat (first | exact hp | refine List.Mem.tail _ ?_))) (by grind) (by grind) ?_ (by decide)
    exact shows_tuple (ts := []) (n := 0) rfl rfl .nil (fun p hp => Nat.ne_of_lt (allLt_mem (by grind) p (hfz p hp))) (by decide)
  · k_steps
    refine big_end (by assumption) (by assumption) hk hs (by rfl) (by rfl) (by rfl) (by rfl) (by rfl) (by rfl) (by k_mem) (by intro p hp; (repeat (first | exact hp | refine List.Mem.tail _ ?_))) (by grind) (by grind) ?_ (by decide)
    have hi := ‹Obj.IsDictOf (intKind prog w) _ []›
    obtain ⟨es, ep, hx, he, _, hps, _⟩ := hi
    have hes : es.toList = [] := by
      cases hl : es.toList with
      | nil => rfl
      | cons e r => rw [hl] at hps; cases hps
    exact shows_dict (ts := []) hx.1 he (by rw [hes]; exact .nil) (fun p hp => Nat.ne_of_lt (allLt_mem (by grind) p (hfz p hp))) (by assumption) (by decide)
  · k_steps
    refine MidAt.intro (led := (L + 1, ok) :: (L + 2, os) :: (a1, listOf vs.toArray n1) :: (a2, listOf us.toArray n2) :: ([] ++ tl)) (by assumption) (sub (by assumption) (by intro p hp; (repeat (first | exact hp | refine List.Mem.tail _ ?_)))) ?_
    refine ⟨_, _, _, [], ok, os, _, _, _, _, rfl, hk, hs, (fun _ h => nomatch h), (fun _ h => nomatch h), by rfl, by rfl, by rfl, by rfl, by rfl, by rfl, ?_, ?_⟩
    · have e : reprText (Str.ofString "") = Str.ofString "''" := by decide +kernel
      rw [← e]
      exact (shows_str _ (by decide)).mono (fun _ h => nomatch h) (Nat.zero_le _)
    · decide
  · k_steps
    refine MidAt.intro (led := (L + 1, ok) :: (L + 2, os) :: (a1, listOf vs.toArray n1) :: (a2, listOf us.toArray n2) :: ([] ++ tl)) (by assumption) (sub (by assumption) (by intro p hp; (repeat (first | exact hp | refine List.Mem.tail _ ?_)))) ?_
    refine ⟨_, _, _, [], ok, os, _, _, _, _, rfl, hk, hs, (fun _ h => nomatch h), (fun _ h => nomatch h), by rfl, by rfl, by rfl, by rfl, by rfl, by rfl, ?_, ?_⟩
    · exact (shows_bytes _).mono (fun _ h => nomatch h) (Nat.zero_le _)
    · decide
end Mine
namespace Mine
set_option maxRecDepth 100000
set_option maxHeartbeats 8000000
local macro_rules | `(tactic| walk_at "exec If") => `(tactic| refine wpAny_If ?_)
local macro_rules | `(tactic| walk_at "ite") => `(tactic| (k_closed; first | with_reducible refine ite_pos (by k_dflt decide) ?_ | with_reducible refine ite_neg (by k_dflt decide) ?_))
local macro_rules | `(tactic| walk_at "execs cons") => `(tactic| first | (k_here; k_gentoks) | ((with_reducible refine wpAny_execs_cons ?_); try dsimp only))
local macro_rules | `(tactic| units_room) => `(tactic| ktr_units)
local macro_rules | `(tactic| walk_at "call ref") => `(tactic| (k_here; k_dflt (k_extra "mycall")))
local macro_rules | `(tactic| walk_at "CompSrc") => `(tactic| (k_here; k_dflt (k_extra "mycomp")))
theorem big1 (prog : Program) (w : World) (k : Int) : BigClaim prog w 1 k (fun _ => 404) := by
  k_with_none
  w_top off
  unfold BigClaim
  intro p loose mean mg mb dp un fa cd outer A₀ base g L m s a1 a2 vs us ts n1 n2 tl fz d since ok os tk vk tw tsi B X T hdp hun F N hk hs hoff hlt hus hsh hfz hsi hvl hdl hpl
  simp only [bigIf, loop1, forBody, lawA, lawEnv, lawCells, lawScope, fnBody, fnScope, lawFn, PySem.Challenge.pw_dw0062_01, List.getD_cons_succ, List.getD_cons_zero]
  have hk91 : 0 ≤ k.fmod 91 ∧ k.fmod 91 < 91 := ⟨Int.fmod_nonneg_of_pos _ (by omega), Int.fmod_lt_of_pos _ (by omega)⟩
  k_with "mycomp" => (
    refine LCg.CompSrc.range (by rfl) (by k_asm) (by k_asm) (by assumption) (by first | decide | exact small_one (by l_bnd) (by l_bnd) (by l_bnd) (by l_bnd)) (by first | exact rangeSize_nat _ _ | rfl) (by first | exact Nat.le_of_ble_eq_true rfl | (rw [PySem.sizeLine_eq]; omega) | size_fits) ?_
    intro g'
    refine' kct_range (fun k' => Txt.item SIGNS ((k.fdiv 91 + k' * k.fdiv 7).fmod 14)) (fun k' t' I' oI' C' oC' D' m' ys' h' tk' E' hlo' hhi' hC' hx' F' N' off' ne' => ?_) ?_
    (all_goals (try (simp only [LCg.Off3, and_true] at off')))
    (all_goals (try ((show KPfMark → _); intro hMark'))))
  have hsg : ∀ a ∈ rangeKs 0 (k.fmod 91 - 0).toNat, (Txt.item SIGNS ((k.fdiv 91 + a * k.fdiv 7).fmod 14)).cps.toList ⊆ signs14 := by
    intro a _
    have h0 := Int.fmod_nonneg_of_pos (k.fdiv 91 + a * k.fdiv 7) (b := 14) (by omega)
    have h1 := Int.fmod_lt_of_pos (k.fdiv 91 + a * k.fdiv 7) (b := 14) (by omega)
    obtain ⟨i, hi⟩ : ∃ i : Nat, (k.fdiv 91 + a * k.fdiv 7).fmod 14 = (i : Int) := ⟨_, (Int.toNat_of_nonneg h0).symm⟩
    rw [hi]
    exact signs_item i (by omega)
  have hsx := join_signs (fun a => Txt.item SIGNS ((k.fdiv 91 + a * k.fdiv 7).fmod 14)) _ hsg
  have hsl : (rangeKs 0 (k.fmod 91 - 0).toNat).length ≤ 90 := by rw [rangeKs_length]; omega
  have hrl := repr_len hsx
  k_with "mycall" => (
    (with_reducible show wpAny _ _ (call (Value.ref 34) _ _) _ _ _)
    refine' quo prog w _ _ p loose mean mg mb _ dp un _ _ _ _ _ outer A₀ base g L _ _ _ _ B (by assumption) X (by assumption) T rfl ⟨by omega, hsx⟩ (by omega) (by omega) ?_)
  k_steps
  · exact LCg.CompEnd.intro F' N' _ (fun p hp => hp) off' trivial (kct_el rfl rfl rfl)
  · refine MidAt.intro (led := (L + 1, ok) :: (L + 2, _) :: (a1, listOf vs.toArray n1) :: (a2, listOf us.toArray n2) :: ([] ++ tl)) (by assumption) (sub (by assumption) (by intro p hp; (repeat (first | exact hp | refine List.Mem.tail _ ?_)))) ?_
    refine ⟨_, _, _, [], ok, _, _, _, _, _, rfl, hk, by assumption, (fun _ h => nomatch h), (fun _ h => nomatch h), by rfl, by rfl, by rfl, by rfl, by rfl, by rfl, ?_, ?_⟩
    · exact (shows_str _ (by rw [sizeLine_eq]; omega)).mono (fun _ h => nomatch h) (Nat.zero_le _)
    · omega
end Mine
namespace Mine
set_option maxRecDepth 100000
set_option maxHeartbeats 8000000
local macro_rules | `(tactic| walk_at "exec If") => `(tactic| refine wpAny_If ?_)
local macro_rules | `(tactic| walk_at "ite") => `(tactic| (k_closed; first | with_reducible refine ite_pos (by k_dflt decide) ?_ | with_reducible refine ite_neg (by k_dflt decide) ?_))
local macro_rules | `(tactic| walk_at "execs cons") => `(tactic| first | (k_here; k_gentoks) | ((with_reducible refine wpAny_execs_cons ?_); try dsimp only))
local macro_rules | `(tactic| units_room) => `(tactic| ktr_units)
local macro_rules | `(tactic| walk_at "call ref") => `(tactic| (k_here; k_dflt (k_extra "mycall")))
local macro_rules | `(tactic| walk_at "subscriptTail Name Slice ref ref") => `(tactic| (k_here; k_dflt (k_extra "myslice")))
local macro_rules | `(tactic| walk_at "call builtin:str.join") => `(tactic| (k_here; k_dflt (k_extra "myjoin")))
theorem big3 (prog : Program) (w : World) (k : Int) : BigClaim prog w 3 k (fun n => n + 200) := by
  k_with_none
  w_top off
  unfold BigClaim
  intro p loose mean mg mb dp un fa cd outer A₀ base g L m s a1 a2 vs us ts n1 n2 tl fz d since ok os tk vk tw tsi B X T hdp hun F N hk hs hoff hlt hus hsh hfz hsi hvl hdl hpl
  simp only [bigIf, loop1, forBody, lawA, lawEnv, lawCells, lawScope, fnBody, fnScope, lawFn, PySem.Challenge.pw_dw0062_01, List.getD_cons_succ, List.getD_cons_zero]
  have hul : us.length = ts.length := hus.len_eq
  have htl : ts.length = vs.length := hsh.length
  have hps := piled_sum (ts.drop since)
  have hjl := join_len (ts.drop since)
  have hll := listText_len (ts.drop since)
  k_with "myslice" => (
    refine kmk_slice_lit (by k_asm) (by k_asm) (by kmk_list) (by kmk_part) (by kmk_part) (pick_from _ since) ?_ (by with_unfolding_all rfl) (by kmk_pure) (by rw [List.size_toArray, sizeLine_eq]; omega)
    intro D' h' F' N' l1
    (try k_lt l1)
    (try k_sweep))
  k_with "myjoin" => (
    refine join_strs (ts := ts.drop since) (by exact News.isList (by k_asm) (by k_mem)) (hus.drop' since) (by omega) (by decide) ?_
    intro t8 k8)
  k_steps
  (with_reducible rename Fr _ _ _ _ => F')
  rw [join_list] at F'
  refine big_end F' (by assumption) hk hs (by rfl) (by rfl) (by rfl) (by rfl) (by rfl) (by rfl) (by k_mem) (by intro p hp; (repeat (first | exact hp | refine List.Mem.tail _ ?_))) (by grind) (by grind) ?_ (by omega)
  exact shows_list (hsh.drop since) (fun p hp => Nat.ne_of_lt (allLt_mem (by grind) p (hfz p hp))) (by rw [sizeLine_eq]; omega)
end Mine
namespace Mine
set_option maxRecDepth 100000
set_option maxHeartbeats 8000000
local macro_rules | `(tactic| walk_at "exec If") => `(tactic| refine wpAny_If ?_)
local macro_rules | `(tactic| walk_at "ite") => `(tactic| (k_closed; first | with_reducible refine ite_pos (by k_dflt decide) ?_ | with_reducible refine ite_neg (by k_dflt decide) ?_))
local macro_rules | `(tactic| walk_at "execs cons") => `(tactic| first | (k_here; k_gentoks) | ((with_reducible refine wpAny_execs_cons ?_); try dsimp only))
local macro_rules | `(tactic| units_room) => `(tactic| ktr_units)
local macro_rules | `(tactic| walk_at "call ref") => `(tactic| (k_here; k_dflt (k_extra "mycall")))
local macro_rules | `(tactic| walk_at "subscriptTail Name Slice ref ref") => `(tactic| (k_here; k_dflt (k_extra "myslice")))
local macro_rules | `(tactic| walk_at "call builtin:str.join") => `(tactic| (k_here; k_dflt (k_extra "myjoin")))
local macro_rules | `(tactic| walk_at "call type:tuple") => `(tactic| (k_here; k_dflt (k_extra "mytuple")))
local macro_rules | `(tactic| walk_at "call builtin:len") => `(tactic| (k_here; k_dflt (k_extra "mylen")))
theorem big4 (prog : Program) (w : World) (k : Int) : BigClaim prog w 4 k (fun n => n + 200) := by
  k_with_none
  w_top off
  unfold BigClaim
  intro p loose mean mg mb dp un fa cd outer A₀ base g L m s a1 a2 vs us ts n1 n2 tl fz d since ok os tk vk tw tsi B X T hdp hun F N hk hs hoff hlt hus hsh hfz hsi hvl hdl hpl
  simp only [bigIf, loop1, forBody, lawA, lawEnv, lawCells, lawScope, fnBody, fnScope, lawFn, PySem.Challenge.pw_dw0062_01, List.getD_cons_succ, List.getD_cons_zero]
  have hul : us.length = ts.length := hus.len_eq
  have htl : ts.length = vs.length := hsh.length
  have hps := piled_sum (ts.drop since)
  have hjl := join_len (ts.drop since)
  have hll := listText_len (ts.drop since)
  k_with "myslice" => (
    refine kmk_slice_lit (by k_asm) (by k_asm) (by kmk_list) (by kmk_part) (by kmk_part) (pick_from _ since) ?_ (by with_unfolding_all rfl) (by kmk_pure) (by rw [List.size_toArray, sizeLine_eq]; omega)
    intro D' h' F' N' l1
    (try k_lt l1)
    (try k_sweep))
  k_with "myjoin" => (
    refine join_strs (ts := ts.drop since) (by exact News.isList (by k_asm) (by k_mem)) (hus.drop' since) (by omega) (by decide) ?_
    intro t8 k8)
  k_with "mytuple" => (
    refine kde_tupleOf (by k_asm) (by k_asm) (by exact News.isList (by k_asm) (by k_mem)) (by rw [List.size_toArray, List.length_drop]; omega) (by rfl) ?_
    intro D' h' F' N' l1
    (try k_lt l1)
    (try k_sweep))
  k_with "mylen" => (refine len_tuple ⟨_, (News.get (by k_asm) (by k_mem)), rfl, _, rfl⟩ (by rw [List.size_toArray, List.length_drop]; omega) ?_)
  k_steps
  have htt := tupleText_len (ts.drop since)
  have hdl2 : (ts.drop since).length = (vs.drop since).length := by rw [List.length_drop, List.length_drop, htl]
  · (with_reducible rename Fr _ _ _ _ => F')
    have e1 : (ts.drop since).length = 1 := by
      have q := ‹((List.drop since vs).toArray.size : Int) = 1›
      rw [List.size_toArray] at q
      omega
    rw [tuple_one e1] at F'
    refine big_end F' (by assumption) hk hs (by rfl) (by rfl) (by rfl) (by rfl) (by rfl) (by rfl) (by k_mem) (by intro p hp; (repeat (first | exact hp | refine List.Mem.tail _ ?_))) (by grind) (by grind) ?_ (by omega)
    exact shows_tuple rfl rfl (hsh.drop since) (fun p hp => Nat.ne_of_lt (allLt_mem (by grind) p (hfz p hp))) (by rw [sizeLine_eq]; omega)
  · (with_reducible rename Fr _ _ _ _ => F')
    have htt := tupleText_len (ts.drop since)
    have hdl2 : (ts.drop since).length = (vs.drop since).length := by rw [List.length_drop, List.length_drop, htl]
    have e1 : (ts.drop since).length ≠ 1 := by
      have q := ‹((List.drop since vs).toArray.size : Int) ≠ 1›
      rw [List.size_toArray] at q
      omega
    rw [tuple_more e1] at F'
    refine big_end F' (by assumption) hk hs (by rfl) (by rfl) (by rfl) (by rfl) (by rfl) (by rfl) (by k_mem) (by intro p hp; (repeat (first | exact hp | refine List.Mem.tail _ ?_))) (by grind) (by grind) ?_ (by omega)
    exact shows_tuple rfl rfl (hsh.drop since) (fun p hp => Nat.ne_of_lt (allLt_mem (by grind) p (hfz p hp))) (by rw [sizeLine_eq]; omega)
end Mine
namespace Mine
def kvFrom : Nat → List Value → List (Int × Value)
  | _, [] => []
  | n, v :: r => ((n : Int), v) :: kvFrom (n + 1) r
theorem kvFrom_snoc (l : List Value) (v : Value) : ∀ n, kvFrom n (l ++ [v]) = kvFrom n l ++ [(((n + l.length : Nat) : Int), v)] := by
  induction l with
  | nil => intro n; rfl
  | cons a r ih =>
    intro n
    show ((n : Int), a) :: kvFrom (n + 1) (r ++ [v]) = ((n : Int), a) :: (kvFrom (n + 1) r ++ _)
    rw [ih (n + 1), List.length_cons, show n + 1 + r.length = n + (r.length + 1) by omega]
theorem kvFrom_lt (l : List Value) : ∀ n, ∀ p ∈ kvFrom n l, p.1 < ((n + l.length : Nat) : Int) := by
  induction l with
  | nil => intro n p hp; exact nomatch hp
  | cons a r ih =>
    intro n p hp
    rcases List.mem_cons.mp hp with rfl | hp
    · show (n : Int) < ((n + (r.length + 1) : Nat) : Int)
      omega
    · have := ih (n + 1) p hp
      rw [List.length_cons]
      omega
theorem kvFrom_len (l : List Value) : ∀ n, (kvFrom n l).length = l.length := by
  induction l with
  | nil => intro n; rfl
  | cons a r ih => intro n; show (kvFrom (n + 1) r).length + 1 = r.length + 1; rw [ih]
theorem kv_stored (l : List Value) (v : Value) : stored (kvFrom 0 l) ((l.length : Nat) : Int) v = kvFrom 0 (l ++ [v]) := by
  rw [kvFrom_snoc, Nat.zero_add]
  unfold stored
  rw [if_neg]
  intro h
  obtain ⟨p, hp, e⟩ := List.any_eq_true.mp h
  have := kvFrom_lt l 0 p hp
  have e' : p.1 = ((l.length : Nat) : Int) := of_decide_eq_true e
  omega
theorem take_snoc {α : Type} {l : List α} {i : Nat} {v : α} (h : l[i]? = some v) : l.take (i + 1) = l.take i ++ [v] := by
  rw [List.take_add_one, h]; rfl

section
variable {prog : Program} {w : World} {A : Around} {E : Value → Shared → Prop} {s : Shared} {h₀ : Heap} {L : Addr} {m : Str → Option Value} {env : Env}

theorem compLoop_pairD {kx vx iter : Expr} {elts : List Expr} {x1} {tp : Pos} {scope : Scope} {pos : Pos} {it : Value} {D : Addr} {env : Env} {R : Result → Shared → Prop} (I : Nat → Shared → Prop)
    (turn : ∀ n s, I n s → wpAny (model prog w) A (pyNext it) (fun r s₁ => match r with
      | none => R (.ok .next) s₁
      | some v => wpAny (model prog w) A (letOwnedTupleGo (.Tuple elts x1 tp) it v) (fun _ s₁' => wpAny (model prog w) A (assign (.Tuple elts x1 tp) env v) (fun _ s₂ =>
          wpAny (model prog w) A (eval kx env) (fun kv s₄ => wpAny (model prog w) A (eval vx env) (fun vv s₅ =>
              wpAny (model prog w) A (dictSet D kv vv) (fun _ s₆ => ∃ m, m < n ∧ I m s₆) (notedBy (model prog w) A env fun e s' => R (.error e) s') s₅) (notedBy (model prog w) A env fun e s' => R (.error e) s') s₄) (notedBy (model prog w) A env fun e s' => R (.error e) s') s₂)
          (notedBy (model prog w) A env fun e s' => R (.error e) s') s₁') (notedBy (model prog w) A env fun e s' => R (.error e) s') s₁) (notedBy (model prog w) A env fun e s' => R (.error e) s') s)
    (n : Nat) (h : I n s) : codeAny (model prog w) A (.compLoop (.DictComp kx vx [⟨.Tuple elts x1 tp, iter, [], 0⟩] scope pos) 0 it (.ref D) env) R s := by
  refine codeAny_loop rfl I (fun n s hI => ?_) n h
  show wpAny _ A ((compTurn (.DictComp kx vx [⟨.Tuple elts x1 tp, iter, [], 0⟩] scope pos) 0 it (.ref D) env).onRaise (fun x => do noteFrame x env; theTreesLotGoes x)) _ _ s
  refine wpAny_noted ?_
  rw [compTurn_dict]
  refine wpAny_bind (wpAny_standAt (wpAny_bind (wpAny_mono (turn n s hI) (fun r s₁ h₁ => ?_) fun _ _ h' => h')))
  cases r with
  | none => exact wpAny_pure h₁
  | some v =>
    refine wpAny_bind (wpAny_mono h₁ (fun _ s₁' h₁' => ?_) fun _ _ h' => h')
    refine wpAny_bind (wpAny_mono h₁' (fun _ s₂ h₂ => wpAny_bind (wpAny_mono (wpAny_tests_nil (Q := fun ok s₃ => ok = true ∧ s₃ = s₂) ⟨rfl, rfl⟩) (fun ok s₃ h₃ => ?_) fun _ _ h' => h')) fun _ _ h' => h')
    obtain ⟨rfl, rfl⟩ := h₃
    exact wpAny_bind (wpAny_bind (wpAny_mono h₂ (fun kv s₄ h₄ => wpAny_bind (wpAny_holding (wpAny_mono h₄ (fun vv s₅ h₅ => wpAny_bind (wpAny_standAt (wpAny_holding (wpAny_mono h₅ (fun _ s₆ h₆ => wpAny_pure ⟨rfl, h₆⟩) fun _ _ h' => h')))) fun _ _ h' => h'))) fun _ _ h' => h'))

/-- the dict comprehension {k: v for k, v in enumerate(l)} -/
theorem dict_block {iter : Expr} {x x₂ : Str} {kp vp px px₂ tp : Pos} {tk} {scope : Scope} {cl : List (Str × Addr)} {pos : Pos} {e it l : Addr} {ol : Obj} {its : Array Value} {news : List (Addr × Obj)} {RR : Value → Addr → Result → Shared → Prop}
    (hh : A.handled = none) (hei : e ≠ it) (hle : l ≠ e) (hli : l ≠ it) (hsz : its.size ≤ sizeLine)
    (he : IsEnum s.heap e it 0 .none) (hi : s.heap.IsListIter it l 0) (hl : s.heap.IsList l its) (hml : (l, ol) ∈ news)
    (hcell : ∀ y ∈ scope.names, y.2 ≠ .cell) (hkind : scope.kind = .function) (hx : scope.names.lookup x = some .local) (hx₂ : scope.names.lookup x₂ = some .local) (hxx : x ≠ x₂)
    (hdx : (x == ("__debug__" : Str)) = false) (hdx₂ : (x₂ == ("__debug__" : Str)) = false)
    (F : Fr h₀ L s.heap m) (N : News h₀ L s.heap news) (hLe : L ≠ e) (hLi : L ≠ it) (he₀ : h₀.get? e = none) (hi₀ : h₀.get? it = none) (off : ∀ p ∈ news, p.1 ≠ e ∧ p.1 ≠ it)
    (hRR : ∀ D C h tk m' o es ep, Fr h₀ L h m → News h₀ L h ((D, o) :: news) → o.cls = .type "dict" → o.data = .dict es ep → Pairs (intKind prog w) es.toList (kvFrom 0 its.toList) → h.Ns C m' → h₀.get? C = none → h₀.get? D = none → C ≠ L → D ≠ L → C ≠ D → (∀ p ∈ news, p.1 ≠ C ∧ p.1 ≠ D) →
      (∀ p ∈ news, @LT.lt Nat _ p.1 D) → RR (.ref D) C (.ok .next) { s with heap := h, toks := tk }) :
    wpAny (model prog w) A newDict (fun acc s₃ => wpAny (model prog w) A (newFunctionEnv scope env.globals cl [] env.qual none .none (some env)) (fun cenv s₄ =>
      codeAny (model prog w) A (.compStart (.DictComp (.Name x kp) (.Name x₂ vp) [⟨.Tuple [.Name x px, .Name x₂ px₂] tk tp, iter, [], 0⟩] scope pos) 0 (.ref e) acc { cenv with scope := relabel scope env }) (RR acc cenv.locals) s₄) E s₃) E s := by
  refine wpAny_newObj_type (wpAny_newFunctionEnv hcell (by intro y hy; simp at hy) (fun h₁ hns₁ hsb₁ => ?_) hkind)
  dsimp only at hns₁ hsb₁ ⊢
  have hnew : (s.heap.push { cls := .type "dict", dict := none, data := .dict #[] }).DictOf (intKind prog w) s.heap.objs.size [] := Heap.DictOf.new s.heap
  generalize hH2 : s.heap.push { cls := .type "dict", dict := none, data := .dict #[] } = H2 at hns₁ hsb₁ hnew ⊢
  have hC : H2.objs.size = s.heap.objs.size + 1 := by rw [← hH2, Heap.size_push]
  have hDC : s.heap.objs.size ≠ H2.objs.size := by rw [hC]; exact Nat.ne_of_lt (Nat.lt_succ_self _)
  have below : ∀ b, b < s.heap.objs.size → b ≠ H2.objs.size ∧ b ≠ s.heap.objs.size := fun b hb => ⟨by rw [hC]; exact Nat.ne_of_lt (Nat.lt_succ_of_lt hb), Nat.ne_of_lt hb⟩
  have old : ∀ b o, s.heap.get? b = some o → h₁.get? b = some o := fun b o q => hsb₁.extBut b o (below b (Heap.lt_size q)).1 (Heap.get?_push_of_some _ (hH2 ▸ Heap.get?_push_of_some _ q))
  have hacc : h₁.DictOf (intKind prog w) s.heap.objs.size [] := hnew.at fun o q => hsb₁.extBut _ _ hDC (Heap.get?_push_of_some _ q)
  have W := WalksT.enumerate (prog := prog) (w := w) hh e it l hei hle hli its
  have hst : (∃ o, IsEnum s.heap e it ((0 : Nat) : Int) o) ∧ s.heap.IsListIter it l 0 ∧ s.heap.IsList l its := ⟨⟨_, he⟩, hi, hl⟩
  have hfp : ∀ b ∈ [e, it, l], b < s.heap.objs.size := by
    intro b hb
    simp only [List.mem_cons, List.not_mem_nil, or_false] at hb
    rcases hb with rfl | rfl | rfl
    · exact Heap.lt_size he
    · obtain ⟨_, q, _⟩ := hi; exact Heap.lt_size q
    · obtain ⟨_, q, _⟩ := hl; exact Heap.lt_size q
  have hst₁ : (∃ o, IsEnum h₁ e it ((0 : Nat) : Int) o) ∧ h₁.IsListIter it l 0 ∧ h₁.IsList l its := W.frame 0 _ _ hst fun b _ o q => old b o q
  have fresh : ∀ a, s.heap.objs.size ≤ a → s.heap.get? a = none := fun a ha => by
    cases q : s.heap.get? a with
    | none => rfl
    | some o' => exact absurd (Heap.lt_size q) (Nat.not_lt.mpr ha)
  have fresh₀ : ∀ a, s.heap.objs.size ≤ a → h₀.get? a = none := fun a ha => by
    cases q : h₀.get? a with
    | none => rfl
    | some o' => have := F.keep a o' q; rw [fresh a ha] at this; cases this
  have hD₀ : h₀.get? s.heap.objs.size = none := fresh₀ _ (Nat.le_refl _)
  have hC₀ : h₀.get? H2.objs.size = none := fresh₀ _ (by rw [hC]; exact Nat.le_succ _)
  have hLlt : L < s.heap.objs.size := F.ns.lt
  have hDL : s.heap.objs.size ≠ L := Ne.symm (below L hLlt).2
  have hCL : H2.objs.size ≠ L := Ne.symm (below L hLlt).1
  have nlt : ∀ p ∈ news, p.1 < s.heap.objs.size := fun p hp => Heap.lt_size (N p hp).1
  have loop : ∀ s₃ : Shared, s₃ = { s with heap := h₁, toks := s.toks + ([] : List (Str × Value)).length } →
      codeAny (model prog w) A (.compLoop (.DictComp (.Name x kp) (.Name x₂ vp) [⟨.Tuple [.Name x px, .Name x₂ px₂] tk tp, iter, [], 0⟩] scope pos) 0 (.ref e) (.ref s.heap.objs.size) (compEnvC scope cl H2.objs.size env))
        (RR (.ref s.heap.objs.size) H2.objs.size) s₃ := by
    rintro s₃ rfl
    refine compLoop_pairD
      (fun k s' => ∃ h' tk i m', s' = { s with heap := h', toks := tk } ∧ i ≤ its.size ∧ k = its.size + 1 - i ∧ ((∃ o, IsEnum h' e it ((i : Nat) : Int) o) ∧ h'.IsListIter it l i ∧ h'.IsList l its) ∧ Fr h₀ L h' m ∧ h'.Ns H2.objs.size m' ∧ News h₀ L h' news ∧
        h'.DictOf (intKind prog w) s.heap.objs.size (kvFrom 0 (its.toList.take i))) ?_ (its.size + 1)
      ⟨h₁, _, 0, _, rfl, Nat.zero_le _, rfl, hst₁, F.keeps old, hns₁, N.grown old, hacc⟩
    rintro k s' ⟨h', tk', i, m', rfl, hi', rfl, hst', F', hn', N', hD'⟩
    have wrC : H2.objs.size ∉ [e, it] := fun q => by
      simp only [List.mem_cons, List.not_mem_nil, or_false] at q
      rcases q with q | q
      · exact (below _ (hfp e (by simp))).1 q.symm
      · exact (below _ (hfp it (by simp))).1 q.symm
    have wrD : s.heap.objs.size ∉ [e, it] := fun q => by
      simp only [List.mem_cons, List.not_mem_nil, or_false] at q
      rcases q with q | q
      · exact (below _ (hfp e (by simp))).2 q.symm
      · exact (below _ (hfp it (by simp))).2 q.symm
    have wrL : L ∉ [e, it] := by simp [hLe, hLi]
    have wr₀ : ∀ b ∈ [e, it], h₀.get? b = none := fun b hb => by
      simp only [List.mem_cons, List.not_mem_nil, or_false] at hb
      rcases hb with rfl | rfl
      · exact he₀
      · exact hi₀
    have wrN : ∀ p ∈ news, p.1 ∉ [e, it] := fun p hp => by simp [(off p hp).1, (off p hp).2]
    have fr : ∀ {h h' : Heap}, Fr h₀ L h m → (∀ b o, b ∉ [e, it] → h.get? b = some o → h'.get? b = some o) → Fr h₀ L h' m := fun F hk =>
      ⟨F.ns.at' fun o q => hk L o wrL q, fun b o q => hk b o (fun hb => by rw [wr₀ b hb] at q; cases q) (F.keep b o q), F.above⟩
    have nw : ∀ {h h' : Heap}, News h₀ L h news → (∀ b o, b ∉ [e, it] → h.get? b = some o → h'.get? b = some o) → News h₀ L h' news := fun N hk p hp => ⟨hk _ _ (wrN p hp) (N p hp).1, (N p hp).2⟩
    by_cases hlt : i < its.size
    · refine W.item i _ _ _ hlt hst' fun T vals h₂ tk₂ hPt hge hT hMid hk₂ => ?_
      obtain ⟨t, v, hv, rfl⟩ := hPt
      refine W.go _ _ _ i T _ _ _ hMid fun h₃ hst₃ hk₃ => ?_
      have hT₃ : IsTup h₃ T #[.int i t, v] := hT.at fun o q => hk₃ T o (W.apart i T h₂ hMid) q
      have F₃ := fr (fr F' hk₂) hk₃
      have N₃ := nw (nw N' hk₂) hk₃
      refine assign_Tuple_tuple hh hT₃ rfl rfl fun h₅ he₅ => ?_
      have he' : ∀ b o, h₃.get? b = some o → h₅.get? b = some o := fun b o q => he₅ b o (Nat.ne_of_lt (Heap.lt_size q)) q
      refine assignInOrder_cons (wpAny_assign_Name (wpAny_storeName_local (lookup_relabel_local hx) (((hn'.at' fun o q => hk₂ _ o wrC q).at' fun o q => hk₃ _ o wrC q).at' fun o q => he' _ o q) (fun h₆ hn₆ hs₆ => ?_) (by simp [compEnvC, relabel, hkind])))
      refine assignInOrder_cons (wpAny_assign_Name (wpAny_storeName_local (lookup_relabel_local hx₂) hn₆ (fun h₇ hn₇ hs₇ => ?_) (by simp [compEnvC, relabel, hkind])))
      refine assignInOrder_nil ?_
      have old3 : ∀ b o, b ≠ H2.objs.size → h₃.get? b = some o → h₇.get? b = some o := fun b o hb q => hs₇.extBut b o hb (hs₆.extBut b o hb (he' b o q))
      refine wpAny_Name (hd := hdx) (wpAny_loadName_local (by simp [compEnvC, relabel, hkind]) (lookup_relabel_local hx) hn₇ (v := .int i t) (by simp [hxx]) ?_)
      refine wpAny_Name (hd := hdx₂) (wpAny_loadName_local (by simp [compEnvC, relabel, hkind]) (lookup_relabel_local hx₂) hn₇ (v := v) (by simp) ?_)
      have hD₇ : h₇.DictOf (intKind prog w) s.heap.objs.size (kvFrom 0 (its.toList.take i)) := ((hD'.at fun o q => hk₂ _ o wrD q).at fun o q => hk₃ _ o wrD q).at fun o q => old3 _ o hDC q
      have hlen : (its.toList.take i).length = i := by rw [List.length_take, Array.length_toList]; omega
      refine wpAny_dictSet_pairs (k := (i : Int)) (hsz := by rw [kvFrom_len, hlen]; omega) (by simp [intKind, Value.isInt]) hD₇ fun h₈ hD₈ hs₈ => ?_
      have hvl : its.toList[i]? = some v := by rw [Array.getElem?_toList]; exact hv
      refine ⟨its.size + 1 - (i + 1), by omega, h₈, _, i + 1, _, rfl, hlt, rfl, W.frame _ _ _ hst₃ fun b hb o q => hs₈.extBut b o (below b (hfp b hb)).2 (old3 b o (below b (hfp b hb)).1 q), ?_, hn₇.sameBut hs₈ (Ne.symm hDC), fun p hp => ?_, ?_⟩
      · exact (((F₃.keeps he').change hs₆ hCL hC₀).change hs₇ hCL hC₀).change hs₈ hDL hD₀
      · exact ⟨hs₈.extBut _ _ (below _ (nlt p hp)).2 (old3 _ _ (below _ (nlt p hp)).1 (N₃ p hp).1), (N₃ p hp).2⟩
      · have hs' := kv_stored (its.toList.take i) v
        rw [hlen] at hs'
        rw [take_snoc hvl, ← hs']
        exact hD₈
    · obtain rfl : i = its.size := Nat.le_antisymm hi' (Nat.not_lt.mp hlt)
      refine W.done _ _ _ hst' fun h₂ tk₂ hk₂ => ?_
      have hD₂ := hD'.at fun o q => hk₂ _ o wrD q
      rw [show its.toList.take its.size = its.toList by rw [List.take_of_length_le (by rw [Array.length_toList]; exact Nat.le_refl _)]] at hD₂
      obtain ⟨o, es, ep, hoD, hc, hd, hk, hp, hnd⟩ := hD₂
      refine hRR _ _ h₂ tk₂ _ o es ep (fr F' hk₂) (fun p hp => ?_) hc.1 hd hp (hn'.at' fun o q => hk₂ _ o wrC q) hC₀ hD₀ hCL hDL (Ne.symm hDC) (fun p hp => below _ (nlt p hp)) nlt
      rcases List.mem_cons.mp hp with rfl | hp
      · exact ⟨hoD, hDL, hD₀⟩
      · exact nw N' hk₂ p hp
  exact codeAny_compStart_dict (loop _ rfl) (W.self 0 _ _ _ hst₁ (loop _ rfl))

/-- where the comprehension stands when its iterable is made -/
def EnumAt (h₀ : Heap) (L : Addr) (m : Str → Option Value) (Go : Addr → Addr → Addr → Array Value → List (Addr × Obj) → Shared → Prop) (xv : Value) (s : Shared) : Prop :=
  ∃ e it l ol its news, xv = .ref e ∧ IsEnum s.heap e it 0 .none ∧ s.heap.IsListIter it l 0 ∧ s.heap.IsList l its ∧ (l, ol) ∈ news ∧ e ≠ it ∧ l ≠ e ∧ l ≠ it ∧ Fr h₀ L s.heap m ∧ News h₀ L s.heap news ∧ L ≠ e ∧ L ≠ it ∧ h₀.get? e = none ∧ h₀.get? it = none ∧ (∀ p ∈ news, p.1 ≠ e ∧ p.1 ≠ it) ∧
    its.size ≤ sizeLine ∧ Go e it l its news s
theorem call_enumAt {l : Addr} {ol : Obj} {its : Array Value} {news : List (Addr × Obj)} {Go : Addr → Addr → Addr → Array Value → List (Addr × Obj) → Shared → Prop} (F : Fr h₀ L s.heap m) (N : News h₀ L s.heap news) (hm : (l, ol) ∈ news) (hl : s.heap.IsList l its) (hsz : its.size ≤ sizeLine)
    (h : ∀ e it h', Go e it l its news { s with heap := h' }) :
    wpAny (model prog w) A (call (.type "enumerate") [.ref l]) (EnumAt h₀ L m Go) E s := by
  have lt : ∀ {b o}, s.heap.get? b = some o → b < s.heap.objs.size := fun q => Heap.lt_size q
  have hlt : l < s.heap.objs.size := lt (N _ hm).1
  have fresh₀ : ∀ a, s.heap.objs.size ≤ a → h₀.get? a = none := fun a ha => by
    cases q : h₀.get? a with
    | none => rfl
    | some o' => exact absurd (lt (F.keep a o' q)) (Nat.not_lt.mpr ha)
  have hLlt : L < s.heap.objs.size := F.ns.lt
  refine call_enumerate_list hl fun h' he hi hz hk => ?_
  exact ⟨_, _, l, ol, its, news, rfl, he, hi, hl.at fun o q => hk l o q, hm, Nat.succ_ne_self _, Nat.ne_of_lt (Nat.lt_succ_of_lt hlt), Nat.ne_of_lt hlt, F.keeps hk, N.grown hk, Nat.ne_of_lt (Nat.lt_succ_of_lt hLlt), Nat.ne_of_lt hLlt, fresh₀ _ (Nat.le_succ _), fresh₀ _ (Nat.le_refl _),
    fun p hp => ⟨Nat.ne_of_lt (Nat.lt_succ_of_lt (lt (N p hp).1)), Nat.ne_of_lt (lt (N p hp).1)⟩, hsz, h _ _ h'⟩
theorem assign_dictEnum {iter : Expr} {x x₂ y : Str} {kp vp px px₂ tp py : Pos} {tk} {scope : Scope} {cl : List (Str × Addr)} {pos spos : Pos} {Q : Flow → Shared → Prop} (_F₀ : Fr h₀ L s.heap m) (hLe : env.locals = L)
    (hh : A.handled = none)
    (hsw : swapsWith (.DictComp (.Name x kp) (.Name x₂ vp) [⟨.Tuple [.Name x px, .Name x₂ px₂] tk tp, iter, [], 0⟩] scope pos) (some (.Name y py)) spos.line env = pure true)
    (hclos : closureFor scope env = pure cl) (hcell : ∀ z ∈ scope.names, z.2 ≠ .cell) (hkind : scope.kind = .function)
    (hnames : ∀ z ∈ scope.names, z.2 = .local → scope.names.lookup z.1 = some .local) (hx : scope.names.lookup x = some .local) (hx₂ : scope.names.lookup x₂ = some .local) (hxx : x ≠ x₂)
    (hdx : (x == ("__debug__" : Str)) = false) (hdx₂ : (x₂ == ("__debug__" : Str)) = false)
    (hy : env.kindOf y = some .local) (hp : (env.scope.kind == .class || (env.scope.kind == .module && env.locals != env.globals)) = false)
    (h : wpAny (model prog w) A (eval iter env) (EnumAt h₀ L m (fun _ _ _ its news s₁ => ∀ D h tk o es ep, Fr h₀ L h (fun z => if z = y then some (.ref D) else m z) → News h₀ L h ((D, o) :: news) → o.cls = .type "dict" → o.data = .dict es ep →
      Pairs (intKind prog w) es.toList (kvFrom 0 its.toList) → (∀ p ∈ news, p.1 ≠ D) → (∀ p ∈ news, @LT.lt Nat _ p.1 D) → Q .next { s₁ with heap := h, toks := tk })) E s)
    (hs : ∀ x, foldedSetIterable iter env x = pure x) :
    wpAny (model prog w) A (exec (.Assign [.Name y py] (.DictComp (.Name x kp) (.Name x₂ vp) [⟨.Tuple [.Name x px, .Name x₂ px₂] tk tp, iter, [], 0⟩] scope pos) spos) env) Q E s := by
  subst hLe
  rw [exec_Assign_Name_used _ _ _ _ hsw]
  refine wpAny_bind (wpAny_standAt (wpAny_bind ?_))
  show wpAny _ A (do let _ ← comprehension (.DictComp (.Name x kp) (.Name x₂ vp) [⟨.Tuple [.Name x px, .Name x₂ px₂] tk tp, iter, [], 0⟩] scope pos) scope env _ newDict false (eval iter env) (some (assign (.Name y py) env))) _ _ s
  refine wpAny_bind (wpAny_mono (wpAny_comprehension_free (use := some (assign (.Name y py) env)) (Q := fun _ s' => Q .next s') rfl hs hclos hkind hnames
    (wpAny_mono h (fun xv s₁ h₁ => ?_) fun _ _ e => e)) (fun _ s' hq => wpAny_pure (wpAny_pure hq)) fun _ _ e => e)
  obtain ⟨e, it, l, ol, its, news, rfl, he, hi, hl, hm, hei, hle, hli, F, N, hLe, hLi, he₀, hi₀, off, hsz, hQ⟩ := h₁
  refine wpAny_pyIter_enum he ?_
  refine dict_block (m := m) (RR := fun acc C => compPost (model prog w) A E (some (assign (.Name y py) env)) (fun _ s' => Q .next s') acc C) hh hei hle hli hsz he hi hl hm hcell hkind hx hx₂ hxx hdx hdx₂ F N hLe hLi he₀ hi₀ off ?_
  intro D C h' tk m' o es ep F' N' hc hd hP hnC hC₀ hD₀ hCL hDL hCD offN ltN
  show wpAny _ A (assign (.Name y py) env (.ref D)) _ _ _
  refine wpAny_assign_Name (wpAny_storeName_local hy F'.ns (fun h₂ hn₂ hs₂ => ?_) hp)
  have hL₀ : h₀.get? env.locals = none := Heap.get?_none_of_le F'.above
  have F₂ : Fr h₀ env.locals h₂ (fun z => if z = y then some (.ref D) else m z) := ⟨hn₂, fun b o e => hs₂.extBut b o (fun q => by rw [q, hL₀] at e; cases e) (F'.keep b o e), F'.above⟩
  refine ⟨m', hnC.sameBut hs₂ hCL, fun h'' hs'' => hQ D h'' _ o es ep (F₂.change hs'' hCL hC₀) (fun p hp => ?_) hc hd hP (fun p hp => (offN p hp).2) ltN⟩
  have z : h₂.get? p.1 = some p.2 := hs₂.extBut _ _ (N' p hp).2.1 (N' p hp).1
  refine ⟨hs''.extBut _ _ ?_ z, (N' p hp).2⟩
  rcases List.mem_cons.mp hp with rfl | hp
  · exact Ne.symm hCD
  · exact (offN p hp).1

/-- how an element's evaluation must end -/
def PEnd (h₀ : Heap) (L : Addr) (m : Str → Option Value) (s₁ : Shared) (all : List (Addr × Obj)) (rest : Value → Prop) (y : Value) (s₂ : Shared) : Prop :=
  ∃ h' tk news', s₂ = { s₁ with heap := h', toks := tk } ∧ Fr h₀ L h' m ∧ News h₀ L h' news' ∧ (∀ p ∈ all, p ∈ news') ∧ rest y
theorem PEnd.intro {h₀ : Heap} {L : Addr} {m : Str → Option Value} {s₁ : Shared} {all news' : List (Addr × Obj)} {rest : Value → Prop} {y : Value} {h' : Heap} {tk : Nat}
    (F : Fr h₀ L h' m) (N : News h₀ L h' news') (sub : ∀ p ∈ all, p ∈ news') (r : rest y) : PEnd h₀ L m s₁ all rest y { s₁ with heap := h', toks := tk } := ⟨h', tk, news', rfl, F, N, sub, r⟩

/-- the list comprehension [elt for k, v in enumerate(l)] -/
theorem list_block {elt iter : Expr} {x x₂ : Str} {px px₂ tp : Pos} {tk} {scope : Scope} {cl : List (Str × Addr)} {pos : Pos} {e it l : Addr} {ol : Obj} {its : Array Value} {news : List (Addr × Obj)} {RR : Value → Addr → Result → Shared → Prop}
    (J : Nat → List Value → Prop)
    (hh : A.handled = none) (hei : e ≠ it) (hle : l ≠ e) (hli : l ≠ it) (hsz : its.size ≤ sizeLine)
    (he : IsEnum s.heap e it 0 .none) (hi : s.heap.IsListIter it l 0) (hl : s.heap.IsList l its) (hml : (l, ol) ∈ news)
    (hcell : ∀ y ∈ scope.names, y.2 ≠ .cell) (hkind : scope.kind = .function) (hx : scope.names.lookup x = some .local) (hx₂ : scope.names.lookup x₂ = some .local) (hxx : x ≠ x₂)
    (F : Fr h₀ L s.heap m) (N : News h₀ L s.heap news) (hLe : L ≠ e) (hLi : L ≠ it) (he₀ : h₀.get? e = none) (hi₀ : h₀.get? it = none) (off : ∀ p ∈ news, p.1 ≠ e ∧ p.1 ≠ it) (h0 : J 0 [])
    (turn : ∀ i v t ys oe oi C oC D m₂ h tk (E' : Value → Shared → Prop), its[i]? = some v → J i ys → LCg.NsObj oC m₂ → m₂ x = some (.int (i : Int) t) → m₂ x₂ = some v → Fr h₀ L h m → News h₀ L h ((C, oC) :: (e, oe) :: (it, oi) :: (D, LCg.lst ys) :: news) →
      wpAny (model prog w) A (eval elt (compEnvC scope cl C env)) (PEnd h₀ L m { s with heap := h, toks := tk } ((C, oC) :: (e, oe) :: (it, oi) :: (D, LCg.lst ys) :: news) (fun y => J (i + 1) (ys ++ [y]))) E' { s with heap := h, toks := tk })
    (hRR : ∀ D C h tk m' ys, Fr h₀ L h m → News h₀ L h ((D, LCg.lst ys) :: news) → J its.size ys → h.Ns C m' → h₀.get? C = none → h₀.get? D = none → C ≠ L → D ≠ L → C ≠ D → (∀ p ∈ news, p.1 ≠ C ∧ p.1 ≠ D) →
      (∀ p ∈ news, @LT.lt Nat _ p.1 D) → RR (.ref D) C (.ok .next) { s with heap := h, toks := tk }) :
    wpAny (model prog w) A (newList []) (fun acc s₃ => wpAny (model prog w) A (newFunctionEnv scope env.globals cl [] env.qual none .none (some env)) (fun cenv s₄ =>
      codeAny (model prog w) A (.compStart (.ListComp elt [⟨.Tuple [.Name x px, .Name x₂ px₂] tk tp, iter, [], 0⟩] scope pos) 0 (.ref e) acc { cenv with scope := relabel scope env }) (RR acc cenv.locals) s₄) E s₃) E s := by
  refine wpAny_newObj_type (wpAny_newFunctionEnv hcell (by intro y hy; simp at hy) (fun h₁ hns₁ hsb₁ => ?_) hkind)
  dsimp only at hns₁ hsb₁ ⊢
  generalize hH2 : s.heap.push { cls := .type "list", dict := none, data := .seq ([] : List Value).toArray } = H2 at hns₁ hsb₁ ⊢
  have hC : H2.objs.size = s.heap.objs.size + 1 := by rw [← hH2, Heap.size_push]
  have hDC : s.heap.objs.size ≠ H2.objs.size := by rw [hC]; exact Nat.ne_of_lt (Nat.lt_succ_self _)
  have below : ∀ b, b < s.heap.objs.size → b ≠ H2.objs.size ∧ b ≠ s.heap.objs.size := fun b hb => ⟨by rw [hC]; exact Nat.ne_of_lt (Nat.lt_succ_of_lt hb), Nat.ne_of_lt hb⟩
  have old : ∀ b o, s.heap.get? b = some o → h₁.get? b = some o := fun b o q => hsb₁.extBut b o (below b (Heap.lt_size q)).1 (Heap.get?_push_of_some _ (hH2 ▸ Heap.get?_push_of_some _ q))
  have hacc : h₁.get? s.heap.objs.size = some (LCg.lst []) := hsb₁.extBut _ _ hDC (Heap.get?_push_of_some _ (hH2 ▸ Heap.get?_push_size _ rfl))
  have W := WalksT.enumerate (prog := prog) (w := w) hh e it l hei hle hli its
  have hst : (∃ o, IsEnum s.heap e it ((0 : Nat) : Int) o) ∧ s.heap.IsListIter it l 0 ∧ s.heap.IsList l its := ⟨⟨_, he⟩, hi, hl⟩
  have hfp : ∀ b ∈ [e, it, l], b < s.heap.objs.size := by
    intro b hb
    simp only [List.mem_cons, List.not_mem_nil, or_false] at hb
    rcases hb with rfl | rfl | rfl
    · exact Heap.lt_size he
    · obtain ⟨_, q, _⟩ := hi; exact Heap.lt_size q
    · obtain ⟨_, q, _⟩ := hl; exact Heap.lt_size q
  have hst₁ : (∃ o, IsEnum h₁ e it ((0 : Nat) : Int) o) ∧ h₁.IsListIter it l 0 ∧ h₁.IsList l its := W.frame 0 _ _ hst fun b _ o q => old b o q
  have fresh : ∀ a, s.heap.objs.size ≤ a → s.heap.get? a = none := fun a ha => by
    cases q : s.heap.get? a with
    | none => rfl
    | some o' => exact absurd (Heap.lt_size q) (Nat.not_lt.mpr ha)
  have fresh₀ : ∀ a, s.heap.objs.size ≤ a → h₀.get? a = none := fun a ha => by
    cases q : h₀.get? a with
    | none => rfl
    | some o' => have := F.keep a o' q; rw [fresh a ha] at this; cases this
  have hD₀ : h₀.get? s.heap.objs.size = none := fresh₀ _ (Nat.le_refl _)
  have hC₀ : h₀.get? H2.objs.size = none := fresh₀ _ (by rw [hC]; exact Nat.le_succ _)
  have hLlt : L < s.heap.objs.size := F.ns.lt
  have hDL : s.heap.objs.size ≠ L := Ne.symm (below L hLlt).2
  have hCL : H2.objs.size ≠ L := Ne.symm (below L hLlt).1
  have nlt : ∀ p ∈ news, p.1 < s.heap.objs.size := fun p hp => Heap.lt_size (N p hp).1
  have loop : ∀ s₃ : Shared, s₃ = { s with heap := h₁, toks := s.toks + ([] : List (Str × Value)).length } →
      codeAny (model prog w) A (.compLoop (.ListComp elt [⟨.Tuple [.Name x px, .Name x₂ px₂] tk tp, iter, [], 0⟩] scope pos) 0 (.ref e) (.ref s.heap.objs.size) (compEnvC scope cl H2.objs.size env))
        (RR (.ref s.heap.objs.size) H2.objs.size) s₃ := by
    rintro s₃ rfl
    refine LCp.codeAny_compLoop_pair
      (fun k s' => ∃ h' tk i ys m', s' = { s with heap := h', toks := tk } ∧ i ≤ its.size ∧ k = its.size + 1 - i ∧ ys.length = i ∧ ((∃ o, IsEnum h' e it ((i : Nat) : Int) o) ∧ h'.IsListIter it l i ∧ h'.IsList l its) ∧ Fr h₀ L h' m ∧ h'.Ns H2.objs.size m' ∧ News h₀ L h' ((s.heap.objs.size, LCg.lst ys) :: news) ∧
        J i ys) ?_ (its.size + 1)
      ⟨h₁, _, 0, [], _, rfl, Nat.zero_le _, rfl, rfl, hst₁, F.keeps old, hns₁, fun p hp => ?_, h0⟩
    · rintro k s' ⟨h', tk', i, ys, m', rfl, hi', rfl, hyl, hst', F', hn', N', hJ⟩
      have wrC : H2.objs.size ∉ [e, it] := fun q => by
        simp only [List.mem_cons, List.not_mem_nil, or_false] at q
        rcases q with q | q
        · exact (below _ (hfp e (by simp))).1 q.symm
        · exact (below _ (hfp it (by simp))).1 q.symm
      have wrD : s.heap.objs.size ∉ [e, it] := fun q => by
        simp only [List.mem_cons, List.not_mem_nil, or_false] at q
        rcases q with q | q
        · exact (below _ (hfp e (by simp))).2 q.symm
        · exact (below _ (hfp it (by simp))).2 q.symm
      have wrL : L ∉ [e, it] := by simp [hLe, hLi]
      have wr₀ : ∀ b ∈ [e, it], h₀.get? b = none := fun b hb => by
        simp only [List.mem_cons, List.not_mem_nil, or_false] at hb
        rcases hb with rfl | rfl
        · exact he₀
        · exact hi₀
      have wrN : ∀ p ∈ (s.heap.objs.size, LCg.lst ys) :: news, p.1 ∉ [e, it] := fun p hp => by
        rcases List.mem_cons.mp hp with rfl | hp
        · exact wrD
        · simp [(off p hp).1, (off p hp).2]
      have fr : ∀ {h h' : Heap}, Fr h₀ L h m → (∀ b o, b ∉ [e, it] → h.get? b = some o → h'.get? b = some o) → Fr h₀ L h' m := fun F hk =>
        ⟨F.ns.at' fun o q => hk L o wrL q, fun b o q => hk b o (fun hb => by rw [wr₀ b hb] at q; cases q) (F.keep b o q), F.above⟩
      have nw : ∀ {h h' : Heap}, News h₀ L h ((s.heap.objs.size, LCg.lst ys) :: news) → (∀ b o, b ∉ [e, it] → h.get? b = some o → h'.get? b = some o) → News h₀ L h' ((s.heap.objs.size, LCg.lst ys) :: news) :=
        fun N hk p hp => ⟨hk _ _ (wrN p hp) (N p hp).1, (N p hp).2⟩
      by_cases hlt : i < its.size
      · refine W.item i _ _ _ hlt hst' fun T vals h₂ tk₂ hPt hge hT hMid hk₂ => ?_
        obtain ⟨t, v, hv, rfl⟩ := hPt
        refine W.go _ _ _ i T _ _ _ hMid fun h₃ hst₃ hk₃ => ?_
        have hT₃ : IsTup h₃ T #[.int i t, v] := hT.at fun o q => hk₃ T o (W.apart i T h₂ hMid) q
        have F₃ := fr (fr F' hk₂) hk₃
        have N₃ := nw (nw N' hk₂) hk₃
        refine assign_Tuple_tuple hh hT₃ rfl rfl fun h₅ he₅ => ?_
        have he' : ∀ b o, h₃.get? b = some o → h₅.get? b = some o := fun b o q => he₅ b o (Nat.ne_of_lt (Heap.lt_size q)) q
        refine assignInOrder_cons (wpAny_assign_Name (wpAny_storeName_local (lookup_relabel_local hx) (((hn'.at' fun o q => hk₂ _ o wrC q).at' fun o q => hk₃ _ o wrC q).at' fun o q => he' _ o q) (fun h₆ hn₆ hs₆ => ?_) (by simp [compEnvC, relabel, hkind])))
        refine assignInOrder_cons (wpAny_assign_Name (wpAny_storeName_local (lookup_relabel_local hx₂) hn₆ (fun h₇ hn₇ hs₇ => ?_) (by simp [compEnvC, relabel, hkind])))
        refine assignInOrder_nil ?_
        have old3 : ∀ b o, b ≠ H2.objs.size → h₃.get? b = some o → h₇.get? b = some o := fun b o hb q => hs₇.extBut b o hb (hs₆.extBut b o hb (he' b o q))
        have hst₇ := W.frame _ _ h₇ hst₃ fun b hb o q => old3 b o (below b (hfp b hb)).1 q
        obtain ⟨oC, heC, hoC⟩ := LCg.ns_obj hn₇
        obtain ⟨⟨oee, hee⟩, ⟨oi, hoi, hoi'⟩, hl₇⟩ := hst₇
        have F₇ : Fr h₀ L h₇ m := ((F₃.keeps he').change hs₆ hCL hC₀).change hs₇ hCL hC₀
        have N₇ : News h₀ L h₇ ((H2.objs.size, oC) :: (e, _) :: (it, oi) :: (s.heap.objs.size, LCg.lst ys) :: news) := fun p hp => by
          rcases List.mem_cons.mp hp with rfl | hp
          · exact ⟨heC, hCL, hC₀⟩
          · rcases List.mem_cons.mp hp with rfl | hp
            · exact ⟨hee, Ne.symm hLe, he₀⟩
            · rcases List.mem_cons.mp hp with rfl | hp
              · exact ⟨hoi, Ne.symm hLi, hi₀⟩
              · refine ⟨old3 _ _ ?_ (N₃ p hp).1, (N₃ p hp).2⟩
                rcases List.mem_cons.mp hp with rfl | hp
                · exact hDC
                · exact (below _ (nlt p hp)).1
        refine wpAny_mono (turn i v t ys _ oi H2.objs.size oC s.heap.objs.size _ h₇ _ _ hv hJ hoC (by simp [hxx]) (by simp) F₇ N₇) (fun y s₄ h₄ => ?_) fun _ _ q => q
        obtain ⟨h₄, tk₄, news₄, rfl, F₄, N₄, sub₄, hJ₄⟩ := h₄
        have N₄' : News h₀ L h₄ ((H2.objs.size, oC) :: (e, _) :: (it, oi) :: (s.heap.objs.size, LCg.lst ys) :: news) := fun p hp => N₄ p (sub₄ p hp)
        have hst₄ : (∃ o, IsEnum h₄ e it (((i + 1 : Nat)) : Int) o) ∧ h₄.IsListIter it l (i + 1) ∧ h₄.IsList l its :=
          ⟨⟨_, (N₄' _ (.tail _ (.head _))).1⟩, ⟨oi, (N₄' _ (.tail _ (.tail _ (.head _)))).1, hoi'⟩, hl₇.at fun o q => by
            have := (N₇ _ (.tail _ (.tail _ (.tail _ (.tail _ hml))))).1
            rw [this] at q
            cases q
            exact (N₄' _ (.tail _ (.tail _ (.tail _ (.tail _ hml))))).1⟩
        refine append_at (hsz := by show ys.toArray.size ≤ sizeLine; rw [List.size_toArray, hyl]; exact Nat.le_trans hi' hsz) (N₄' _ (.tail _ (.tail _ (.tail _ (.head _))))).1 fun h₅ hs₅ hD₅ => ?_
        refine ⟨its.size + 1 - (i + 1), by omega, h₅, tk₄, i + 1, ys ++ [y], _, rfl, hlt, rfl, by rw [List.length_append, List.length_singleton, hyl], W.frame _ _ _ hst₄ fun b hb o q => hs₅.extBut b o (below b (hfp b hb)).2 q, F₄.change hs₅ hDL hD₀,
          (hoC.ns (N₄' _ (.head _)).1).sameBut hs₅ (Ne.symm hDC), fun p hp => ?_, hJ₄⟩
        rcases List.mem_cons.mp hp with rfl | hp
        · exact ⟨hD₅.trans (congrArg some (LCg.lst_snoc ys y)), hDL, hD₀⟩
        · have z := N₄' p (.tail _ (.tail _ (.tail _ (.tail _ hp))))
          exact ⟨hs₅.extBut _ _ (below _ (nlt p hp)).2 z.1, z.2⟩
      · obtain rfl : i = its.size := Nat.le_antisymm hi' (Nat.not_lt.mp hlt)
        refine W.done _ _ _ hst' fun h₂ tk₂ hk₂ => ?_
        exact hRR _ _ h₂ tk₂ _ ys (fr F' hk₂) (nw N' hk₂) hJ (hn'.at' fun o q => hk₂ _ o wrC q) hC₀ hD₀ hCL hDL (Ne.symm hDC) (fun p hp => below _ (nlt p hp)) nlt
    · rcases List.mem_cons.mp hp with rfl | hp
      · exact ⟨hacc, hDL, hD₀⟩
      · exact N.grown old p hp
  exact codeAny_compStart_list (loop _ rfl) (W.self 0 _ _ _ hst₁ (loop _ rfl))

def ListTurns (prog : Program) (w : World) (A : Around) (h₀ : Heap) (L : Addr) (m : Str → Option Value) (env : Env) (elt : Expr) (x x₂ : Str) (scope : Scope) (cl : List (Str × Addr)) (Q : Value → Shared → Prop) (e it _l : Addr) (its : Array Value) (news : List (Addr × Obj)) (s : Shared) : Prop :=
  ∃ J : Nat → List Value → Prop, J 0 [] ∧
    (∀ i v t ys oe oi C oC D m₂ h tk (E' : Value → Shared → Prop), its[i]? = some v → J i ys → LCg.NsObj oC m₂ → m₂ x = some (.int (i : Int) t) → m₂ x₂ = some v → Fr h₀ L h m → News h₀ L h ((C, oC) :: (e, oe) :: (it, oi) :: (D, LCg.lst ys) :: news) →
      wpAny (model prog w) A (eval elt (compEnvC scope cl C env)) (PEnd h₀ L m { s with heap := h, toks := tk } ((C, oC) :: (e, oe) :: (it, oi) :: (D, LCg.lst ys) :: news) (fun y => J (i + 1) (ys ++ [y]))) E' { s with heap := h, toks := tk }) ∧
    ∀ D h tk ys, Fr h₀ L h m → News h₀ L h ((D, LCg.lst ys) :: news) → J its.size ys → (∀ p ∈ news, p.1 ≠ D) → (∀ p ∈ news, @LT.lt Nat _ p.1 D) → Q (.ref D) { s with heap := h, toks := tk }

theorem eval_listEnum {elt iter : Expr} {x x₂ : Str} {px px₂ tp : Pos} {tk} {scope : Scope} {cl : List (Str × Addr)} {pos : Pos} {Q : Value → Shared → Prop} (_F₀ : Fr h₀ L s.heap m) (hh : A.handled = none)
    (hclos : closureFor scope env = pure cl) (hcell : ∀ y ∈ scope.names, y.2 ≠ .cell) (hkind : scope.kind = .function)
    (hnames : ∀ y ∈ scope.names, y.2 = .local → scope.names.lookup y.1 = some .local) (hx : scope.names.lookup x = some .local) (hx₂ : scope.names.lookup x₂ = some .local) (hxx : x ≠ x₂)
    (h : wpAny (model prog w) A (eval iter env) (EnumAt h₀ L m (ListTurns prog w A h₀ L m env elt x x₂ scope cl Q)) E s)
    (hs : ∀ x, foldedSetIterable iter env x = pure x) :
    wpAny (model prog w) A (eval (.ListComp elt [⟨.Tuple [.Name x px, .Name x₂ px₂] tk tp, iter, [], 0⟩] scope pos) env) Q E s := by
  rw [eval_ListComp]
  refine wpAny_comprehension_free (use := none) rfl hs hclos hkind hnames (wpAny_mono h (fun xv s₁ h₁ => ?_) fun _ _ e => e)
  obtain ⟨e, it, l, ol, its, news, rfl, he, hi, hl, hm, hei, hle, hli, F, N, hLe, hLi, he₀, hi₀, off, hsz, J, h0, turn, fin⟩ := h₁
  refine wpAny_pyIter_enum he ?_
  refine list_block (m := m) J hh hei hle hli hsz he hi hl hm hcell hkind hx hx₂ hxx F N hLe hLi he₀ hi₀ off h0 turn ?_
  intro D C h' tk m' ys F' N' hJ hnC hC₀ hD₀ hCL hDL hCD offN ltN
  refine ⟨m', hnC, fun h'' hs'' => fin D h'' tk ys (F'.change hs'' hCL hC₀) (fun p hp => ?_) hJ (fun p hp => (offN p hp).2) ltN⟩
  refine ⟨hs''.extBut _ _ ?_ (N' p hp).1, (N' p hp).2⟩
  rcases List.mem_cons.mp hp with rfl | hp
  · exact Ne.symm hCD
  · exact (offN p hp).1
end
end Mine
namespace Mine
set_option maxRecDepth 100000
set_option maxHeartbeats 8000000
def kvTexts : Nat → List Str → List Str
  | _, [] => []
  | n, t :: r => (Str.ofString (toString (n : Int)) ++ ": " ++ t) :: kvTexts (n + 1) r
theorem kvTexts_snoc (l : List Str) (t : Str) : ∀ n, kvTexts n (l ++ [t]) = kvTexts n l ++ [Str.ofString (toString (((n + l.length : Nat)) : Int)) ++ ": " ++ t] := by
  induction l with
  | nil => intro n; rfl
  | cons a r ih =>
    intro n
    show _ :: kvTexts (n + 1) (r ++ [t]) = _ :: (kvTexts (n + 1) r ++ _)
    rw [ih (n + 1), List.length_cons, show n + 1 + r.length = n + (r.length + 1) by omega]
theorem kvTexts_len (l : List Str) : ∀ n, (kvTexts n l).length = l.length := by
  induction l with
  | nil => intro n; rfl
  | cons a r ih => intro n; show (kvTexts (n + 1) r).length + 1 = r.length + 1; rw [ih]
theorem place_len {i : Nat} (h : i < 100) : (Str.ofString (toString (i : Int))).length ≤ 3 := int_len (n := 2) (digs_len (by omega) (by omega))
theorem app_len (a b : Str) : (a ++ b).length = a.length + b.length := by
  rw [len_list, cps_append, List.length_append, ← len_list, ← len_list]
theorem kvTexts_piled (l : List Str) : ∀ n, n + l.length ≤ 50 → piled (kvTexts n l) ≤ piled l + 5 * l.length := by
  induction l with
  | nil => intro n _; exact Nat.le_refl _
  | cons a r ih =>
    intro n h
    rw [List.length_cons] at h
    have q := ih (n + 1) (by omega)
    have z := place_len (i := n) (by omega)
    show piled (_ :: kvTexts (n + 1) r) ≤ _
    rw [piled_cons, piled_cons, app_len, app_len, List.length_cons]
    have : (Str.length ": ") = 2 := by decide
    omega
theorem shows_kv {prog : Program} {w : World} {fz : List (Addr × Obj)} {d : Nat} {vs : List Value} {ts : List Str} (h : ShowsAll prog w fz d vs ts) : ∀ (n : Nat) (es : List DictEntry), n + vs.length ≤ 100 → Pairs (intKind prog w) es (kvFrom n vs) →
    ShowsKv prog w fz d es (kvTexts n ts) := by
  induction h with
  | nil => intro n es _ hp; cases hp; exact .nil
  | @cons v t vs ts hv _ ih =>
    intro n es hn hp
    rw [List.length_cons] at hn
    cases hp with
    | @cons e kv es kvs hk hval hr =>
      obtain ⟨ek, ev, eh⟩ := e
      obtain ⟨u, hu⟩ := Value.isInt_shape (show Value.isInt (n : Int) _ = true from hk)
      refine .cons ?_ ?_ (ih (n + 1) es (by omega) hr)
      · rw [hu]
        exact (shows_int u (by
          refine Nat.lt_of_le_of_lt (Nat.log2_le_self _) ?_
          omega)).mono (fun _ q => nomatch q) (Nat.zero_le _)
      · rw [hval]; exact hv
theorem strs_at {us : List Value} {ts : List Str} (h : StrsAre us ts) : ∀ (i : Nat) (v : Value), us[i]? = some v → ∃ x u, ts[i]? = some x ∧ v = .str x u := by
  induction h with
  | nil => intro i v hv; simp at hv
  | cons y t _ ih =>
    intro i v hv
    cases i with
    | zero => simp at hv; exact ⟨y, t, by simp, hv.symm⟩
    | succ i => simp at hv; simpa using ih i v hv
theorem strs_snoc {us : List Value} {ts : List Str} (h : StrsAre us ts) (x : Str) (u : Tok) : StrsAre (us ++ [.str x u]) (ts ++ [x]) := by
  induction h with
  | nil => exact .cons _ _ .nil
  | cons y t _ ih => exact .cons _ _ ih
theorem piled_mem {ts : List Str} {t : Str} (h : t ∈ ts) : t.length + 2 ≤ piled ts := by
  induction ts with
  | nil => exact nomatch h
  | cons a r ih =>
    rw [piled_cons]
    rcases List.mem_cons.mp h with rfl | h
    · omega
    · have := ih h; omega
theorem join_dict (ts : List Str) : Str.ofString "{" ++ Txt.join (Str.ofString ", ") ts ++ Str.ofString "}" = dictText ts := by
  show Str.ofString "{" ++ Builtin.Str.glued (Str.ofString ", ") ts ++ Str.ofString "}" = _
  rw [StrLaws.glued_eq_join]
  rfl
def KvJ (ts : List Str) (i : Nat) (ys : List Value) : Prop := StrsAre ys (kvTexts 0 (ts.take i))
theorem KvJ.step {ts : List Str} {i : Nat} {ys : List Value} {x : Str} (h : KvJ ts i ys) (hx : ts[i]? = some x) (u : Tok) : KvJ ts (i + 1) (ys ++ [.str (Str.ofString (toString (i : Int)) ++ Str.ofString ": " ++ x) u]) := by
  have hi : i < ts.length := (List.getElem?_eq_some_iff.mp hx).1
  unfold KvJ
  rw [take_snoc hx, kvTexts_snoc, List.length_take, Nat.min_eq_left (Nat.le_of_lt hi), Nat.zero_add]
  exact strs_snoc h _ _
theorem KvJ.all {ts : List Str} {n : Nat} {ys : List Value} (h : KvJ ts n ys) (hn : ts.length ≤ n) : StrsAre ys (kvTexts 0 ts) := by
  unfold KvJ at h
  rwa [List.take_of_length_le hn] at h
theorem turn_text {us : List Value} {ts : List Str} {i : Nat} {v : Value} (hu : StrsAre us ts) (hv : us.toArray[i]? = some v) : ∃ x u, ts[i]? = some x ∧ v = .str x u ∧ x.length + 2 ≤ piled ts ∧ i < us.length := by
  rw [List.getElem?_toArray] at hv
  obtain ⟨x, u, h1, h2⟩ := strs_at hu i v hv
  exact ⟨x, u, h1, h2, piled_mem (List.mem_of_getElem? h1), (List.getElem?_eq_some_iff.mp hv).1⟩
local macro_rules | `(tactic| walk_at "exec If") => `(tactic| refine wpAny_If ?_)
local macro_rules | `(tactic| walk_at "ite") => `(tactic| (k_closed; first | with_reducible refine ite_pos (by k_dflt decide) ?_ | with_reducible refine ite_neg (by k_dflt decide) ?_))
local macro_rules | `(tactic| walk_at "execs cons") => `(tactic| first | (k_here; k_gentoks) | ((with_reducible refine wpAny_execs_cons ?_); try dsimp only))
local macro_rules | `(tactic| units_room) => `(tactic| ktr_units)
local macro_rules | `(tactic| walk_at "call ref") => `(tactic| (k_here; k_dflt (k_extra "mycall")))
local macro_rules | `(tactic| walk_at "subscriptTail Name Slice ref ref") => `(tactic| (k_here; k_dflt (k_extra "myslice")))
local macro_rules | `(tactic| walk_at "call builtin:str.join") => `(tactic| (k_here; k_dflt (k_extra "myjoin")))
local macro_rules | `(tactic| walk_at "call type:enumerate") => `(tactic| (k_here; k_dflt (k_extra "myenum")))
local macro_rules | `(tactic| walk_at "exec Assign cons DictComp") => `(tactic| (k_here; k_dflt (k_extra "mydict")))
local macro_rules | `(tactic| walk_at "eval ListComp") => `(tactic| (k_here; k_dflt (k_extra "mylist")))
theorem allLt_of {a : Addr} {l : List (Addr × Obj)} (h : ∀ p ∈ l, @LT.lt Nat _ p.1 a) : AllLt a l := by
  induction l with
  | nil => trivial
  | cons q r ih => exact ⟨h q (.head _), ih fun p hp => h p (.tail _ hp)⟩
theorem big5 (prog : Program) (w : World) (k : Int) : BigClaim prog w 5 k (fun n => n + 200) := by
  k_with_none
  w_top off
  unfold BigClaim
  intro p loose mean mg mb dp un fa cd outer A₀ base g L m s a1 a2 vs us ts n1 n2 tl fz d since ok os tk vk tw tsi B X T hdp hun F N hk hs hoff hlt hus hsh hfz hsi hvl hdl hpl
  simp only [bigIf, loop1, forBody, lawA, lawEnv, lawCells, lawScope, fnBody, fnScope, lawFn, PySem.Challenge.pw_dw0062_01, List.getD_cons_succ, List.getD_cons_zero]
  have hul : us.length = ts.length := hus.len_eq
  have htl : ts.length = vs.length := hsh.length
  have hdr : (ts.drop since).length ≤ 20 := by rw [List.length_drop]; omega
  have hkl := kvTexts_len (ts.drop since) 0
  have hkp := kvTexts_piled (ts.drop since) 0 (by omega)
  have hps := piled_sum (kvTexts 0 (ts.drop since))
  have hjl := join_len (kvTexts 0 (ts.drop since))
  k_with "myslice" => (
    refine kmk_slice_lit (by k_asm) (by k_asm) (by kmk_list) (by kmk_part) (by kmk_part) (pick_from _ since) ?_ (by with_unfolding_all rfl) (by kmk_pure) (by rw [List.size_toArray, sizeLine_eq]; omega)
    intro D' h' F' N' l1
    (try k_lt l1)
    (try k_sweep))
  k_with "mydict" => (
    refine assign_dictEnum (h₀ := g) (L := L) (by k_asm) (by rfl) (by rfl) (by with_unfolding_all rfl) (by with_unfolding_all rfl) (by decide) (by rfl) (by decide) (by rfl) (by rfl) (by decide) (by decide) (by decide) (by rfl) (by rfl) ?_ (by intro _; rfl))
  k_with "mylist" => (
    refine eval_listEnum (h₀ := g) (L := L) (by k_asm) (by rfl) (by with_unfolding_all rfl) (by decide) (by rfl) (by decide) (by rfl) (by rfl) (by decide) ?_ (by intro _; rfl))
  k_with "myenum" => (
    refine call_enumAt (by k_asm) (by k_asm) (by k_mem) (by exact News.isList (by k_asm) (by k_mem)) (by rw [List.size_toArray, List.length_drop, sizeLine_eq]; omega) ?_
    intro e' it' h1')
  k_with "mycall" => (
    (with_reducible show wpAny _ _ (call (Value.ref 29) _ _) _ _ _)
    refine' fig prog w _ _ p loose mean mg mb _ dp un _ _ _ _ _ outer A₀ base g L _ _ _ _ B (by assumption) X (by assumption) T rfl ?_ (by omega) (by omega) ?_)
  k_steps
  refine ⟨KvJ (ts.drop since), .nil, ?_, ?_⟩
  · intro i v t ys oe oi C oC D m₂ h tk E' hv hJ hoC hx hx2 F' N'
    obtain ⟨x, u, hxt, rfl, hxl, hiu⟩ := turn_text (hus.drop' since) hv
    have hi20 : i < 20 := by rw [List.length_drop] at hiu; omega
    have hpl2 := place_len (i := i) (by omega)
    have hdg : (digs (i : Int).natAbs).length ≤ 100 := Nat.le_trans (digs_len (k := 2) (by omega) (by omega)) (by omega)
    k_steps
    exact PEnd.intro (by assumption) (by assumption) (fun p hp => hp) (hJ.step hxt _)
  · intro D h tk ys F' N' hJ hne hlt
    have hys := hJ.all (by rw [List.size_toArray, List.length_drop, List.length_drop]; omega)
    k_with "myjoin" => (
      refine join_strs (ts := kvTexts 0 (ts.drop since)) (by exact News.isList (by k_asm) (by k_mem)) (by assumption) (by omega) (by decide) ?_
      intro t8 k8)
    k_steps
    (with_reducible rename Fr _ _ _ _ => F9)
    (with_reducible rename News _ _ _ _ => N9)
    rw [join_dict] at F9
    rename ∀ p ∈ _ :: (L + 1, _) :: _, @LT.lt Nat _ p.1 _ => z
    rename Pairs _ _ _ => zp
    have zl : ∀ p ∈ (L + 1, ok) :: (L + 2, os) :: (a1, listOf vs.toArray n1) :: (a2, listOf us.toArray n2) :: tl, _ := fun p hp => z p (.tail _ hp)
    have z1 := zl _ (.head _)
    have z2 := zl _ (.tail _ (.head _))
    have z3 := zl _ (.tail _ (.tail _ (.head _)))
    have z4 := zl _ (.tail _ (.tail _ (.tail _ (.head _))))
    have z5 : AllLt _ tl := allLt_of fun p hp => zl p (.tail _ (.tail _ (.tail _ (.tail _ hp))))
    have hdt : (dictText (kvTexts 0 (ts.drop since))).length ≤ piled (ts.drop since) + 200 := by
      rw [← join_dict, app_len, app_len]
      have e1 : (Str.ofString "{").length = 1 := by decide
      have e2 : (Str.ofString "}").length = 1 := by decide
      omega
    refine big_end F9 (by assumption) hk hs (by rfl) (by rfl) (by rfl) (by rfl) (by rfl) (by rfl) (by k_mem) (by intro p hp; (repeat (first | exact hp | refine List.Mem.tail _ ?_))) ⟨z1, z2, z3, z4⟩ z5 ?_ hdt
    refine shows_dict (by assumption) (by assumption) (shows_kv (hsh.drop since) 0 _ (by rw [List.length_drop]; omega) zp) (fun p hp => Nat.ne_of_lt (allLt_mem z5 p (hfz p hp))) ?_ (by rw [sizeLine_eq]; omega)
    exact beq_eq_false_iff_ne.mpr (fun q => by rw [q] at z1; exact absurd z1 (Nat.not_lt.mpr (Nat.le_add_left 1 L)))
end Mine
namespace Mine
set_option maxRecDepth 100000
set_option maxHeartbeats 8000000
def forTarget : Stmt → Expr
  | .For t _ _ _ _ => t
  | _ => .Name (Str.ofString "") default
def loopX : Expr := forTarget ((fnBody lawFn).getD 1 (.Pass default))
def stA : Stmt := loop1.getD 0 (.Pass default)
def stC : Stmt := loop1.getD 2 (.Pass default)
def stD : Stmt := loop1.getD 3 (.Pass default)
def stE : Stmt := loop1.getD 4 (.Pass default)
theorem loop1_parts : loop1 = [stA, bigIf, stC, stD, stE] := rfl
local macro_rules | `(tactic| walk_at "exec If") => `(tactic| refine wpAny_If ?_)
local macro_rules | `(tactic| walk_at "ite") => `(tactic| (k_closed; first | with_reducible refine ite_pos (by k_dflt decide) ?_ | with_reducible refine ite_neg (by k_dflt decide) ?_))
local macro_rules | `(tactic| walk_at "execs cons") => `(tactic| first | (k_here; k_gentoks) | ((with_reducible refine wpAny_execs_cons ?_); try dsimp only))
local macro_rules | `(tactic| units_room) => `(tactic| ktr_units)
theorem turn_head (prog : Program) (w : World) (p : Program) (loose : List Str) (mean : ExcName → Option Value) (mg mb : Str → Option Value) (dp un : Nat) (fa : Addr) (cd : Value) (outer : List Env) (A₀ : Around) (base g : Heap) (L : Addr) (m : Str → Option Value) (s : Shared)
    (a1 a2 : Addr) (vs us : List Value) (n1 n2 : Nat) (tl : List (Addr × Obj)) (since : Nat) (ok os : Obj) (vk vo : Option Value) (tsi : Tok) (x : Int) (tx : Tok) (rest : List Stmt) (Q : Flow → Shared → Prop)
    (B : Below A₀ base outer g) (X : (hd.heap_39 w.params).In g) (T : Top p loose mean mg mb g) (hdp : dp + 10 < recursionLimit) (hun : un + 2000 < cLine)
    (F : Fr g L s.heap (fun z => if z = Str.ofString "things" then some (.ref a1) else if z = Str.ofString "texts" then some (.ref a2) else if z = Str.ofString "since" then some (.int (since : Int) tsi) else m z))
    (N : News g L s.heap ((L + 1, ok) :: (L + 2, os) :: (a1, listOf vs.toArray n1) :: (a2, listOf us.toArray n2) :: tl))
    (hk : ok.data = .cell vk) (hs : os.data = .cell vo) (hoff : OwnOff tl [L + 1, L + 2, a1, a2]) (hlt : @LT.lt Nat _ (L + 2) a1 ∧ @LT.lt Nat _ a1 a2)
    (hQ : ∀ (h' : Heap) (tk' : Nat) (ok' : Obj) (tk1 tw : Tok) (m' : Str → Option Value), ok'.data = .cell (some (.int (x.fdiv 8) tk1)) → Fr g L h' m' → m' (Str.ofString "what") = some (.int (x.fmod 8) tw) →
      m' (Str.ofString "things") = some (.ref a1) → m' (Str.ofString "texts") = some (.ref a2) → m' (Str.ofString "since") = some (.int (since : Int) tsi) →
      News g L h' ((L + 1, ok') :: (L + 2, os) :: (a1, listOf vs.toArray n1) :: (a2, listOf us.toArray n2) :: tl) →
      wpAny (model prog w) (lawA dp un L fa cd outer) (execs rest (lawEnv L fa cd)) Q (fun _ _ => False) { s with heap := h', toks := tk' }) :
    wpAny (model prog w) (lawA dp un L fa cd outer) (assign loopX (lawEnv L fa cd) (.int x tx)) (fun _ s₂ => wpAny (model prog w) (lawA dp un L fa cd outer) (execs (stA :: rest) (lawEnv L fa cd)) Q (fun _ _ => False) s₂) (fun _ _ => False) s := by
  k_with_none
  w_top off
  revert hQ
  simp only [loopX, stA, forTarget, bigIf, loop1, forBody, lawA, lawEnv, lawCells, lawScope, fnBody, fnScope, lawFn, PySem.Challenge.pw_dw0062_01, List.getD_cons_succ, List.getD_cons_zero]
  intro hQ
  k_steps
  exact hQ _ _ _ _ _ _ (by assumption) (by assumption) (by rfl) (by rfl) (by rfl) (by rfl) (sub (by assumption) (fun p hp => List.mem_cons_of_mem _ hp))

def newSince (r : Int) (n since : Nat) : Nat := if r = 3 ∨ r = 4 ∨ r = 5 then n else since
theorem new_no {r : Int} {n since : Nat} (h : ¬ (r = 3 ∨ r = 4 ∨ r = 5)) : newSince r n since = since := if_neg h
theorem new_yes {r : Int} {n since : Nat} (h : r = 3 ∨ r = 4 ∨ r = 5) : newSince r n since = n := if_pos h
local macro_rules | `(tactic| walk_at "call builtin:len") => `(tactic| (k_here; k_dflt (k_extra "mylen")))
theorem turn_tail (prog : Program) (w : World) (p : Program) (loose : List Str) (mean : ExcName → Option Value) (mg mb : Str → Option Value) (dp un : Nat) (fa : Addr) (cd : Value) (outer : List Env) (A₀ : Around) (base g : Heap) (L : Addr) (m : Str → Option Value) (s : Shared)
    (a1 a2 : Addr) (vs us : List Value) (n1 n2 : Nat) (tl : List (Addr × Obj)) (since : Nat) (ok os : Obj) (vk vo : Option Value) (tsi tw tt : Tok) (r : Int) (v : Value) (t : Str) (Q : Flow → Shared → Prop)
    (B : Below A₀ base outer g) (X : (hd.heap_39 w.params).In g) (T : Top p loose mean mg mb g) (hdp : dp + 10 < recursionLimit) (hun : un + 2000 < cLine)
    (F : Fr g L s.heap m) (m1 : m (Str.ofString "things") = some (.ref a1)) (m2 : m (Str.ofString "texts") = some (.ref a2)) (m3 : m (Str.ofString "since") = some (.int (since : Int) tsi)) (m4 : m (Str.ofString "what") = some (.int r tw))
    (m5 : m (Str.ofString "thing") = some v) (m6 : m (Str.ofString "text") = some (.str t tt))
    (N : News g L s.heap ((L + 1, ok) :: (L + 2, os) :: (a1, listOf vs.toArray n1) :: (a2, listOf us.toArray n2) :: tl))
    (hk : ok.data = .cell vk) (hs : os.data = .cell vo) (hoff : OwnOff tl [L + 1, L + 2, a1, a2]) (hlt : @LT.lt Nat _ (L + 2) a1 ∧ @LT.lt Nat _ a1 a2)
    (hr : 0 ≤ r ∧ r < 8) (hvl : vs.length ≤ 20) (hul : us.length ≤ 20)
    (hQ : ∀ (h' : Heap) (tk' : Nat) (tsi' : Tok) (m' : Str → Option Value) (n1' n2' : Nat), Fr g L h' m' →
      m' (Str.ofString "things") = some (.ref a1) → m' (Str.ofString "texts") = some (.ref a2) → m' (Str.ofString "since") = some (.int (newSince r vs.length since : Int) tsi') →
      News g L h' ((L + 1, ok) :: (L + 2, os) :: (a1, listOf (vs ++ [v]).toArray n1') :: (a2, listOf (us ++ [Value.str t tt]).toArray n2') :: tl) →
      Q .next { s with heap := h', toks := tk' }) :
    wpAny (model prog w) (lawA dp un L fa cd outer) (execs [stC, stD, stE] (lawEnv L fa cd)) Q (fun _ _ => False) s := by
  k_with_none
  w_top off
  replace F := seeL [(Str.ofString "things", _), (Str.ofString "texts", _), (Str.ofString "since", _), (Str.ofString "what", _), (Str.ofString "thing", _), (Str.ofString "text", _)] F
    (List.forall_mem_cons.mpr ⟨m1, List.forall_mem_cons.mpr ⟨m2, List.forall_mem_cons.mpr ⟨m3, List.forall_mem_cons.mpr ⟨m4, List.forall_mem_cons.mpr ⟨m5, List.forall_mem_cons.mpr ⟨m6, List.forall_mem_nil _⟩⟩⟩⟩⟩⟩)
  dsimp only [kstB] at F
  clear m1 m2 m3 m4 m5 m6
  simp only [stC, stD, stE, bigIf, loop1, forBody, lawA, lawEnv, lawCells, lawScope, fnBody, fnScope, lawFn, PySem.Challenge.pw_dw0062_01, List.getD_cons_succ, List.getD_cons_zero]
  have hr8 : r = 0 ∨ r = 1 ∨ r = 2 ∨ r = 3 ∨ r = 4 ∨ r = 5 ∨ r = 6 ∨ r = 7 := by omega
  clear hr
  rcases hr8 with rfl | rfl | rfl | rfl | rfl | rfl | rfl | rfl
  all_goals first | rw [new_no (by decide)] at hQ | rw [new_yes (by decide)] at hQ
  k_with "mylen" => (refine PyProof.Rows.len_list (by exact News.isList (by k_asm) (by k_mem)) (by rw [List.size_toArray]; omega) ?_)
  all_goals k_steps
  all_goals
    (with_reducible rename News _ _ _ _ => N')
    simp only [List.push_toArray] at N'
    exact hQ _ _ _ _ _ _ (by assumption) (by rfl) (by rfl) (by rfl) (sub N' (by intro p hp; (repeat (first | exact hp | refine List.Mem.tail _ ?_))))
end Mine
namespace Mine
/-- what holds at the head of the turn i of law's first loop -/
def LawJ (prog : Program) (w : World) (L : Addr) (i : Nat) (m : Str → Option Value) (led : List (Addr × Obj)) : Prop :=
  ∃ a1 a2 vs us ts n1 n2 fz since ok os vk vo tsi, led = (L + 1, ok) :: (L + 2, os) :: (a1, listOf (List.toArray vs) n1) :: (a2, listOf (List.toArray us) n2) :: fz ∧ ok.data = .cell vk ∧ os.data = .cell vo ∧
    m (Str.ofString "things") = some (.ref a1) ∧ m (Str.ofString "texts") = some (.ref a2) ∧ m (Str.ofString "since") = some (.int ((since : Nat) : Int) tsi) ∧
    StrsAre us ts ∧ ShowsAll prog w fz i vs ts ∧ vs.length = i ∧ since ≤ i ∧ piled (ts.drop since) ≤ 406 * i ∧ (∀ t ∈ ts, t.length ≤ 10000) ∧ OwnOff fz [L + 1, L + 2, a1, a2] ∧ (@LT.lt Nat _ (L + 2) a1 ∧ @LT.lt Nat _ a1 a2)
theorem offAppend {a b : List (Addr × Obj)} {as : List Addr} (h1 : OwnOff a as) (h2 : OwnOff b as) : OwnOff (a ++ b) as := fun p hp c hc => (List.mem_append.mp hp).elim (fun hp => h1 p hp c hc) fun hp => h2 p hp c hc
theorem law_turn (prog : Program) (w : World) (p : Program) (loose : List Str) (mean : ExcName → Option Value) (mg mb : Str → Option Value) (dp un : Nat) (fa : Addr) (cd : Value) (outer : List Env) (A₀ : Around) (base g : Heap) (L : Addr)
    (B : Below A₀ base outer g) (X : (hd.heap_39 w.params).In g) (T : Top p loose mean mg mb g) (hdp : dp + 10 < recursionLimit) (hun : un + 2000 < cLine)
    (s : Shared) (fp : List Addr) (Q : Flow → Shared → Prop) (i : Nat) (x : Int) (tx : Tok) (m : Str → Option Value) (led own : List (Addr × Obj)) (h : Heap) (tk : Nat) (hi : i < 20)
    (hJ : LawJ prog w L i m led) (F : Fr g L h m) (N : News g L h (led ++ own)) (hown : own.map (·.1) = fp) (hoff : ∀ p ∈ led, p.1 ∉ fp) :
    wpAny (model prog w) (lawA dp un L fa cd outer) (assign loopX (lawEnv L fa cd) (.int x tx)) (fun _ s₂ => wpAny (model prog w) (lawA dp un L fa cd outer) (execs loop1 (lawEnv L fa cd)) (Turned g L fp (LawJ prog w L (i + 1)) own s Q) (fun _ _ => False) s₂)
      (fun _ _ => False) { s with heap := h, toks := tk } := by
  obtain ⟨a1, a2, vs, us, ts, n1, n2, fz, since, ok, os, vk, vo, tsi, rfl, hk, ho, m1, m2, m3, hus, hsh, hvl, hsi, hpl, htl, hfo, hlt⟩ := hJ
  have hown' : ∀ p ∈ own, p.1 ∈ fp := fun p hp => hown ▸ List.mem_map_of_mem hp
  have hoo : OwnOff own [L + 1, L + 2, a1, a2] := by
    intro p hp b hb e
    have q := hown' p hp
    rw [e] at q
    simp only [List.mem_cons, List.not_mem_nil, or_false] at hb
    rcases hb with rfl | rfl | rfl | rfl
    · exact hoff _ (.head _) q
    · exact hoff _ (.tail _ (.head _)) q
    · exact hoff _ (.tail _ (.tail _ (.head _))) q
    · exact hoff _ (.tail _ (.tail _ (.tail _ (.head _)))) q
  have hto : OwnOff (fz ++ own) [L + 1, L + 2, a1, a2] := offAppend hfo hoo
  have hul : us.length = ts.length := hus.len_eq
  have hts : ts.length = vs.length := hsh.length
  replace F := seeL [(Str.ofString "things", _), (Str.ofString "texts", _), (Str.ofString "since", _)] F (List.forall_mem_cons.mpr ⟨m1, List.forall_mem_cons.mpr ⟨m2, List.forall_mem_cons.mpr ⟨m3, List.forall_mem_nil _⟩⟩⟩)
  dsimp only [kstB] at F
  rw [loop1_parts]
  refine turn_head prog w p loose mean mg mb dp un fa cd outer A₀ base g L m _ a1 a2 vs us n1 n2 (fz ++ own) since ok os vk vo tsi x tx _ _ B X T hdp hun F N hk ho hto hlt ?_
  intro h1 tk1 ok1 u1 tw1 k1 hk1 F1 w1 w2 w3 w4 N1
  have hr : 0 ≤ x.fmod 8 ∧ x.fmod 8 < 8 := ⟨Int.fmod_nonneg_of_pos _ (by omega), Int.fmod_lt_of_pos _ (by omega)⟩
  generalize x.fmod 8 = r at hr w1
  generalize x.fdiv 8 = k at hk1
  have hr8 : r = 0 ∨ r = 1 ∨ r = 2 ∨ r = 3 ∨ r = 4 ∨ r = 5 ∨ r = 6 ∨ r = 7 := by omega
  replace F1 := seeL [(Str.ofString "what", _), (Str.ofString "things", _), (Str.ofString "texts", _), (Str.ofString "since", _)] F1 (List.forall_mem_cons.mpr ⟨w1, List.forall_mem_cons.mpr ⟨w2, List.forall_mem_cons.mpr ⟨w3, List.forall_mem_cons.mpr ⟨w4, List.forall_mem_nil _⟩⟩⟩⟩)
  dsimp only [kstB] at F1
  have hfm : ∀ p ∈ fz, p ∈ fz ++ own := fun p hp => List.mem_append_left _ hp
  refine cut (g := g) (L := L) (BigRel prog w L a1 a2 (listOf vs.toArray n1) (listOf us.toArray n2) (fz ++ own) fz i since r (if r = 3 ∨ r = 4 ∨ r = 5 then piled (ts.drop since) + 200 else 404)) ?_ ?_
  · rcases hr8 with rfl | rfl | rfl | rfl | rfl | rfl | rfl | rfl
    · exact big0 prog w k p loose mean mg mb dp un fa cd outer A₀ base g L _ _ a1 a2 vs us ts n1 n2 _ fz i since ok1 os u1 vo tw1 tsi B X T hdp hun F1 N1 hk1 ho hto hlt hus hsh hfm (by omega) (by omega) (by omega) (by omega)
    · exact big1 prog w k p loose mean mg mb dp un fa cd outer A₀ base g L _ _ a1 a2 vs us ts n1 n2 _ fz i since ok1 os u1 vo tw1 tsi B X T hdp hun F1 N1 hk1 ho hto hlt hus hsh hfm (by omega) (by omega) (by omega) (by omega)
    · exact big2 prog w k p loose mean mg mb dp un fa cd outer A₀ base g L _ _ a1 a2 vs us ts n1 n2 _ fz i since ok1 os u1 vo tw1 tsi B X T hdp hun F1 N1 hk1 ho hto hlt hus hsh hfm (by omega) (by omega) (by omega) (by omega)
    · exact big3 prog w k p loose mean mg mb dp un fa cd outer A₀ base g L _ _ a1 a2 vs us ts n1 n2 _ fz i since ok1 os u1 vo tw1 tsi B X T hdp hun F1 N1 hk1 ho hto hlt hus hsh hfm (by omega) (by omega) (by omega) (by omega)
    · exact big4 prog w k p loose mean mg mb dp un fa cd outer A₀ base g L _ _ a1 a2 vs us ts n1 n2 _ fz i since ok1 os u1 vo tw1 tsi B X T hdp hun F1 N1 hk1 ho hto hlt hus hsh hfm (by omega) (by omega) (by omega) (by omega)
    · exact big5 prog w k p loose mean mg mb dp un fa cd outer A₀ base g L _ _ a1 a2 vs us ts n1 n2 _ fz i since ok1 os u1 vo tw1 tsi B X T hdp hun F1 N1 hk1 ho hto hlt hus hsh hfm (by omega) (by omega) (by omega) (by omega)
    · exact big6 prog w k p loose mean mg mb dp un fa cd outer A₀ base g L _ _ a1 a2 vs us ts n1 n2 _ fz i since ok1 os u1 vo tw1 tsi B X T hdp hun F1 N1 hk1 ho hto hlt hus hsh hfm (by omega) (by omega) (by omega) (by omega)
    · exact big7 prog w k p loose mean mg mb dp un fa cd outer A₀ base g L _ _ a1 a2 vs us ts n1 n2 _ fz i since ok1 os u1 vo tw1 tsi B X T hdp hun F1 N1 hk1 ho hto hlt hus hsh hfm (by omega) (by omega) (by omega) (by omega)
  · rintro m2' led2 h2 tk2 F2 N2 ⟨v, t, tt, nw, ok2, os2, vk2, vo2, tw2, ts2, rfl, hk2, ho2, hn1, hn2, g1, g2, g3, g4, g5, g6, S, hb⟩
    refine turn_tail prog w p loose mean mg mb dp un fa cd outer A₀ base g L m2' _ a1 a2 vs us n1 n2 (nw ++ (fz ++ own)) since ok2 os2 vk2 vo2 ts2 tw2 tt r v t _ B X T hdp hun F2 g1 g2 g3 g4 g5 g6 N2 hk2 ho2 (offAppend hn1 hto) hlt hr (by omega) (by omega) ?_
    intro h3 tk3 u3 m3' c1 c2 F3 q1 q2 q3 N3
    have hnf : OwnOff nw fp := by
      intro p hp b hb e
      rw [← hown] at hb
      exact hn2 p hp b (by rw [List.map_append]; exact List.mem_append_right _ hb) e
    have hb' : t.length ≤ 406 * i + 404 := by
      split at hb <;> omega
    refine Turned.next F3 N3 (led' := (L + 1, ok2) :: (L + 2, os2) :: (a1, listOf (vs ++ [v]).toArray c1) :: (a2, listOf (us ++ [Value.str t tt]).toArray c2) :: (nw ++ fz)) ?_ ?_ ?_ ?_
    · intro p hp
      rcases List.mem_cons.mp hp with rfl | hp
      · exact .head _
      rcases List.mem_cons.mp hp with rfl | hp
      · exact .tail _ (.head _)
      rcases List.mem_cons.mp hp with rfl | hp
      · exact .tail _ (.tail _ (.head _))
      rcases List.mem_cons.mp hp with rfl | hp
      · exact .tail _ (.tail _ (.tail _ (.head _)))
      · exact .tail _ (.tail _ (.tail _ (.tail _ ((List.mem_append.mp hp).elim (fun hp => List.mem_append_left _ hp) fun hp => List.mem_append_right _ (List.mem_append_left _ hp)))))
    · intro p hp
      exact .tail _ (.tail _ (.tail _ (.tail _ (List.mem_append_right _ (List.mem_append_right _ hp)))))
    · intro p hp
      rcases List.mem_cons.mp hp with rfl | hp
      · exact hoff (L + 1, ok) (.head _)
      rcases List.mem_cons.mp hp with rfl | hp
      · exact hoff (L + 2, os) (.tail _ (.head _))
      rcases List.mem_cons.mp hp with rfl | hp
      · exact hoff (a1, listOf vs.toArray n1) (.tail _ (.tail _ (.head _)))
      rcases List.mem_cons.mp hp with rfl | hp
      · exact hoff (a2, listOf us.toArray n2) (.tail _ (.tail _ (.tail _ (.head _))))
      · rcases List.mem_append.mp hp with hp | hp
        · exact fun q => hnf p hp _ q rfl
        · exact hoff _ (.tail _ (.tail _ (.tail _ (.tail _ hp))))
    · refine ⟨a1, a2, vs ++ [v], us ++ [Value.str t tt], ts ++ [t], c1, c2, nw ++ fz, newSince r vs.length since, ok2, os2, vk2, vo2, u3, rfl, hk2, ho2, q1, q2, q3, strs_snoc hus t tt, (hsh.mono (fun p hp => List.mem_append_right _ hp) (Nat.le_succ _)).snoc S, ?_, ?_, ?_, ?_, offAppend hn1 hfo, hlt⟩
      · rw [List.length_append, List.length_singleton, hvl]
      · unfold newSince
        split <;> omega
      · unfold newSince
        split
        · rename_i hc
          rw [if_pos hc] at hb
          rw [List.drop_append_of_le_length (by omega), List.drop_of_length_le (by omega), List.nil_append, piled_cons, piled_nil]
          omega
        · rename_i hc
          rw [if_neg hc] at hb
          rw [List.drop_append_of_le_length (by omega)]
          have e : ∀ l : List Str, piled (l ++ [t]) = piled l + (t.length + 2) := by
            intro l
            induction l with
            | nil => simp [piled]
            | cons a r ih => rw [List.cons_append, piled_cons, piled_cons, ih]; omega
          rw [e]
          omega
      · intro u hu
        rcases List.mem_append.mp hu with hu | hu
        · exact htl u hu
        · rw [List.mem_singleton.mp hu]; omega
end Mine
namespace Mine
set_option maxRecDepth 100000
set_option maxHeartbeats 8000000
local macro_rules | `(tactic| walk_at "exec If") => `(tactic| refine wpAny_If ?_)
local macro_rules | `(tactic| walk_at "execs cons") => `(tactic| first | (k_here; k_gentoks) | ((with_reducible refine wpAny_execs_cons ?_); try dsimp only))
local macro_rules | `(tactic| units_room) => `(tactic| ktr_units)
local macro_rules | `(tactic| walk_at "call ref") => `(tactic| (k_here; k_dflt (k_extra "mycall")))
theorem due_no (t : Str) : (t != t) = false := by simp
theorem due_lt {t : Str} (h : (t.length : Int) < 80) : (due t != t) = false := by unfold due; rw [if_pos h]; simp
theorem due_ge {t : Str} (h : ¬ (t.length : Int) < 80) : (due t != Txt.slice t none (some 80) ++ Str.ofString " [truncated]...") = false := by unfold due; rw [if_neg h]; simp
theorem two_turn (prog : Program) (w : World) (p : Program) (loose : List Str) (mean : ExcName → Option Value) (mg mb : Str → Option Value) (dp un : Nat) (fa : Addr) (cd : Value) (outer : List Env) (A₀ : Around) (base g : Heap) (L : Addr) (m : Str → Option Value) (s : Shared)
    (news fz : List (Addr × Obj)) (d : Nat) (v : Value) (t : Str) (u : Tok) (Q : Flow → Shared → Prop) (E : Value → Shared → Prop)
    (B : Below A₀ base outer g) (X : (hd.heap_39 w.params).In g) (T : Top p loose mean mg mb g) (hdp : dp + 10 < recursionLimit) (hun : un + 2000 < cLine)
    (F : Fr g L s.heap (fun z => if z = Str.ofString "text" then some (.str t u) else if z = Str.ofString "thing" then some v else m z))
    (N : News g L s.heap news) (hfz : ∀ p ∈ fz, p ∈ news) (S : Shows prog w fz d v t) (hdl : d ≤ 500) (htl : t.length ≤ 100000)
    (hQ : ∀ (h' : Heap) (tk' : Nat) (m' : Str → Option Value), Fr g L h' m' → News g L h' news → Q .next { s with heap := h', toks := tk' }) :
    wpAny (model prog w) (lawA dp un L fa cd outer) (execs loop2 (lawEnv L fa cd)) Q E s := by
  k_with_none
  w_top off
  simp only [loop2, forBody, lawA, lawEnv, lawCells, lawScope, fnBody, fnScope, lawFn, PySem.Challenge.pw_dw0062_01, List.getD_cons_succ, List.getD_cons_zero]
  k_with "mycall" => (
    first
    | ((with_reducible show wpAny _ _ (call (Value.ref 22) [_] []) _ _ _)
       refine' safe1 prog w _ _ fz d S hdl (by omega) p loose mean mg mb _ dp un _ _ _ _ _ outer A₀ base g L _ _ _ _ B (by assumption) X (by assumption) T rfl (by exact hfz) (by omega) (by omega) ?_)
    | ((with_reducible show wpAny _ _ (call (Value.ref 22) [_, _] []) _ _ _)
       refine' safe2 prog w _ _ fz d S hdl (by omega) p loose mean mg mb _ dp un _ _ _ _ _ outer A₀ base g L _ _ _ _ B (by assumption) X (by assumption) T rfl (by exact hfz) (by omega) (by omega) ?_)
    | ((with_unfolding_all show wpAny _ _ (call (Value.ref 22) [_] [(Str.ofString "short", Value.bool true)]) _ _ _)
       refine' safe3 prog w _ _ fz d S hdl (by omega) p loose mean mg mb _ dp un _ _ _ _ _ outer A₀ base g L _ _ _ _ B (by assumption) X (by assumption) T rfl (by exact hfz) (by omega) (by omega) ?_))
  k_steps
  · rename (t != t) = true => z
    rw [due_no] at z
    exact absurd z (by decide)
  · rename (due t != t) = true => z
    rename (t.length : Int) < 80 => z1
    rw [due_lt z1] at z
    exact absurd z (by decide)
  · exact hQ _ _ _ (by assumption) (by assumption)
  · rename (due t != _) = true => z
    rename ¬ (t.length : Int) < 80 => z1
    rw [due_ge z1] at z
    exact absurd z (by decide)
  · exact hQ _ _ _ (by assumption) (by assumption)
end Mine
namespace Mine
section
variable {prog : Program} {w : World} {A : Around} {s : Shared} {env : Env} {g : Heap} {Q : Flow → Shared → Prop} {m : Str → Option Value} {led : List (Addr × Obj)}
theorem zip_run {xi xc : Str} {pk pv pt : Pos} {x1 : Nat} {body : List Stmt} {a1 a2 : Addr} {o1 o2 : Obj} {xs ys : Array Value} (hh : A.handled = none)
    (hxi : env.kindOf xi = some .local) (hxc : env.kindOf xc = some .local)
    (hp : (env.scope.kind == .class || (env.scope.kind == .module && env.locals != env.globals)) = false)
    (F : Fr g env.locals s.heap m) (N : News g env.locals s.heap led) (hm1 : (a1, o1) ∈ led) (hm2 : (a2, o2) ∈ led) (hl1 : s.heap.IsList a1 xs) (hl2 : s.heap.IsList a2 ys)
    (step : ∀ (i : Nat) (v0 v1 : Value) (m₁ : Str → Option Value) (s₁ : Shared) (own : List (Addr × Obj)) (Q' : Flow → Shared → Prop) (E' : Value → Shared → Prop), xs[i]? = some v0 → ys[i]? = some v1 → Fr g env.locals s₁.heap (fun y => if y = xc then some v1 else if y = xi then some v0 else m₁ y) → News g env.locals s₁.heap (own ++ led) →
      (∀ h' tk' m', Fr g env.locals h' m' → News g env.locals h' (own ++ led) → Q' Flow.next { s₁ with heap := h', toks := tk' }) → wpAny (model prog w) A (execs body env) Q' E' s₁)
    (done : ∀ h' tk' m', Fr g env.locals h' m' → News g env.locals h' led → Q .next { s with heap := h', toks := tk' }) :
    wpAny (model prog w) A (call (.type "zip") [.ref a1, .ref a2]) (fun xv s₁ => wpAny (model prog w) A (pyIter xv) (fun it s₂ =>
      codeAny (model prog w) A (.forLoop (.Tuple [.Name xi pk, .Name xc pv] x1 pt) it body [] env) (fun r s' => match r with | .ok f => Q f s' | .error e => cameBackBy (model prog w) A env (fun _ _ => False) e s') s₂) (fun _ _ => False) s₁) (fun _ _ => False) s := by
  have lt : ∀ {b o}, s.heap.get? b = some o → b < s.heap.objs.size := fun q => Heap.lt_size q
  have ltN : ∀ p ∈ led, p.1 < s.heap.objs.size := fun p hp => lt (N p hp).1
  have h1 : a1 < s.heap.objs.size := ltN _ hm1
  have h2 : a2 < s.heap.objs.size := ltN _ hm2
  have hLlt : env.locals < s.heap.objs.size := F.ns.lt
  have fresh₀ : ∀ a, s.heap.objs.size ≤ a → g.get? a = none := fun a ha => by
    cases q : g.get? a with
    | none => rfl
    | some o' => exact absurd (lt (F.keep a o' q)) (Nat.not_lt.mpr ha)
  refine call_zip_2 hl1 hl2 fun h' hz hp1 hp0 hi1 hi2 hsz hk => ?_
  refine wpAny_pyIter_zip hz ?_
  generalize hn : s.heap.objs.size = n at *
  have ne : ∀ {a : Addr} (k : Nat), a < n → a ≠ n + k := fun k h => Nat.ne_of_lt (Nat.lt_of_lt_of_le h (Nat.le_add_right _ _))
  have nn : ∀ (j k : Nat), j ≠ k → n + j ≠ n + k := fun j k h q => h (Nat.add_left_cancel q)
  have D : ZipApart (n + 4) (n + 2) (n + 3) n (n + 1) a1 a2 :=
    ⟨nn 2 4 (by decide), nn 3 4 (by decide), nn 0 4 (by decide), nn 1 4 (by decide), nn 2 3 (by decide), nn 2 0 (by decide), nn 2 1 (by decide), nn 3 0 (by decide), nn 3 1 (by decide), nn 0 1 (by decide),
      ne 4 h1, ne 3 h1, ne 0 h1, ne 1 h1, ne 4 h2, ne 3 h2, ne 0 h2, ne 1 h2⟩
  have wrN : ∀ a : Addr, a < n → a ∉ [n + 4, n + 3, n, n + 1] := fun a ha q => by
    simp only [List.mem_cons, List.not_mem_nil, or_false] at q
    rcases q with q | q | q | q
    · exact ne 4 ha q
    · exact ne 3 ha q
    · exact ne 0 ha q
    · exact ne 1 ha q
  refine codeAny_forLoop_frT (R := fun r s' => match r with | .ok f => Q f s' | .error e => cameBackBy (model prog w) A env (fun _ _ => False) e s') (P2 := fun i v0 v1 => xs[i]? = some v0 ∧ ys[i]? = some v1) (m := m) (news := led) hh (WalksT.zip2 hh _ _ _ _ _ _ _ D xs ys)
    (fun i vals ⟨x, y, hx, hy, e⟩ => ⟨x, y, e, hx, hy⟩) hxi hxc hp ?_ ?_ ?_ ?_ (F.keeps hk) (N.grown hk) (fun _ _ news' => news' = led) rfl ?_ ?_
  · intro q
    simp only [List.mem_cons, List.not_mem_nil, or_false] at q
    rcases q with q | q | q | q | q | q | q
    · exact ne 4 hLlt q
    · exact ne 2 hLlt q
    · exact ne 3 hLlt q
    · exact ne 0 hLlt q
    · exact ne 1 hLlt q
    · exact (N _ hm1).2.1 q.symm
    · exact (N _ hm2).2.1 q.symm
  · intro b hb
    simp only [List.mem_cons, List.not_mem_nil, or_false] at hb
    rcases hb with rfl | rfl | rfl | rfl
    · exact fresh₀ _ (Nat.le_add_right _ _)
    · exact fresh₀ _ (Nat.le_add_right _ _)
    · exact fresh₀ _ (Nat.le_refl _)
    · exact fresh₀ _ (Nat.le_add_right _ _)
  · intro p hp
    exact wrN _ (ltN p hp)
  · exact ⟨hz, hp1, ⟨_, _, hp0⟩, hi1, hi2, hl1.at fun o q => hk _ o q, hl2.at fun o q => hk _ o q⟩
  · rintro i v0 v1 m₁ news₁ s₁ own _ _ ⟨hx, hy⟩ rfl _ _ F₁ N₁
    refine step i v0 v1 m₁ s₁ own _ _ hx hy F₁ N₁ ?_
    intro h₂ tk₂ m₂ F₂ N₂
    exact ⟨rfl, h₂, tk₂, m₂, _, rfl, F₂, N₂, rfl, rfl⟩
  · rintro h₂ tk₂ m₂ news₂ F₂ N₂ _ rfl
    exact done h₂ tk₂ m₂ F₂ N₂
end
end Mine
namespace Mine
set_option maxRecDepth 100000
set_option maxHeartbeats 8000000
def forIter : Stmt → Expr
  | .For _ i _ _ _ => i
  | _ => .Name (Str.ofString "") default
def st1 : Stmt := (fnBody lawFn).getD 1 (.Pass default)
def st2 : Stmt := (fnBody lawFn).getD 2 (.Pass default)
def iter1 : Expr := forIter st1
def iter2 : Expr := forIter st2
local macro_rules | `(tactic| units_room) => `(tactic| ktr_units)
local macro_rules | `(tactic| walk_at "call type:zip") => `(tactic| (k_here; k_dflt (k_extra "myzip")))
theorem zip_eval (prog : Program) (w : World) (p : Program) (loose : List Str) (mean : ExcName → Option Value) (mg mb : Str → Option Value) (dp un : Nat) (fa : Addr) (cd : Value) (outer : List Env) (A₀ : Around) (base g : Heap) (L : Addr) (m : Str → Option Value) (s : Shared)
    (a1 a2 : Addr) (led : List (Addr × Obj)) (P : Value → Shared → Prop) (E : Value → Shared → Prop)
    (B : Below A₀ base outer g) (X : (hd.heap_39 w.params).In g) (T : Top p loose mean mg mb g) (hdp : dp + 10 < recursionLimit) (hun : un + 2000 < cLine)
    (F : Fr g L s.heap (fun z => if z = Str.ofString "things" then some (.ref a1) else if z = Str.ofString "texts" then some (.ref a2) else m z))
    (N : News g L s.heap led)
    (hz : ∀ h tk, Fr g L h (fun z => if z = Str.ofString "things" then some (.ref a1) else if z = Str.ofString "texts" then some (.ref a2) else m z) → News g L h led →
      wpAny (model prog w) (lawA dp un L fa cd outer) (call (.type "zip") [.ref a1, .ref a2]) P E { s with heap := h, toks := tk }) :
    wpAny (model prog w) (lawA dp un L fa cd outer) (eval iter2 (lawEnv L fa cd)) P E s := by
  k_with_none
  w_top off
  revert hz
  simp only [iter2, st2, forIter, lawA, lawEnv, lawCells, lawScope, fnBody, fnScope, lawFn, PySem.Challenge.pw_dw0062_01, List.getD_cons_succ, List.getD_cons_zero]
  intro hz
  k_with "myzip" => (exact hz _ _ (by k_asm) (by k_asm))
  k_steps

local macro_rules | `(tactic| walk_at "ite") => `(tactic| (k_closed; first | with_reducible refine ite_pos (by k_dflt decide) ?_ | with_reducible refine ite_neg (by k_dflt decide) ?_))
theorem ints_len {us : List Value} {ns : List Int} (h : IntsAre us ns) : us.length = ns.length := by
  induction h with
  | nil => rfl
  | cons y t _ ih => rw [List.length_cons, List.length_cons, ih]
theorem iter1_eval (prog : Program) (w : World) (p : Program) (loose : List Str) (mean : ExcName → Option Value) (mg mb : Str → Option Value) (dp un : Nat) (fa : Addr) (cd : Value) (outer : List Env) (A₀ : Around) (base g : Heap) (L : Addr) (m : Str → Option Value) (s : Shared)
    (l : Addr) (vs : List Value) (ns : List Int) (led : List (Addr × Obj)) (P : Value → Shared → Prop) (E : Value → Shared → Prop)
    (B : Below A₀ base outer g) (X : (hd.heap_39 w.params).In g) (T : Top p loose mean mg mb g) (hdp : dp + 10 < recursionLimit) (hun : un + 2000 < cLine)
    (F : Fr g L s.heap (fun z => if z = Str.ofString "script" then some (.ref l) else m z))
    (N : News g L s.heap led) (hL : g.IsList l vs.toArray) (hI : IntsAre vs ns) (hn : ¬ 63 < ns.length)
    (hP : ∀ (l' : Addr) (ol : Obj) (vs' : List Value) (ns' : List Int) (h : Heap) (tk : Nat), Fr g L h (fun z => if z = Str.ofString "script" then some (.ref l) else m z) → News g L h ((l', ol) :: led) → h.IsList l' vs'.toArray →
      IntsAre vs' ns' → vs'.length ≤ 20 → (∀ p ∈ led, p.1 ≠ l') → P (.ref l') { s with heap := h, toks := tk }) :
    wpAny (model prog w) (lawA dp un L fa cd outer) (eval iter1 (lawEnv L fa cd)) P E s := by
  k_with_none
  w_top off
  revert hP
  simp only [iter1, st1, forIter, lawA, lawEnv, lawCells, lawScope, fnBody, fnScope, lawFn, PySem.Challenge.pw_dw0062_01, List.getD_cons_succ, List.getD_cons_zero]
  intro hP
  k_steps
  · (with_reducible rename News _ _ _ _ => N9)
    rename IntsAre _ (List.take 20 ns) => hI9
    rename ∀ p ∈ led, _ => hlt9
    exact hP _ _ _ _ _ _ (by assumption) N9 (News.isList N9 (.head _)) hI9 (by rw [ints_len hI9, List.length_take]; omega) (fun p hp => Nat.ne_of_lt (hlt9 p hp))
  · (with_reducible rename News _ _ _ _ => N9)
    rename ∀ p ∈ led, _ => hlt9
    exact hP _ _ [.int 6 _] [6] _ _ (by assumption) N9 (News.isList N9 (.head _)) (.cons _ _ .nil) (Nat.le_of_ble_eq_true rfl) (fun p hp => Nat.ne_of_lt (hlt9 p hp))
theorem ints_at {us : List Value} {ns : List Int} (h : IntsAre us ns) : ∀ (i : Nat) (v : Value), us[i]? = some v → ∃ x u, v = .int x u := by
  induction h with
  | nil => intro i v hv; simp at hv
  | cons y t _ ih =>
    intro i v hv
    cases i with
    | zero => simp at hv; exact ⟨y, t, hv.symm⟩
    | succ i => simp at hv; exact ih i v hv
theorem one_run (prog : Program) (w : World) (p : Program) (loose : List Str) (mean : ExcName → Option Value) (mg mb : Str → Option Value) (dp un : Nat) (fa : Addr) (cd : Value) (outer : List Env) (A₀ : Around) (base g : Heap) (L : Addr) (m : Str → Option Value) (s : Shared)
    (l : Addr) (vs : List Value) (ns : List Int) (led : List (Addr × Obj)) (Q : Flow → Shared → Prop)
    (B : Below A₀ base outer g) (X : (hd.heap_39 w.params).In g) (T : Top p loose mean mg mb g) (hdp : dp + 10 < recursionLimit) (hun : un + 2000 < cLine)
    (F : Fr g L s.heap (fun z => if z = Str.ofString "script" then some (.ref l) else m z))
    (N : News g L s.heap led) (hL : g.IsList l vs.toArray) (hI : IntsAre vs ns) (hn : ¬ 63 < ns.length)
    (hJ : LawJ prog w L 0 (fun z => if z = Str.ofString "script" then some (.ref l) else m z) led)
    (done : ∀ (i : Nat) (m₁ : Str → Option Value) (led₁ : List (Addr × Obj)) (h : Heap) (tk : Nat), i ≤ 20 → LawJ prog w L i m₁ led₁ → Fr g L h m₁ → News g L h led₁ → Q .next { s with heap := h, toks := tk }) :
    wpAny (model prog w) (lawA dp un L fa cd outer) (exec st1 (lawEnv L fa cd)) Q (fun _ _ => False) s := by
  show wpAny _ _ (exec (.For loopX iter1 loop1 [] _) _) _ _ _
  refine wpAny_For ?_ (by intro _; rfl)
  refine iter1_eval prog w p loose mean mg mb dp un fa cd outer A₀ base g L m s l vs ns led _ _ B X T hdp hun F N hL hI hn ?_
  intro l' ol vs' ns' h tk F' N' hL' hI' hle hne
  refine for_list (env := lawEnv L fa cd) (fun _ _ => rfl) rfl (LawJ prog w L) F' N' hL' hne hJ ?_ ?_
  · intro i v m₁ led₁ h₁ tk₁ own hv hJ₁ F₁ N₁ hown hoff
    rw [List.getElem?_toArray] at hv
    obtain ⟨x, u, rfl⟩ := ints_at hI' i v hv
    have hi : i < vs'.length := (List.getElem?_eq_some_iff.mp hv).1
    exact law_turn prog w p loose mean mg mb dp un fa cd outer A₀ base g L B X T hdp hun _ _ Q i x u m₁ led₁ own h₁ tk₁ (by omega) hJ₁ F₁ N₁ hown hoff
  · intro m₁ led₁ h₁ tk₁ hJ₁ F₁ N₁
    exact done vs'.length m₁ led₁ h₁ tk₁ hle hJ₁ F₁ N₁
theorem two_run (prog : Program) (w : World) (p : Program) (loose : List Str) (mean : ExcName → Option Value) (mg mb : Str → Option Value) (dp un : Nat) (fa : Addr) (cd : Value) (outer : List Env) (A₀ : Around) (base g : Heap) (L : Addr) (m : Str → Option Value) (s : Shared)
    (i : Nat) (hi : i ≤ 20) (led : List (Addr × Obj)) (Q : Flow → Shared → Prop)
    (B : Below A₀ base outer g) (X : (hd.heap_39 w.params).In g) (T : Top p loose mean mg mb g) (hdp : dp + 10 < recursionLimit) (hun : un + 2000 < cLine)
    (F : Fr g L s.heap m) (N : News g L s.heap led) (hJ : LawJ prog w L i m led)
    (done : ∀ (m₁ : Str → Option Value) (h : Heap) (tk : Nat), Fr g L h m₁ → News g L h led → Q .next { s with heap := h, toks := tk }) :
    wpAny (model prog w) (lawA dp un L fa cd outer) (exec st2 (lawEnv L fa cd)) Q (fun _ _ => False) s := by
  obtain ⟨a1, a2, vs, us, ts, n1, n2, fz, since, ok, os, vk, vo, tsi, rfl, hk, ho, m1, m2, m3, hus, hsh, hvl, hsi, hpl, htl, hfo, hlt⟩ := hJ
  replace F := seeL [(Str.ofString "things", _), (Str.ofString "texts", _)] F (List.forall_mem_cons.mpr ⟨m1, List.forall_mem_cons.mpr ⟨m2, List.forall_mem_nil _⟩⟩)
  dsimp only [kstB] at F
  show wpAny _ _ (exec (.For (.Tuple [.Name (Str.ofString "thing") _, .Name (Str.ofString "text") _] _ _) iter2 loop2 [] _) _) _ _ _
  refine wpAny_For ?_ (by intro _; rfl)
  refine zip_eval prog w p loose mean mg mb dp un fa cd outer A₀ base g L m s a1 a2 _ _ _ B X T hdp hun F N ?_
  intro h tk F' N'
  refine zip_run (env := lawEnv L fa cd) rfl rfl rfl rfl F' N' (.tail _ (.tail _ (.head _))) (.tail _ (.tail _ (.tail _ (.head _)))) (News.isList N' (.tail _ (.tail _ (.head _)))) (News.isList N' (.tail _ (.tail _ (.tail _ (.head _))))) ?_ ?_
  · intro j v0 v1 m₁ s₁ own Q' E' hv0 hv1 F₁ N₁ hQ
    rw [List.getElem?_toArray] at hv0 hv1
    obtain ⟨x, u, hx, rfl⟩ := strs_at hus j v1 hv1
    obtain ⟨t, ht, S⟩ := hsh.at j v0 hv0
    rw [hx] at ht
    cases ht
    refine two_turn prog w p loose mean mg mb dp un fa cd outer A₀ base g L m₁ s₁ _ fz i v0 x u Q' E' B X T hdp hun F₁ N₁ ?_ S (by omega) ?_ hQ
    · intro q hq
      exact List.mem_append_right _ (.tail _ (.tail _ (.tail _ (.tail _ hq))))
    · have := htl x (List.mem_of_getElem? hx)
      omega
  · intro h₁ tk₁ m₁ F₁ N₁
    exact done m₁ h₁ tk₁ F₁ N₁
end Mine
namespace Mine
set_option maxRecDepth 100000
set_option maxHeartbeats 8000000
def st0 : Stmt := (fnBody lawFn).getD 0 (.Pass default)
def stR : Stmt := (fnBody lawFn).getD 3 (.Pass default)
theorem body_parts : fnBody lawFn = [st0, st1, st2, stR] := rfl
local macro_rules | `(tactic| units_room) => `(tactic| ktr_units)
theorem law_head (prog : Program) (w : World) (p : Program) (loose : List Str) (mean : ExcName → Option Value) (mg mb : Str → Option Value) (dp un : Nat) (fa : Addr) (cd : Value) (outer : List Env) (A₀ : Around) (base g : Heap) (L : Addr) (m : Str → Option Value) (s : Shared)
    (l : Addr) (oc od : Obj) (rest : List Stmt) (Q : Flow → Shared → Prop)
    (B : Below A₀ base outer g) (X : (hd.heap_39 w.params).In g) (T : Top p loose mean mg mb g) (hdp : dp + 10 < recursionLimit) (hun : un + 2000 < cLine)
    (F : Fr g L s.heap (fun z => if z = Str.ofString "script" then some (.ref l) else m z)) (N : News g L s.heap [(L + 1, oc), (L + 2, od)])
    (hQ : ∀ (h : Heap) (tk : Nat) (a1 a2 : Addr) (tsi : Tok) (m' : Str → Option Value), Fr g L h m' → m' (Str.ofString "script") = some (.ref l) → m' (Str.ofString "things") = some (.ref a1) → m' (Str.ofString "texts") = some (.ref a2) →
      m' (Str.ofString "since") = some (.int 0 tsi) → News g L h [(L + 1, oc), (L + 2, od), (a1, listOf #[] 0), (a2, listOf #[] 0)] → (@LT.lt Nat _ (L + 2) a1 ∧ @LT.lt Nat _ a1 a2) →
      wpAny (model prog w) (lawA dp un L fa cd outer) (execs rest (lawEnv L fa cd)) Q (fun _ _ => False) { s with heap := h, toks := tk }) :
    wpAny (model prog w) (lawA dp un L fa cd outer) (execs (st0 :: rest) (lawEnv L fa cd)) Q (fun _ _ => False) s := by
  k_with_none
  w_top off
  revert hQ
  simp only [st0, lawA, lawEnv, lawCells, lawScope, fnBody, fnScope, lawFn, PySem.Challenge.pw_dw0062_01, List.getD_cons_succ, List.getD_cons_zero]
  intro hQ
  k_steps
  exact hQ _ _ _ _ _ _ (by assumption) (by rfl) (by rfl) (by rfl) (by rfl) (sub (by assumption) (by
    intro p hp
    simp only [List.mem_cons, List.not_mem_nil, or_false] at hp ⊢
    rcases hp with rfl | rfl | rfl | rfl <;> simp)) ⟨by omega, by omega⟩
theorem law_tail (prog : Program) (w : World) (p : Program) (loose : List Str) (mean : ExcName → Option Value) (mg mb : Str → Option Value) (dp un : Nat) (fa : Addr) (cd : Value) (outer : List Env) (A₀ : Around) (base g : Heap) (L : Addr) (m : Str → Option Value) (s : Shared)
    (led : List (Addr × Obj)) (Q : Flow → Shared → Prop)
    (B : Below A₀ base outer g) (X : (hd.heap_39 w.params).In g) (T : Top p loose mean mg mb g) (hdp : dp + 10 < recursionLimit) (hun : un + 2000 < cLine)
    (F : Fr g L s.heap m) (N : News g L s.heap led)
    (hQ : Q (.ret (.bool true)) s) :
    wpAny (model prog w) (lawA dp un L fa cd outer) (execs [stR] (lawEnv L fa cd)) Q (fun _ _ => False) s := by
  k_with_none
  w_top off
  revert hQ
  simp only [stR, lawA, lawEnv, lawCells, lawScope, fnBody, fnScope, lawFn, PySem.Challenge.pw_dw0062_01, List.getD_cons_succ, List.getD_cons_zero]
  intro hQ
  k_steps
  dsimp only
  exact hQ
theorem law_body (prog : Program) (w : World) (p : Program) (loose : List Str) (mean : ExcName → Option Value) (mg mb : Str → Option Value) (dp un : Nat) (fa : Addr) (cd : Value) (outer : List Env) (A₀ : Around) (base g : Heap) (L : Addr) (m : Str → Option Value) (s : Shared)
    (l : Addr) (vs : List Value) (ns : List Int) (oc od : Obj) (vk vo : Option Value) (Q : Flow → Shared → Prop)
    (B : Below A₀ base outer g) (X : (hd.heap_39 w.params).In g) (T : Top p loose mean mg mb g) (hdp : dp + 10 < recursionLimit) (hun : un + 2000 < cLine)
    (F : Fr g L s.heap (fun z => if z = Str.ofString "script" then some (.ref l) else m z)) (N : News g L s.heap [(L + 1, oc), (L + 2, od)]) (hk : oc.data = .cell vk) (ho : od.data = .cell vo)
    (hL : g.IsList l vs.toArray) (hI : IntsAre vs ns) (hn : ¬ 63 < ns.length)
    (hQ : ∀ (h : Heap) (tk : Nat) (m' : Str → Option Value), Fr g L h m' → Q (.ret (.bool true)) { s with heap := h, toks := tk }) :
    wpAny (model prog w) (lawA dp un L fa cd outer) (execs (fnBody lawFn) (lawEnv L fa cd)) Q (fun _ _ => False) s := by
  rw [body_parts]
  refine law_head prog w p loose mean mg mb dp un fa cd outer A₀ base g L m s l oc od _ Q B X T hdp hun F N ?_
  intro h tk a1 a2 tsi m' F1 s1 s2 s3 s4 N1 hlt
  refine wpAny_execs_cons ?_
  refine one_run prog w p loose mean mg mb dp un fa cd outer A₀ base g L m' _ l vs ns _ _ B X T hdp hun (see F1 s1) N1 hL hI hn ?_ ?_
  · exact ⟨a1, a2, [], [], [], 0, 0, [], 0, oc, od, vk, vo, tsi, rfl, hk, ho, (if_neg (by decide)).trans s2, (if_neg (by decide)).trans s3, (if_neg (by decide)).trans s4, .nil, .nil, rfl, Nat.le_refl _, Nat.le_refl _, (fun _ h => nomatch h), (fun _ h => nomatch h), hlt⟩
  · intro i m₁ led₁ h₁ tk₁ hi hJ₁ F₁ N₁
    dsimp only
    refine wpAny_execs_cons ?_
    refine two_run prog w p loose mean mg mb dp un fa cd outer A₀ base g L m₁ _ i hi led₁ _ B X T hdp hun F₁ N₁ hJ₁ ?_
    intro m₂ h₂ tk₂ F₂ N₂
    dsimp only
    refine law_tail prog w p loose mean mg mb dp un fa cd outer A₀ base g L m₂ _ led₁ Q B X T hdp hun F₂ N₂ ?_
    exact hQ h₂ tk₂ m₂ F₂
end Mine
namespace Mine
set_option maxRecDepth 100000
set_option maxHeartbeats 8000000
theorem main : PySem.Challenge.rw_dw0062_01.Holds := hd (by
  k_with_none
  w_top off
  k_go0
  refine wpAny_noRaise ?_
  (with_reducible rename Fr _ _ _ _ => F0)
  (with_reducible rename News _ _ _ _ => N0)
  (with_reducible rename IntsAre _ _ => hI)
  (with_reducible rename Heap.IsList _ _ _ => hL)
  (with_reducible rename Below _ _ _ _ => B0)
  (with_reducible rename Frag.In _ _ => X0)
  (with_reducible rename Top _ _ _ _ _ _ => T0)
  rename Obj.data _ = Data.cell (bindC _ _ _ (Str.ofString "signs")) => d2
  rename Obj.data _ = Data.cell (bindC _ _ _ (Str.ofString "k")) => d1
  rename ¬ _ < _ => hc
  refine law_body (A₀ := callerA) (outer := []) (dp := 302) (un := 7) (m := _) _ _ _ _ _ _ _ _ _ _ _ _ _ _ _ _ _ _ _ _ _ B0 X0 T0 (by decide) (by decide) (see F0 (by rfl)) (sub N0 (by
    intro p hp
    simp only [List.mem_cons, List.not_mem_nil, or_false] at hp ⊢
    rcases hp with rfl | rfl
    · exact .inr rfl
    · exact .inl rfl)) d1 d2 hL hI (by omega) ?_
  intro h tk m' F1
  dsimp only
  first | wrow_close | (k_end; wrow_close) | k_steps)
end Mine
theorem PySem.Challenge.cw_dw0062_01_holds : PySem.Challenge.rw_dw0062_01.Holds := by
  exact Mine.main
