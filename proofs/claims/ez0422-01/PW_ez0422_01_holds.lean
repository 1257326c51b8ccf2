import PyProof.Rows.All
import Wide.All
import OpenK.AllK
import Wide.FinOn
import PySem.Challenge.RW_ez0422_01
open PySem PySem.W PyProof.Rows
set_option Elab.async false
/- part Hd -/
namespace Mine
set_option maxRecDepth 100000 in
set_option maxHeartbeats 8000000 in
open_top hd for PySem.Challenge.rw_ez0422_01
end Mine
/- part Ru -/
namespace Mine
open PySem.Calls Builtin PySem.SeqAt
set_option maxRecDepth 100000
theorem slot_bytes_find : Slot "bytes" "find" "bytes.find" :=
  .of (owner := "bytes") (n := "find") (by rw [typeLookup_type, builtinLookup_eq_fast]; kernel_rfl) (by decide +kernel) (by decide +kernel) (by decide +kernel)
    (by first | exact .inl (by decide +kernel) | exact .inr (by decide +kernel)) (by rw [isSubtype_type]; kernel_rfl)
theorem type_bytes_find : typeOf (.builtin "bytes.find") = pure (.type "method_descriptor") := by show builtinType _ = _; rw [builtinType_eq_fast]; kernel_rfl
theorem entry_bytes_find : entryFor table "bytes.find" = some Builtin.«bytes.find» := entryFor_of_tree (by kernel_rfl)
theorem args_bytes_find_3 (a b c : Value) : argsOk "bytes.find" ⟨[a, b, c], []⟩ := by
  unfold argsOk; rw [signature?_of (id := "bytes.find") (n := ['d', 'n', 'i', 'f']) (o := ['s', 'e', 't', 'y', 'b']) (by kernel_rfl) FB.owner_bytes]; kernel_rfl
theorem slot_bytes_join : Slot "bytes" "join" "bytes.join" :=
  .of (owner := "bytes") (n := "join") (by rw [typeLookup_type, builtinLookup_eq_fast]; kernel_rfl) (by decide +kernel) (by decide +kernel) (by decide +kernel)
    (by first | exact .inl (by decide +kernel) | exact .inr (by decide +kernel)) (by rw [isSubtype_type]; kernel_rfl)
theorem type_bytes_join : typeOf (.builtin "bytes.join") = pure (.type "method_descriptor") := by show builtinType _ = _; rw [builtinType_eq_fast]; kernel_rfl
theorem entry_bytes_join : entryFor table "bytes.join" = some Builtin.«bytes.join» := entryFor_of_tree (by kernel_rfl)
theorem args_bytes_join_2 (a b : Value) : argsOk "bytes.join" ⟨[a, b], []⟩ := by
  unfold argsOk; rw [signature?_of (id := "bytes.join") (n := ['n', 'i', 'o', 'j']) (o := ['s', 'e', 't', 'y', 'b']) (by kernel_rfl) FB.owner_bytes]; kernel_rfl
/-- what find gives: the least place from p on, or -1 -/
def findI (D M : Array UInt8) (p : Int) : Int := match Bytes.find? D M p.toNat D.size with | some i => (i : Int) | none => -1
theorem meets_find (D M : Array UInt8) (p : Int) (tD tM tp : Tok) (hp : 0 ≤ p) :
    Meets («bytes.find» ⟨[.bytes D tD, .bytes M tM, .int p tp], []⟩) (fun _ R s => ∀ t' k, R (.ok (.ret (.int (findI D M p) t'))) { s with toks := k }) := by
  refine .of_wp fun prog w A R s h => ?_
  show wpAny _ _ (Bytes.searchM .bytes "find" false false _) _ _ s
  unfold Bytes.searchM
  refine wpAny_bind ?_
  unfold Bytes.searchArgs
  refine wpAny_bind (wpAny_of_eq (a := (.bytes D tD, [.bytes M tM, .int p tp])) (by kernel_rfl) ?_)
  refine wpAny_bind ?_
  show wpAny _ _ (Bytes.bound? (some (.int p tp))) _ _ s
  unfold Bytes.bound?
  refine wpAny_bind (wpAny_specialOf (T := "int") (typeIs_int _ _ _) F.slot_int_index.lookup ?_)
  refine wpAny_ite (KBy.ite_no (show ¬ (Option.isNone (some _) = true) from Bool.false_ne_true) ?_)
  refine wpAny_bind (wpAny_of_eq rfl (wpAny_pure ?_))
  refine wpAny_bind (wpAny_of_eq (a := none) rfl ?_)
  show wpAny _ _ (Bytes.buffer? "bytes.find" (.bytes M tM) >>= fun r => _) _ _ s
  refine wpAny_bind (wpAny_of_eq (a := some M) KBy.buffer_eq ?_)
  refine wpAny_bind (wpAny_pure ?_)
  show wpAny _ _ (Bytes.payload (.bytes D tD) >>= fun r => _) _ _ s
  refine wpAny_bind (wpAny_of_eq (a := D) rfl (wpAny_pure ?_))
  have e1 : ((fun i : Int => if i < 0 then max 0 (i + (D.size : Int)) else i) ((some p).getD 0)) = p := by
    show (if p < 0 then _ else p) = p
    rw [if_neg (by omega)]
  have e2 : (min (D.size : Int) ((fun i : Int => if i < 0 then max 0 (i + (D.size : Int)) else i) ((none : Option Int).getD (D.size : Int)))) = (D.size : Int) := by
    show min (D.size : Int) (if (D.size : Int) < 0 then _ else (D.size : Int)) = _
    rw [if_neg (by omega)]
    exact Int.min_self _
  rw [e1, e2]
  dsimp only
  have e3 : (Option.bind (if (D.size : Int) - p < (M.size : Int) then none else some (p.toNat, (D.size : Int).toNat)) fun x => match x with
      | (lo, hi) => if false = true then Bytes.rfind? D M lo hi else Bytes.find? D M lo hi) = Bytes.find? D M p.toNat D.size := by
    by_cases hc : (D.size : Int) - p < (M.size : Int)
    · rw [if_pos hc]
      unfold Bytes.find?
      rw [show D.size + 1 - (p.toNat + M.size) = 0 by omega]
      rfl
    · rw [if_neg hc]
      rfl
  rw [e3]
  unfold findI at h
  cases hf : Bytes.find? D M p.toNat D.size with
  | some i =>
    rw [hf] at h
    exact wpAny_bind (wpAny_mkInt (wpAny_pure ⟨_, rfl, h _ _⟩))
  | none =>
    rw [hf] at h
    refine wpAny_bind (wpAny_rule ?_)
    exact wpAny_bind (wpAny_mkInt (wpAny_pure ⟨_, rfl, h _ _⟩))
section
variable {prog : Program} {w : World} {A : Around} {E : Value → Shared → Prop} {s : Shared}
theorem find_any {D M : Array UInt8} {p : Int} {tD tM tp : Tok} {Q : Value → Shared → Prop} (hp : 0 ≤ p) (h : ∀ t' k, Q (.int (findI D M p) t') { s with toks := k }) :
    wpAny (model prog w) A (call (.builtin "bytes.find") [.bytes D tD, .bytes M tM, .int p tp]) Q E s :=
  call_meets slot_bytes_find (typeIs_bytes _ _ _) entry_bytes_find (args_bytes_find_3 _ _ _) (meets_find D M p tD tM tp hp) h
theorem method_find {M : Model} {b : Array UInt8} {t : Tok} {pl : Sem Bool} {Q : Value × List Value → Shared → Prop} (h : Q (.builtin "bytes.find", [.bytes b t]) s) : wpAny M A (getMethod (.bytes b t) "find" pl) Q E s := by
  with_reducible exact KBd.method_of (.bytes b t) (typeIs_bytes _ _ _) slot_bytes_find type_bytes_find KBd.noRef h
theorem method_join {M : Model} {b : Array UInt8} {t : Tok} {pl : Sem Bool} {Q : Value × List Value → Shared → Prop} (h : Q (.builtin "bytes.join", [.bytes b t]) s) : wpAny M A (getMethod (.bytes b t) "join" pl) Q E s := by
  with_reducible exact KBd.method_of (.bytes b t) (typeIs_bytes _ _ _) slot_bytes_join type_bytes_join KBd.noRef h
end
/-- the bytes from place a up to place b -/
def cut (D : Array UInt8) (a b : Int) : Array UInt8 := D.extract a.toNat b.toNat
theorem picked_cut (D : Array UInt8) (a b : Int) (ha : 0 ≤ a) (hb : 0 ≤ b) : KBy.picked D (some a) (some b) = cut D a b := by
  rw [KBc.picked_eq]
  unfold cut
  apply Array.ext'
  rw [Array.toList_extract]
  show (D.toList.drop (clipAt D.size a)).take (clipAt D.size b - clipAt D.size a) = _
  obtain ⟨x, rfl⟩ := Int.eq_ofNat_of_zero_le ha
  obtain ⟨y, rfl⟩ := Int.eq_ofNat_of_zero_le hb
  rw [clipAt_nat, clipAt_nat]
  simp only [Int.toNat_natCast]
  show _ = (D.toList.extract x y)
  rw [List.extract_eq_take_drop]
  apply List.ext_getElem?
  intro i
  simp only [List.getElem?_take, List.getElem?_drop]
  have hl : D.toList.length = D.size := Array.length_toList
  by_cases h1 : D.size ≤ x
  · have n1 : D.toList[min x D.size + i]? = none := List.getElem?_eq_none (by omega)
    have n2 : D.toList[x + i]? = none := List.getElem?_eq_none (by omega)
    rw [n1, n2]
    simp
  · rw [Nat.min_eq_left (by omega : x ≤ D.size)]
    by_cases h2 : x + i < D.size
    · have e : (i < min y D.size - x) ↔ (i < y - x) := by omega
      simp only [e]
    · rw [List.getElem?_eq_none (by omega)]
      simp
section
variable {prog : Program} {w : World} {A : Around} {E : Value → Shared → Prop} {s : Shared}
theorem slice_cut {value slice : PySem.Expr} {D : Array UInt8} {t ta tb : Tok} {h₀ : Heap} {L : Addr} {m : PySem.Str → Option Value} {news : List (Addr × Obj)} {a b : Int} {Q : Value → Shared → Prop}
    (hF : Fr h₀ L s.heap m) (hN : News h₀ L s.heap news) (ha : 0 ≤ a) (hb : 0 ≤ b) (hz : D.size ≤ 16777216)
    (h : ∀ h' t' k, Fr h₀ L h' m → News h₀ L h' news → Q (.bytes (cut D a b) t') { s with heap := h', toks := k })
    (hs : subscripted slice false (.bytes D t) (.ref s.heap.objs.size) = operate [.ref s.heap.objs.size, .bytes D t] (getItem (.bytes D t) (.ref s.heap.objs.size)) := by with_unfolding_all rfl)
    (ht : ∀ r, letTemporaryGo value (.bytes D t) r = pure () := by intro _; with_unfolding_all rfl) :
    wpAny (model prog w) A (subscriptTail value slice (.bytes D t) (.ref s.heap.objs.size)) Q E { s with heap := s.heap.push { cls := .type "slice", data := .fields #[.int a ta, .int b tb, .none] } } :=
  KBc.slice_K hF hN rfl (.int _ _) (.int _ _) (by rw [KBw.ints_length]; exact hz) (fun h' t' k F N _ => by rw [picked_cut D a b ha hb]; exact h h' t' k F N) hs ht
theorem eq_cut {b c : Array UInt8} {t u : Tok} {Q : Value → Shared → Prop} (h : Q (.bool (b == c)) s) : wpAny (model prog w) A (compareOp .Eq (.bytes b t) (.bytes c u)) Q E s := by
  refine eq_bytes ?_
  have e : (b.toList == c.toList) = (b == c) := by
    rw [Bool.eq_iff_iff, beq_iff_eq, beq_iff_eq]
    exact ⟨fun h => Array.ext' h, fun h => by rw [h]⟩
  rw [e]; exact h
theorem ne_cut {b c : Array UInt8} {t u : Tok} {Q : Value → Shared → Prop} (h : Q (.bool (b != c)) s) : wpAny (model prog w) A (compareOp .NotEq (.bytes b t) (.bytes c u)) Q E s := by
  refine ne_bytes ?_
  have e : (b.toList == c.toList) = (b == c) := by
    rw [Bool.eq_iff_iff, beq_iff_eq, beq_iff_eq]
    exact ⟨fun h => Array.ext' h, fun h => by rw [h]⟩
  rw [bne, e]; exact h
end
theorem eqAt_bytes {A : Around} {s : Shared} (b : Array UInt8) (t : Tok) (c : Array UInt8) (u : Tok) : EqAt A s (.bytes b t) (.bytes c u) (b == c) := fun prog w E Q h => by
  unfold eqBool
  refine wpAny_holding ?_
  refine wpAny_ite_split (fun hab => ?_) (fun _ => ?_)
  · have e : b = c := by have := eq_of_beq hab; injection this
    subst e
    exact wpAny_bind (wpAny_rule (wpAny_pure (by simpa using h)))
  · exact wpAny_bind (eq_cut (wpAny_truthy_bool h))
inductive BytesAre : List Value → List (Array UInt8) → Prop where
  | nil : BytesAre [] []
  | cons {b : Array UInt8} {t : Tok} {vs : List Value} {bs : List (Array UInt8)} : BytesAre vs bs → BytesAre (.bytes b t :: vs) (b :: bs)
def isBytesV (x : Array UInt8) : Value → Bool
  | .bytes b _ => b == x
  | _ => false
theorem BytesAre.any {vs : List Value} {bs : List (Array UInt8)} (h : BytesAre vs bs) (x : Array UInt8) : vs.any (isBytesV x) = bs.any (· == x) := by
  induction h with
  | nil => rfl
  | cons _ ih => rw [List.any_cons, List.any_cons, ih]; rfl
theorem BytesAre.mem {vs : List Value} {bs : List (Array UInt8)} (h : BytesAre vs bs) : ∀ v ∈ vs, ∃ b t, v = .bytes b t := by
  induction h with
  | nil => intro v hv; cases hv
  | cons _ ih =>
    intro v hv
    cases hv with
    | head => exact ⟨_, _, rfl⟩
    | tail _ hv => exact ih v hv
section
variable {prog : Program} {w : World} {A : Around} {E : Value → Shared → Prop} {s : Shared}
theorem in_tup_bytes {l : Addr} {vs : List Value} {bs : List (Array UInt8)} {x : Array UInt8} {u : Tok} {Q : Value → Shared → Prop} (ht : IsTup s.heap l vs.toArray) (hi : BytesAre vs bs) (h : Q (.bool (bs.any (· == x))) s) :
    wpAny (model prog w) A (compareOp .In (.bytes x u) (.ref l)) Q E s := by
  refine in_tupleAt (items := vs.toArray) (isBytesV x) ht ?_ ?_
  · intro y hy
    obtain ⟨b, t, rfl⟩ := hi.mem y (by simpa using hy)
    exact eqAt_bytes b t x u
  · rw [List.any_toArray, hi.any x]
    exact h
end
end Mine
/- part C1 -/
namespace Mine
/-- a call of the def at f with the arguments vs, from any def's frame, the ledger as it stands: it comes back with a value of which Ret holds -/
def Claim (w : World) (mean : ExcName → Option Value) (mg mb : Str → Option Value) (rd ru : Nat) (f : Addr) (news : List (Addr × Obj)) (vs : List Value) (Ret : Value → List (Addr × Obj) → Prop) : Prop :=
  ∀ (dp un : Nat) (gd : Option (List Code)) (cn : Str) (cs : Scope) (a : Addr) (ccd : Value) (cl : List (Str × Addr)) (outer : List Env) (A₀ : Around) (base h₀ : Heap) (L : Addr) (m : Str → Option Value) (s : Shared) (Q E : Value → Shared → Prop),
    Below A₀ base outer h₀ → Fr h₀ L s.heap m → (hd.heap_39 w.params).In h₀ → News h₀ L s.heap news → Top hd.view_39 (looseW hd.view_39 []) mean mg mb h₀ → cs.kind = .function → dp + rd < recursionLimit → un + ru < cLine →
    (∀ v h' tk' own, Ret v own → Fr h₀ L h' m → News h₀ L h' (own ++ news) → Q v { s with heap := h', toks := tk' }) →
    wpAny (model PySem.Challenge.rw_ez0422_01.row.prog w) (ktrTop dp un gd cn cs L a ccd cl outer) (call (.ref f) vs) Q E s
def isCR (x : Array UInt8) : Bool := [#[13], #[10]].any (· == x)
def brk (D : Array UInt8) (e : Int) : Int := if cut D e (e + 2) == #[13, 10] then 2 else if isCR (cut D e (e + 1)) then 1 else 0
theorem strip2 {α β : Type} {f : α → β → Prop} {a : α} {b : β} (h : f a b) : f a b := h
structure Park (p : Prop) : Prop where
  h : p
theorem park {p : Prop} (h : Park p) : p := h.h
theorem dropTo {h₀ h : Heap} {L : Addr} {news news' : List (Addr × Obj)} (N : News h₀ L h news') (hs : ∀ p ∈ news, p ∈ news') : News h₀ L h news := fun p hp => N p (hs p hp)
local macro_rules | `(tactic| walk_at "subscriptTail") => `(tactic| (k_here; (with_reducible show wpAny _ _ (subscriptTail _ (Expr.Slice (some _) (some _) none _) (Value.bytes _ _) (Value.ref _)) _ _ _); (with_reducible rename Fr _ _ _ _ => F'); (with_reducible rename News _ _ _ _ => N'); (refine slice_cut (s := ⟨_, _, _, _, _⟩) F' N' (by omega) (by omega) (by omega) ?_); intro _ _ _ F' N'; (try k_sweep)))
local macro_rules | `(tactic| walk_at "compareOp Eq bytes bytes") => `(tactic| refine eq_cut ?_)
local macro_rules | `(tactic| walk_at "compareOp In bytes ref") => `(tactic| (k_here; (with_unfolding_all refine' in_tup_bytes ?k1 ?k2 ?_; (case k1 => exact News.isTup (by k_asm) (by news_mem)); (case k2 => repeat constructor); k_whole)))
theorem brk_2 {D : Array UInt8} {e : Int} (h : (cut D e (e + 2) == #[13, 10]) = true) : 2 = brk D e := by
  unfold brk; rw [h]; rfl
theorem brk_1 {D : Array UInt8} {e : Int} (h : (cut D e (e + 2) == #[13, 10]) = false) (h2 : ([#[13], #[10]].any fun x => x == cut D e (e + 1)) = true) : 1 = brk D e := by
  unfold brk isCR; rw [h, h2]; rfl
theorem brk_0 {D : Array UInt8} {e : Int} (h : (cut D e (e + 2) == #[13, 10]) = false) (h2 : ([#[13], #[10]].any fun x => x == cut D e (e + 1)) = false) : 0 = brk D e := by
  unfold brk isCR; rw [h, h2]; rfl
def ahd (D : Array UInt8) (b h : Int) : Int := if decide (h - 2 ≥ b) && cut D (h - 2) h == #[13, 10] then 2 else if decide (h - 1 ≥ b) && isCR (cut D (h - 1) h) then 1 else 0
theorem brk_ge (D : Array UInt8) (e : Int) : 0 ≤ brk D e := by unfold brk; split <;> (try split) <;> omega
theorem ahd_ge (D : Array UInt8) (b h : Int) : 0 ≤ ahd D b h := by unfold ahd; split <;> (try split) <;> omega
theorem ahd_2 {D : Array UInt8} {b h : Int} (h1 : b ≤ h - 2) (h2 : (cut D (h - 2) h == #[13, 10]) = true) : 2 = ahd D b h := by
  unfold ahd; rw [h2, decide_eq_true (show h - 2 ≥ b from h1)]; rfl
theorem ahd_1 {D : Array UInt8} {b h : Int} (h1 : ¬ b ≤ h - 2 ∨ (cut D (h - 2) h == #[13, 10]) = false) (h2 : b ≤ h - 1) (h3 : ([#[13], #[10]].any fun x => x == cut D (h - 1) h) = true) : 1 = ahd D b h := by
  unfold ahd isCR
  rw [h3, decide_eq_true (show h - 1 ≥ b from h2)]
  rcases h1 with h1 | h1
  · rw [decide_eq_false (show ¬ h - 2 ≥ b from h1)]; rfl
  · rw [h1, Bool.and_false]; rfl
theorem ahd_0 {D : Array UInt8} {b h : Int} (h1 : ¬ b ≤ h - 2 ∨ (cut D (h - 2) h == #[13, 10]) = false) (h2 : ¬ b ≤ h - 1 ∨ ([#[13], #[10]].any fun x => x == cut D (h - 1) h) = false) : 0 = ahd D b h := by
  unfold ahd isCR
  have e2 : (decide (h - 1 ≥ b) && ([#[13], #[10]].any fun x => x == cut D (h - 1) h)) = false := by
    rcases h2 with h2 | h2
    · rw [decide_eq_false (show ¬ h - 1 ≥ b from h2)]; rfl
    · rw [h2, Bool.and_false]
  have e1 : (decide (h - 2 ≥ b) && (cut D (h - 2) h == #[13, 10])) = false := by
    rcases h1 with h1 | h1
    · rw [decide_eq_false (show ¬ h - 2 ≥ b from h1)]; rfl
    · rw [h1, Bool.and_false]
  rw [e1, e2]; rfl
set_option maxRecDepth 100000 in
set_option maxHeartbeats 8000000 in
theorem broken_ok (w : World) (mean : ExcName → Option Value) (mg mb : Str → Option Value) (news : List (Addr × Obj)) (D : Array UInt8) (tD : Tok) (e : Int) (te : Tok) (he : 0 ≤ e) (hD : D.size ≤ 1000) :
    Claim w mean mg mb 2 20 126 news [.bytes D tD, .int e te] (fun v own => own = [] ∧ 0 ≤ brk D e ∧ ∃ t, v = .int (brk D e) t) := by
  unfold Claim
  k_fill
  intro dp un gd cn cs a ccd cl outer A₀ base h₀ L m s Q E B F X N T hk hd' hu hret
  refine wpAny_call ?_
  k_dflt cell_enter
  k_steps
  all_goals (refine hret _ _ _ [] ⟨rfl, brk_ge _ _, _, congrArg (Value.int · _) ?_⟩ (by k_asm) (by first | k_asm | exact dropTo (by k_asm) (by intro p hp; repeat (first | exact hp | refine List.Mem.tail _ ?_))))
  all_goals first | exact brk_2 (by assumption) | exact brk_1 (by assumption) (by assumption) | exact brk_0 (by assumption) (by assumption)
set_option maxRecDepth 100000 in
set_option maxHeartbeats 8000000 in
theorem breakEnd_ok (w : World) (mean : ExcName → Option Value) (mg mb : Str → Option Value) (news : List (Addr × Obj)) (D : Array UInt8) (tD : Tok) (e : Int) (te : Tok) (he : 0 ≤ e) (hD : D.size ≤ 1000) :
    Claim w mean mg mb 2 20 78 news [.bytes D tD, .int e te] (fun v own => own = [] ∧ 0 ≤ brk D e ∧ ∃ t, v = .int (e + brk D e) t) := by
  unfold Claim
  k_fill
  intro dp un gd cn cs a ccd cl outer A₀ base h₀ L m s Q E B F X N T hk hd' hu hret
  refine wpAny_call ?_
  k_dflt cell_enter
  k_steps
  all_goals (refine hret _ _ _ [] ⟨rfl, brk_ge _ _, _, congrArg (Value.int · _) ?_⟩ (by k_asm) (by first | k_asm | exact dropTo (by k_asm) (by intro p hp; repeat (first | exact hp | refine List.Mem.tail _ ?_))))
  all_goals first | rw [← brk_2 (by assumption)] | rw [← brk_1 (by assumption) (by assumption)] | (rw [← brk_0 (by assumption) (by assumption)]; exact (Int.add_zero _).symm)
set_option maxRecDepth 100000 in
set_option maxHeartbeats 8000000 in
theorem ahead_ok (w : World) (mean : ExcName → Option Value) (mg mb : Str → Option Value) (news : List (Addr × Obj)) (D : Array UInt8) (tD : Tok) (b h : Int) (tb th : Tok) (hb : 0 ≤ b) (hh : 0 ≤ h) (hD : D.size ≤ 1000) :
    Claim w mean mg mb 2 20 133 news [.bytes D tD, .int b tb, .int h th] (fun v own => own = [] ∧ 0 ≤ ahd D b h ∧ ∃ t, v = .int (ahd D b h) t) := by
  unfold Claim
  k_fill
  intro dp un gd cn cs a ccd cl outer A₀ base h₀ L m s Q E B F X N T hk hd' hu hret
  refine wpAny_call ?_
  k_dflt cell_enter
  k_steps
  all_goals (refine hret _ _ _ [] ⟨rfl, ahd_ge _ _ _, _, congrArg (Value.int · _) ?_⟩ (by k_asm) (by first | k_asm | exact dropTo (by k_asm) (by intro p hp; repeat (first | exact hp | refine List.Mem.tail _ ?_))))
  all_goals first
    | exact ahd_2 (by assumption) (by assumption)
    | exact ahd_1 (.inl (by assumption)) (by assumption) (by assumption)
    | exact ahd_1 (.inr (by assumption)) (by omega) (by assumption)
    | exact ahd_0 (.inl (by assumption)) (.inl (by assumption))
    | exact ahd_0 (.inl (by assumption)) (.inr (by assumption))
    | exact ahd_0 (.inr (by assumption)) (.inr (by assumption))
theorem Claim.use {w : World} {mean : ExcName → Option Value} {mg mb : Str → Option Value} {rd ru : Nat} {f : Addr} {news : List (Addr × Obj)} {vs : List Value} {Ret : Value → List (Addr × Obj) → Prop} (C : Claim w mean mg mb rd ru f news vs Ret)
    {dp un : Nat} {gd : Option (List Code)} {cn : Str} {cs : Scope} {a : Addr} {ccd : Value} {cl : List (Str × Addr)} {outer : List Env} {A₀ : Around} {base h₀ : Heap} {L : Addr} {m : Str → Option Value} {s : Shared} {Q E : Value → Shared → Prop}
    (B : Below A₀ base outer h₀) (F : Fr h₀ L s.heap m) (X : (hd.heap_39 w.params).In h₀) (N : News h₀ L s.heap news) (T : Top hd.view_39 (looseW hd.view_39 []) mean mg mb h₀) (hk : cs.kind = .function) (hd' : dp + rd < recursionLimit) (hu : un + ru < cLine)
    (hret : ∀ v h' tk' own, Ret v own → Fr h₀ L h' m → News h₀ L h' (own ++ news) → Q v { s with heap := h', toks := tk' }) :
    wpAny (model PySem.Challenge.rw_ez0422_01.row.prog w) (ktrTop dp un gd cn cs L a ccd cl outer) (call (.ref f) vs) Q E s :=
  C dp un gd cn cs a ccd cl outer A₀ base h₀ L m s Q E B F X N T hk hd' hu hret
end Mine
/- part Sp -/
namespace Mine
/-- the run of blanks: from place e on -/
def isBl (x : Array UInt8) : Bool := [#[32], #[9]].any (· == x)
def skipF (D : Array UInt8) : Nat → Int → Int
  | 0, e => e
  | n + 1, e => if isBl (cut D e (e + 1)) = true then skipF D n (e + 1) else e
def skip (D : Array UInt8) (e : Int) : Int := skipF D (D.size - e.toNat + 1) e
theorem cut_size (D : Array UInt8) (a b : Int) : (cut D a b).size = min b.toNat D.size - a.toNat := by
  unfold cut; rw [Array.size_extract]
theorem isBl_size {x : Array UInt8} (h : isBl x = true) : x.size = 1 := by
  unfold isBl at h
  simp only [List.any_cons, List.any_nil, Bool.or_false, Bool.or_eq_true, beq_iff_eq] at h
  rcases h with h | h <;> (rw [← h]; rfl)
theorem isBl_lt {D : Array UInt8} {e : Int} (h0 : 0 ≤ e) (h : isBl (cut D e (e + 1)) = true) : e < D.size := by
  have h1 := isBl_size h
  rw [cut_size] at h1
  omega
theorem skip_go {D : Array UInt8} {e : Int} (h0 : 0 ≤ e) (h : isBl (cut D e (e + 1)) = true) : skip D (e + 1) = skip D e := by
  have h1 := isBl_lt h0 h
  unfold skip
  rw [show D.size - e.toNat + 1 = (D.size - (e + 1).toNat + 1) + 1 by omega]
  conv => rhs; unfold skipF
  rw [if_pos h]
theorem skip_stop {D : Array UInt8} {e : Int} (h : isBl (cut D e (e + 1)) = false) : skip D e = e := by
  unfold skip
  conv => lhs; unfold skipF
  rw [h]
  rfl
theorem skipF_ge {D : Array UInt8} : ∀ (n : Nat) (e : Int), e ≤ skipF D n e
  | 0, e => Int.le_refl _
  | n + 1, e => by
    unfold skipF
    split
    · have := skipF_ge (D := D) n (e + 1); omega
    · exact Int.le_refl _
theorem skip_ge (D : Array UInt8) (e : Int) : e ≤ skip D e := skipF_ge _ _
/-- at the place h: the end of the mark; the hyphens behind it; what is told -/
def e0 (M : Array UInt8) (h : Int) : Int := h + M.size
def closed (D M : Array UInt8) (h : Int) : Bool := cut D (e0 M h) (e0 M h + 2) == #[45, 45]
def e2 (D M : Array UInt8) (h : Int) : Int := skip D (if closed D M h = true then e0 M h + 2 else e0 M h)
def good (D M : Array UInt8) (b : Int) (lo : Bool) (h : Int) : Bool := (closed D M h || decide (0 < brk D (e2 D M h))) && (lo || decide (0 < ahd D b h))
def hit (D M : Array UInt8) (b : Int) (lo : Bool) (h : Int) : Bool := (cut D h (e0 M h) == M) && good D M b lo h
def res (D M : Array UInt8) (b : Int) (h : Int) : Int × Int × Array UInt8 := (h - ahd D b h, e2 D M h + brk D (e2 D M h), cut D (e0 M h) (e2 D M h + brk D (e2 D M h)))
/-- what both roads tell -/
def Told (D M : Array UInt8) (b : Int) (lo : Bool) (r : Option (Int × Int × Array UInt8)) : Prop :=
  (∃ k, b ≤ k ∧ hit D M b lo k = true ∧ (∀ j, b ≤ j → j < k → hit D M b lo j = false) ∧ r = some (res D M b k)) ∨ ((∀ j, b ≤ j → hit D M b lo j = false) ∧ r = none)
theorem told_one {D M : Array UInt8} {b : Int} {lo : Bool} {r r' : Option (Int × Int × Array UInt8)} (h : Told D M b lo r) (h' : Told D M b lo r') : r = r' := by
  rcases h with ⟨k, h1, h2, h3, rfl⟩ | ⟨h1, rfl⟩ <;> rcases h' with ⟨k', h1', h2', h3', rfl⟩ | ⟨h1', rfl⟩
  · have : k = k' := by
      rcases Int.lt_trichotomy k k' with q | q | q
      · rw [h3' k h1 q] at h2; cases h2
      · exact q
      · rw [h3 k' h1' q] at h2'; cases h2'
    rw [this]
  · rw [h1' k h1] at h2; cases h2
  · rw [h1 k' h1'] at h2'; cases h2'
  · rfl
theorem ahd_le {D : Array UInt8} {b h : Int} (hb : b ≤ h) : b ≤ h - ahd D b h := by
  unfold ahd
  split
  · rename_i q; simp only [Bool.and_eq_true, decide_eq_true_eq] at q; omega
  · split
    · rename_i q; simp only [Bool.and_eq_true, decide_eq_true_eq] at q; omega
    · omega
theorem hit_lt {D M : Array UInt8} {b : Int} {lo : Bool} {h : Int} (h0 : 0 ≤ h) (hM : 0 < M.size) (q : hit D M b lo h = true) : h + M.size ≤ D.size := by
  unfold hit at q
  rw [Bool.and_eq_true, beq_iff_eq] at q
  have q1 := congrArg Array.size q.1
  rw [cut_size] at q1
  unfold e0 at q1
  omega
theorem e0_full (M : Array UInt8) (h : Int) : e0 (#[45, 45] ++ M) h = h + 2 + M.size := by
  unfold e0
  rw [Array.size_append]
  show h + ((2 + M.size : Nat) : Int) = _
  omega
theorem skip_inv {D : Array UInt8} {e e₀ : Int} (h : skip D e = skip D e₀) (h0 : 0 ≤ e₀) (h1 : e₀ ≤ e) (hb : isBl (cut D e (e + 1)) = true) : skip D (e + 1) = skip D e₀ ∧ 0 ≤ e₀ ∧ e₀ ≤ e + 1 :=
  ⟨(skip_go (by omega) hb).trans h, h0, by omega⟩
theorem skip_less {D : Array UInt8} {e e₀ : Int} (h0 : 0 ≤ e₀) (h1 : e₀ ≤ e) (hb : isBl (cut D e (e + 1)) = true) : D.size - (e + 1).toNat < D.size - e.toNat := by
  have := isBl_lt (by omega) hb
  omega
theorem pre_snoc {p : Int → Bool} {pre : List Int} {n : Int} (h : ∀ v ∈ pre, p v = false) (hn : p n = false) : ∀ v ∈ pre ++ [n], p v = false := by
  intro v hv
  rcases List.mem_append.mp hv with hv | hv
  · exact h v hv
  · rw [List.mem_singleton.mp hv]; exact hn
theorem hit_no {D M : Array UInt8} {b : Int} {lo : Bool} {h : Int} (q : (cut D h (h + 2 + M.size) != #[45, 45] ++ M) = true) : hit D (#[45, 45] ++ M) b lo h = false := by
  unfold hit
  rw [e0_full]
  rw [bne, Bool.not_eq_true'] at q
  rw [q]; rfl
theorem told_none {D M : Array UInt8} {b : Int} {lo : Bool} (hb : 0 ≤ b) (hM : 0 < M.size) (h : ∀ v ∈ rangeKs b (D.size - b).toNat, hit D M b lo v = false) : Told D M b lo none := by
  refine .inr ⟨fun j hj => ?_, rfl⟩
  by_cases q : j < D.size
  · refine h j ?_
    unfold rangeKs
    refine List.mem_map.mpr ⟨(j - b).toNat, List.mem_range.mpr (by omega), by omega⟩
  · cases e : hit D M b lo j with
    | false => rfl
    | true => have := hit_lt (by omega) hM e; omega
theorem not_in {n z : Str} {l : List Str} (h : (n :: l).contains z = false) : z ≠ n ∧ l.contains z = false := by
  rw [List.contains_cons, Bool.or_eq_false_iff] at h
  exact ⟨fun e => by rw [e] at h; simp at h, h.2⟩
theorem hit_bad {D M : Array UInt8} {b : Int} {lo : Bool} {h : Int} (q : good D (#[45, 45] ++ M) b lo h = false) : hit D (#[45, 45] ++ M) b lo h = false := by
  unfold hit; rw [q, Bool.and_false]
/-- the end of the blanks, closed or not -/
theorem e2_closed {D M : Array UInt8} {h e : Int} (c : (cut D (h + 2 + M.size) (h + 2 + M.size + 2) == #[45, 45]) = true) (s : skip D e = skip D (h + 2 + M.size + 2)) (n : ([#[32], #[9]].any fun x => x == cut D e (e + 1)) = false) :
    closed D (#[45, 45] ++ M) h = true ∧ e2 D (#[45, 45] ++ M) h = e := by
  have c' : closed D (#[45, 45] ++ M) h = true := by unfold closed; rw [e0_full]; exact c
  refine ⟨c', ?_⟩
  unfold e2
  rw [c', if_pos rfl, e0_full, ← s]
  exact skip_stop n
theorem e2_open {D M : Array UInt8} {h e : Int} (c : (cut D (h + 2 + M.size) (h + 2 + M.size + 2) == #[45, 45]) = false) (s : skip D e = skip D (h + 2 + M.size)) (n : ([#[32], #[9]].any fun x => x == cut D e (e + 1)) = false) :
    closed D (#[45, 45] ++ M) h = false ∧ e2 D (#[45, 45] ++ M) h = e := by
  have c' : closed D (#[45, 45] ++ M) h = false := by unfold closed; rw [e0_full]; exact c
  refine ⟨c', ?_⟩
  unfold e2
  rw [c', if_neg Bool.false_ne_true, e0_full, ← s]
  exact skip_stop n
theorem bad_ahead {D M : Array UInt8} {b : Int} {lo : Bool} {h : Int} (q : lo = false) (a : ¬ 0 < ahd D b h) : good D M b lo h = false := by
  unfold good; rw [q, decide_eq_false a, Bool.or_self, Bool.and_false]
theorem bad_behind {D M : Array UInt8} {b : Int} {lo : Bool} {h e : Int} (c : closed D M h = false ∧ e2 D M h = e) (a : ¬ 0 < brk D e) : good D M b lo h = false := by
  unfold good; rw [c.1, c.2, decide_eq_false a, Bool.or_self, Bool.false_and]
theorem good_of {D M : Array UInt8} {b : Int} {lo : Bool} {h e : Int} (c : closed D M h = true ∨ 0 < brk D e) (q : e2 D M h = e) (a : lo = true ∨ 0 < ahd D b h) : good D M b lo h = true := by
  unfold good
  rw [q]
  rcases c with c | c <;> rcases a with a | a <;> simp [c, a]
theorem hit_yes {D M : Array UInt8} {b : Int} {lo : Bool} {h : Int} (q : (cut D h (h + 2 + M.size) != #[45, 45] ++ M) = false) (g : good D (#[45, 45] ++ M) b lo h = true) : hit D (#[45, 45] ++ M) b lo h = true := by
  unfold hit
  rw [e0_full, g, Bool.and_true]
  rw [bne, Bool.not_eq_false'] at q
  exact q
theorem told_some {D M : Array UInt8} {b : Int} {lo : Bool} {h e : Int} (hb : b ≤ h) (hI : ∀ j, b ≤ j → j < h → hit D (#[45, 45] ++ M) b lo j = false)
    (q : (cut D h (h + 2 + M.size) != #[45, 45] ++ M) = false) (g : good D (#[45, 45] ++ M) b lo h = true) (he : e2 D (#[45, 45] ++ M) h = e) :
    Told D (#[45, 45] ++ M) b lo (some (h - ahd D b h, e + brk D e, cut D (h + 2 + M.size) (e + brk D e))) := by
  refine .inl ⟨h, hb, hit_yes q g, hI, ?_⟩
  unfold res
  rw [he, e0_full]
theorem upto_snoc {p : Int → Bool} {b n : Int} {pre : List Int} (h : ∀ j, b ≤ j → j < b + (pre.length : Int) → p j = false) (e : n = b + (pre.length : Int)) (hn : p n = false) : ∀ j, b ≤ j → j < b + ((pre ++ [n]).length : Int) → p j = false := by
  intro j h1 h2
  rw [List.length_append, List.length_cons, List.length_nil] at h2
  by_cases q : j < b + (pre.length : Int)
  · exact h j h1 q
  · have : j = n := by omega
    rw [this]; exact hn
theorem told_none' {D M : Array UInt8} {b : Int} {lo : Bool} (hb : 0 ≤ b) (h : ∀ j, b ≤ j → j < b + ((rangeKs b (D.size - b).toNat).length : Int) → hit D (#[45, 45] ++ M) b lo j = false) : Told D (#[45, 45] ++ M) b lo none := by
  rw [rangeKs_length] at h
  refine .inr ⟨fun j hj => ?_, rfl⟩
  by_cases q : j < D.size
  · exact h j hj (by omega)
  · cases e : hit D (#[45, 45] ++ M) b lo j with
    | false => rfl
    | true =>
      have hm : 0 < (#[45, 45] ++ M).size := by rw [Array.size_append]; show 0 < 2 + M.size; omega
      have := hit_lt (by omega) hm e
      omega
theorem not_in4 {n1 n2 n3 n4 z : Str} (h : [n1, n2, n3, n4].contains z = false) : z ≠ n1 ∧ z ≠ n2 ∧ z ≠ n3 ∧ z ≠ n4 :=
  let h1 := not_in h; let h2 := not_in h1.2; let h3 := not_in h2.2; let h4 := not_in h3.2
  ⟨h1.1, h2.1, h3.1, h4.1⟩
theorem ite_nil {z : Str} {a b : Option Value} : (if ([] : List Str).contains z = true then a else b) = b := rfl
theorem ite_last {c : Bool} {a b : Option Value} (h : c = false) : (if c = true then a else b) = b := by rw [h]; rfl
theorem told_closed {D M : Array UInt8} {b : Int} {lo : Bool} {h e : Int} (hb : b ≤ h) (hI : ∀ j, b ≤ j → j < h → hit D (#[45, 45] ++ M) b lo j = false)
    (q : (cut D h (h + 2 + M.size) != #[45, 45] ++ M) = false) (c : (cut D (h + 2 + M.size) (h + 2 + M.size + 2) == #[45, 45]) = true) (s : skip D e = skip D (h + 2 + M.size + 2)) (n : ([#[32], #[9]].any fun x => x == cut D e (e + 1)) = false)
    (a : lo = true ∨ 0 < ahd D b h) : Told D (#[45, 45] ++ M) b lo (some (h - ahd D b h, e + brk D e, cut D (h + 2 + M.size) (e + brk D e))) :=
  let c' := e2_closed c s n
  told_some hb hI q (good_of (.inl c'.1) c'.2 a) c'.2
theorem told_open {D M : Array UInt8} {b : Int} {lo : Bool} {h e : Int} (hb : b ≤ h) (hI : ∀ j, b ≤ j → j < h → hit D (#[45, 45] ++ M) b lo j = false)
    (q : (cut D h (h + 2 + M.size) != #[45, 45] ++ M) = false) (c : (cut D (h + 2 + M.size) (h + 2 + M.size + 2) == #[45, 45]) = false) (s : skip D e = skip D (h + 2 + M.size)) (n : ([#[32], #[9]].any fun x => x == cut D e (e + 1)) = false)
    (k : 0 < brk D e) (a : lo = true ∨ 0 < ahd D b h) : Told D (#[45, 45] ++ M) b lo (some (h - ahd D b h, e + brk D e, cut D (h + 2 + M.size) (e + brk D e))) :=
  let c' := e2_open c s n
  told_some hb hI q (good_of (.inr k) c'.2 a) c'.2
theorem find_law (D M : Array UInt8) (p : Int) (hp : 0 ≤ p) :
    (findI D M p = -1 ∧ ∀ j, p ≤ j → (cut D j (j + M.size) == M) = true → j + M.size ≤ D.size → False) ∨
    (p ≤ findI D M p ∧ findI D M p + M.size ≤ D.size ∧ (cut D (findI D M p) (findI D M p + M.size) == M) = true ∧ ∀ j, p ≤ j → j < findI D M p → (cut D j (j + M.size) == M) = false) := by
  have ext : ∀ i : Nat, D.extract i (i + M.size) = cut D (i : Int) ((i : Int) + M.size) := by
    intro i
    unfold cut
    have e : ((i : Int) + (M.size : Int)).toNat = i + M.size := by omega
    rw [Int.toNat_natCast, e]
  unfold findI
  cases hf : Builtin.Bytes.find? D M p.toNat D.size with
  | none =>
    refine .inl ⟨rfl, fun j hj hc hs => ?_⟩
    unfold Builtin.Bytes.find? at hf
    rw [List.find?_eq_none] at hf
    have := hf j.toNat (List.mem_map.mpr ⟨(j - p).toNat, List.mem_range.mpr (by omega), by omega⟩)
    rw [ext] at this
    rw [show ((j.toNat : Nat) : Int) = j by omega] at this
    exact this hc
  | some i =>
    unfold Builtin.Bytes.find? at hf
    have h1 := List.find?_some hf
    have h2 := List.mem_of_find?_eq_some hf
    obtain ⟨k, hk, hki⟩ := List.mem_map.mp h2
    rw [List.mem_range] at hk
    rw [ext] at h1
    refine .inr ⟨?_, ?_, h1, fun j hj hl => ?_⟩
    · show p ≤ (i : Int); omega
    · show (i : Int) + _ ≤ _; omega
    · have hl' : j < (i : Int) := hl
      rw [List.find?_eq_some_iff_append] at hf
      obtain ⟨_, as, bs, hab, hno⟩ := hf
      have hlen : as.length = k := by
        have e1 : (List.map (· + p.toNat) (List.range (D.size + 1 - (p.toNat + M.size))))[as.length]? = some i := by rw [hab]; simp
        rw [List.getElem?_map, List.getElem?_range (by
          have := congrArg List.length hab
          simp only [List.length_map, List.length_range, List.length_append, List.length_cons] at this
          omega)] at e1
        simp only [Option.map_some, Option.some.injEq] at e1
        omega
      have hm : j.toNat ∈ as := by
        have e2 : (List.map (· + p.toNat) (List.range (D.size + 1 - (p.toNat + M.size))))[(j - p).toNat]? = some j.toNat := by
          rw [List.getElem?_map, List.getElem?_range (by omega)]
          simp only [Option.map_some, Option.some.injEq]
          omega
        rw [hab, List.getElem?_append_left (by omega)] at e2
        exact List.mem_of_getElem? e2
      have := hno _ hm
      rw [ext, show ((j.toNat : Nat) : Int) = j by omega] at this
      simpa using this
/-- between the turns of search -/
def Pin (D M : Array UInt8) (b : Int) (lo : Bool) (here : Int) : Prop :=
  (here = -1 ∧ ∀ j, b ≤ j → hit D M b lo j = false) ∨
  (b ≤ here ∧ here + M.size ≤ D.size ∧ (cut D here (here + M.size) == M) = true ∧ ∀ j, b ≤ j → j < here → hit D M b lo j = false)
def meas (D : Array UInt8) (here : Int) : Nat := if here < 0 then 0 else (D.size - here).toNat + 1
theorem hit_cut {D M : Array UInt8} {b : Int} {lo : Bool} {j : Int} (h : (cut D j (j + M.size) == M) = false) : hit D M b lo j = false := by
  unfold hit e0; rw [h]; rfl
theorem pin_from {D M : Array UInt8} {b p : Int} {lo : Bool} (hp : 0 ≤ p) (hbp : b ≤ p) (hM : 0 < M.size) (h : ∀ j, b ≤ j → j < p → hit D M b lo j = false) : Pin D M b lo (findI D M p) := by
  have hh : ∀ j, b ≤ j → (p ≤ j → hit D M b lo j = false) → hit D M b lo j = false := fun j hj q => by
    by_cases e : p ≤ j
    · exact q e
    · exact h j hj (by omega)
  rcases find_law D M p hp with ⟨h1, h2⟩ | ⟨h1, h2, h3, h4⟩
  · refine .inl ⟨h1, fun j hj => hh j hj fun hpj => ?_⟩
    cases e : hit D M b lo j with
    | false => rfl
    | true =>
      have e1 := hit_lt (by omega) hM e
      unfold hit e0 at e
      rw [Bool.and_eq_true] at e
      exact (h2 j hpj e.1 e1).elim
  · exact .inr ⟨by omega, h2, h3, fun j hj hl => hh j hj fun hpj => hit_cut (h4 j hpj hl)⟩
theorem full_pos (M : Array UInt8) : 0 < (#[45, 45] ++ M).size := by rw [Array.size_append]; show 0 < 2 + M.size; omega
theorem pin_start {D M : Array UInt8} {b : Int} {lo : Bool} (hb : 0 ≤ b) : Pin D (#[45, 45] ++ M) b lo (findI D (#[45, 45] ++ M) b) :=
  pin_from hb (Int.le_refl _) (full_pos M) fun j h1 h2 => absurd (Int.lt_of_le_of_lt h1 h2) (Int.lt_irrefl _)
theorem pin_here {D M : Array UInt8} {b : Int} {lo : Bool} {here : Int} (h : Pin D M b lo here) (h0 : 0 ≤ here) : b ≤ here ∧ here + M.size ≤ D.size ∧ (cut D here (here + M.size) == M) = true ∧ ∀ j, b ≤ j → j < here → hit D M b lo j = false := by
  rcases h with h | h
  · omega
  · exact h
theorem pin_next {D M : Array UInt8} {b : Int} {lo : Bool} {here : Int} (hb : 0 ≤ b) (h : Pin D (#[45, 45] ++ M) b lo here) (h0 : 0 ≤ here) (hn : good D (#[45, 45] ++ M) b lo here = false) : Pin D (#[45, 45] ++ M) b lo (findI D (#[45, 45] ++ M) (here + 1)) := by
  obtain ⟨h1, h2, h3, h4⟩ := pin_here h h0
  refine pin_from (by omega) (by omega) (full_pos M) fun j hj hl => ?_
  by_cases e : j < here
  · exact h4 j hj e
  · have : j = here := by omega
    rw [this]; exact hit_bad hn
theorem meas_less {D M : Array UInt8} {b : Int} {lo : Bool} {here : Int} (h : Pin D M b lo here) (h0 : 0 ≤ here) : meas D (findI D M (here + 1)) < meas D here := by
  obtain ⟨h1, h2, h3, h4⟩ := pin_here h h0
  have hm : meas D here = (D.size - here).toNat + 1 := by unfold meas; rw [if_neg (by omega)]
  rw [hm]
  rcases find_law D M (here + 1) (by omega) with ⟨e1, _⟩ | ⟨e1, e2, _, _⟩
  · rw [e1]; unfold meas; rw [if_pos (by omega)]; omega
  · unfold meas; rw [if_neg (by omega)]; omega
theorem pin_end {D M : Array UInt8} {b : Int} {lo : Bool} {here : Int} (h : Pin D (#[45, 45] ++ M) b lo here) (hb : 0 ≤ b) (h0 : ¬ 0 ≤ here) : Told D (#[45, 45] ++ M) b lo none := by
  rcases h with h | h
  · exact .inr ⟨h.2, rfl⟩
  · omega
/-- search's blanks are the law's where no 11 and no 12 stand -/
theorem bl4 {D : Array UInt8} {e : Int} (h11 : ∀ c ∈ D, c ≠ 11 ∧ c ≠ 12) : ([#[32], #[9], #[11], #[12]].any fun x => x == cut D e (e + 1)) = isBl (cut D e (e + 1)) := by
  have no : ∀ k : UInt8, (∀ c ∈ D, c ≠ k) → (#[k] == cut D e (e + 1)) = false := by
    intro k hk
    cases q : (#[k] == cut D e (e + 1)) with
    | false => rfl
    | true =>
      rw [beq_iff_eq] at q
      have hm : k ∈ cut D e (e + 1) := by rw [← q]; simp
      unfold cut at hm
      rw [Array.mem_def, Array.toList_extract] at hm
      have : k ∈ D.toList := by
        rw [List.extract_eq_take_drop] at hm
        exact List.mem_of_mem_drop (List.mem_of_mem_take hm)
      exact absurd rfl (hk k (Array.mem_def.mpr this))
  unfold isBl
  simp only [List.any_cons, List.any_nil, no 11 (fun c hc => (h11 c hc).1), no 12 (fun c hc => (h11 c hc).2), Bool.or_false]
/-- where the blanks begin -/
def begins (D M : Array UInt8) (h : Int) : Int := if closed D M h = true then e0 M h + 2 else e0 M h
theorem begins_ge (D M : Array UInt8) (h : Int) : h ≤ begins D M h := by
  unfold begins e0; split <;> omega
theorem begins_1 {D M : Array UInt8} {h : Int} (c : (cut D (h + M.size) (h + M.size + 2) == #[45, 45]) = true) : h + M.size + 2 = begins D M h := by
  unfold begins closed e0; rw [c]; rfl
theorem begins_0 {D M : Array UInt8} {h : Int} (c : (cut D (h + M.size) (h + M.size + 2) == #[45, 45]) = false) : h + M.size = begins D M h := by
  unfold begins closed e0; rw [c]; rfl
theorem skip_inv4 {D : Array UInt8} {e e₀ : Int} (h11 : ∀ c ∈ D, c ≠ 11 ∧ c ≠ 12) (h : skip D e = skip D e₀) (h0 : 0 ≤ e₀) (h1 : e₀ ≤ e) (hb : ([#[32], #[9], #[11], #[12]].any fun x => x == cut D e (e + 1)) = true) : skip D (e + 1) = skip D e₀ ∧ 0 ≤ e₀ ∧ e₀ ≤ e + 1 :=
  skip_inv h h0 h1 (by rw [← bl4 h11]; exact hb)
theorem skip_less4 {D : Array UInt8} {e e₀ : Int} (h11 : ∀ c ∈ D, c ≠ 11 ∧ c ≠ 12) (h0 : 0 ≤ e₀) (h1 : e₀ ≤ e) (hb : ([#[32], #[9], #[11], #[12]].any fun x => x == cut D e (e + 1)) = true) : D.size - (e + 1).toNat < D.size - e.toNat :=
  skip_less h0 h1 (by rw [← bl4 h11]; exact hb)
theorem e2_G {D N : Array UInt8} {h e : Int} (h11 : ∀ c ∈ D, c ≠ 11 ∧ c ≠ 12) (s : skip D e = skip D (begins D N h)) (n : ([#[32], #[9], #[11], #[12]].any fun x => x == cut D e (e + 1)) = false) : e2 D N h = e := by
  rw [bl4 h11] at n
  show skip D (begins D N h) = e
  rw [← s]
  exact skip_stop n
theorem told_G {D N : Array UInt8} {b : Int} {lo : Bool} {h e : Int} (h11 : ∀ c ∈ D, c ≠ 11 ∧ c ≠ 12) (hp : Pin D N b lo h) (h0 : 0 ≤ h) (s : skip D e = skip D (begins D N h)) (n : ([#[32], #[9], #[11], #[12]].any fun x => x == cut D e (e + 1)) = false)
    (c : (cut D (h + N.size) (h + N.size + 2) == #[45, 45]) = true ∨ e < e + brk D e) (a : lo = true ∨ h - ahd D b h < h) : Told D N b lo (some (h - ahd D b h, e + brk D e, cut D (h + N.size) (e + brk D e))) := by
  have he := e2_G h11 s n
  obtain ⟨h1, h2, h3, h4⟩ := pin_here hp h0
  have g : good D N b lo h = true := good_of (c.imp id fun q => by omega) he (a.imp id fun q => by omega)
  refine .inl ⟨h, h1, ?_, h4, ?_⟩
  · unfold hit e0; rw [h3, g]; rfl
  · unfold res e0; rw [he]
theorem bad_G1 {D N : Array UInt8} {b : Int} {lo : Bool} {h : Int} (q : lo = false) (a : ¬ h - ahd D b h < h) : good D N b lo h = false := bad_ahead q (by omega)
theorem bad_G2 {D N : Array UInt8} {b : Int} {lo : Bool} {h e : Int} (h11 : ∀ c ∈ D, c ≠ 11 ∧ c ≠ 12) (s : skip D e = skip D (begins D N h)) (n : ([#[32], #[9], #[11], #[12]].any fun x => x == cut D e (e + 1)) = false)
    (c : (cut D (h + N.size) (h + N.size + 2) == #[45, 45]) = false) (a : ¬ e < e + brk D e) : good D N b lo h = false := bad_behind ⟨c, e2_G h11 s n⟩ (by omega)
theorem not_in5 {n1 n2 n3 n4 n5 z : Str} (h : [n1, n2, n3, n4, n5].contains z = false) : z ≠ n1 ∧ z ≠ n2 ∧ z ≠ n3 ∧ z ≠ n4 ∧ z ≠ n5 :=
  let h1 := not_in h; ⟨h1.1, not_in4 h1.2⟩
end Mine
/- part C2 -/
namespace Mine
local macro_rules | `(tactic| walk_at "subscriptTail") => `(tactic| (k_here; (with_reducible show wpAny _ _ (subscriptTail _ (Expr.Slice (some _) (some _) none _) (Value.bytes _ _) (Value.ref _)) _ _ _); (with_reducible rename Fr _ _ _ _ => F'); (with_reducible rename News _ _ _ _ => N'); (refine slice_cut (s := ⟨_, _, _, _, _⟩) F' N' (by omega) (by omega) (by omega) ?_); intro _ _ _ F' N'; (try k_sweep)))
local macro_rules | `(tactic| walk_at "compareOp Eq bytes bytes") => `(tactic| refine eq_cut ?_)
local macro_rules | `(tactic| walk_at "compareOp NotEq bytes bytes") => `(tactic| refine ne_cut ?_)
local macro_rules | `(tactic| walk_at "binaryOp Add bytes bytes") => `(tactic| ((refine KBy.add_bytes (by first | decide | (simp only [List.size_toArray, List.length_cons, List.length_nil, Array.size_append]; omega)) ?_); intro _ _))
local macro_rules | `(tactic| walk_at "compareOp In bytes ref") => `(tactic| (k_here; (with_unfolding_all refine' in_tup_bytes ?k1 ?k2 ?_; (case k1 => exact News.isTup (by k_asm) (by news_mem)); (case k2 => repeat constructor); k_whole)))
local macro_rules | `(tactic| walk_at "call ref") => `(tactic| (k_here; (with_reducible show wpAny _ _ (call (Value.ref 126) _) _ _ _); k_dflt (refine' Claim.use (broken_ok _ _ _ _ _ _ _ _ _ (by omega) (by omega)) ?kB ?kF ?kX ?kN ?kT ?kk ?kd ?ku ?_; (case kB => k_asm); (case kF => k_asm); (case kX => k_asm); (case kN => k_asm); (case kT => k_asm); (case kk => first | exact rfl | assumption); (case kd => ktr_room); (case ku => ktr_units)); intro v' h' tk' own' hR' F' N'; obtain ⟨hR1, hR0, t', hR2⟩ := hR'; subst hR1; subst hR2; (try simp only [List.nil_append] at N'); (try k_sweep)))
local macro_rules | `(tactic| walk_at "call ref") => `(tactic| (k_here; (with_reducible show wpAny _ _ (call (Value.ref 133) _) _ _ _); k_dflt (refine' Claim.use (ahead_ok _ _ _ _ _ _ _ _ _ _ _ (by omega) (by omega) (by omega)) ?kB ?kF ?kX ?kN ?kT ?kk ?kd ?ku ?_; (case kB => k_asm); (case kF => k_asm); (case kX => k_asm); (case kN => k_asm); (case kT => k_asm); (case kk => first | exact rfl | assumption); (case kd => ktr_room); (case ku => ktr_units)); intro v' h' tk' own' hR' F' N'; obtain ⟨hR1, hR0, t', hR2⟩ := hR'; subst hR1; subst hR2; (try simp only [List.nil_append] at N'); (try k_sweep)))
local macro_rules | `(tactic| walk_at "InvEndN") => `(tactic| k_dflt ((with_reducible rename News _ _ _ _ => nE'); (with_reducible rename Fr _ _ _ _ => fE'); (refine' kst_end () fE' nE' ?a1 ?a2 ?a3 True.intro (List.forall_mem_nil _) ?a4 ?a5); (case a1 => intro p hp; first | exact List.mem_append_left _ hp | exact .tail _ (List.mem_append_left _ hp) | exact .tail _ (.tail _ (List.mem_append_left _ hp))); (case a2 => intro p hp; first | exact List.mem_append_right _ hp | exact .tail _ (List.mem_append_right _ hp) | exact .tail _ (.tail _ (List.mem_append_right _ hp))); (case a3 => exact rfl); (case a4 => intro z hx hp hs; obtain ⟨n1, n2, n3, n4⟩ := not_in4 hs; (repeat (first | with_reducible refine (if_neg (by assumption)).trans ?_ | with_reducible refine ite_nil.trans ?_)); with_reducible exact ite_last hs); (case a5 => exact upto_snoc (by assumption) (by assumption) (by first | exact hit_no (by assumption) | exact hit_bad (bad_ahead (by assumption) (by assumption)) | exact hit_bad (bad_behind (e2_open (by assumption) (by assumption) (by assumption)) (by assumption))))))
local macro_rules | `(tactic| walk_at "KswEnd") => `(tactic| k_dflt ((with_reducible rename News _ _ _ _ => nE'); (with_reducible rename Fr _ _ _ _ => fE'); (refine ksw_end ⟨_, _⟩ fE' nE' ?a1 True.intro (List.forall_mem_cons.mpr ⟨if_pos rfl, List.forall_mem_nil _⟩) ?a3 ?a4 ?a5); (case a1 => intro p hp; first | exact hp | exact .tail _ hp | exact .tail _ (.tail _ hp)); (case a3 => intro z hz hs; (have n1 := hz _ (.head _)); (repeat (first | with_reducible refine (if_neg n1).trans ?_ | with_reducible refine ite_nil.trans ?_)); (repeat (with_reducible refine Eq.trans ?_ (if_neg n1).symm)); with_reducible exact rfl); (case a4 => exact skip_inv (by assumption) (by assumption) (by assumption) (by assumption)); (case a5 => exact skip_less (by assumption) (by assumption) (by assumption))))
set_option maxRecDepth 100000 in
set_option maxHeartbeats 8000000 in
theorem first_ok (w : World) (mean : ExcName → Option Value) (mg mb : Str → Option Value) (news : List (Addr × Obj)) (D M : Array UInt8) (tD tM : Tok) (b : Int) (tb : Tok) (lo : Bool) (hb : 0 ≤ b) (hb3 : b ≤ 3) (hD : D.size ≤ 1000) (hM : M.size ≤ 100) :
    Claim w mean mg mb 6 40 140 news [.bytes D tD, .bytes M tM, .int b tb, .bool lo] (fun v own => (Told D (#[45, 45] ++ M) b lo none ∧ v = .none ∧ own = []) ∨
      ∃ r t1 t2 t3 x y z, Told D (#[45, 45] ++ M) b lo (some (x, y, z)) ∧ v = .ref r ∧ own = [(r, { cls := .type "tuple", data := .seq #[.int x t1, .int y t2, .bytes z t3] })]) := by
  unfold Claim
  k_fill
  intro dp un gd cn cs a ccd cl outer A₀ base h₀ L m s Q E B F X N T hk hd' hu hret
  refine wpAny_call ?_
  k_dflt cell_enter
  k_with_none
  k_with "pyIter ref" => ((with_reducible show wpAny _ _ (pyIter (Value.ref _)) (fun it s₂ => LoopAtV _ _ _ _ _ _ _ _ _ it s₂) _ _); (rename Fr _ _ _ _ => lF'); (rename News _ _ _ _ => lN'); (rename IsRange _ _ _ _ _ _ _ _ => rgX); (with_unfolding_all refine' kst_range (σ := Unit) (fun _ => news) (fun _ => []) (fun _ => True) ["end", "closed", "ahead", "behind"] (fun pre _ => ∀ j, b ≤ j → j < b + (pre.length : Int) → hit D (#[45, 45] ++ M) b lo j = false) () (by rfl) rgX (small_one (by omega) (by omega) (by omega) (by omega)) (rangeSize_nat _ _) lF' lN' True.intro (List.forall_mem_nil _) (by intro j h1 h2; exact absurd (Int.lt_of_le_of_lt h1 h2) (by simp)) ?g1 ?g2); (case' g1 => intro c kPre kN kT kU kH kTk kOwn kEq kLt kOff kFacts kInv kFr kNews); (case' g2 => intro c kU kH kTk kFacts kInv kFr kNews); (all_goals (try clear lF' lN')); (all_goals (dsimp only [kstB] at kFr)); (all_goals (try k_fold)))
  k_with "exec While Compare cons nil" => k_while_given ["end!"] (fun e₀ _ e => skip D e = skip D e₀ ∧ 0 ≤ e₀ ∧ e₀ ≤ e) (fun _ _ e => D.size - e.toNat) "end"
  k_with "state" => first | exact ⟨rfl, by omega, by omega⟩ | exact skip_inv (by assumption) (by assumption) (by assumption) (by assumption)
  k_with "measure" => exact skip_less (by assumption) (by assumption) (by assumption)
  k_steps
  all_goals (try (refine strip2 ?_; k_steps))
  all_goals first
    | exact hret _ _ _ [] (.inl ⟨told_none' hb (by assumption), rfl, rfl⟩) (by k_asm) (by k_asm)
    | (refine hret _ _ _ [_] (.inr ⟨_, _, _, _, _, _, _, ?_, rfl, rfl⟩) (by k_asm) (dropTo (by k_asm) (by intro p hp; rcases List.mem_cons.mp hp with hp | hp <;> first | exact hp ▸ List.Mem.head _ | exact .tail _ (.tail _ (.tail _ (List.mem_append_left _ hp))))); first
      | exact told_closed (by omega) (fun j h1 h2 => kInv j h1 (by omega)) (by assumption) (by assumption) (by assumption) (by assumption) (.inl (by assumption))
      | exact told_closed (by omega) (fun j h1 h2 => kInv j h1 (by omega)) (by assumption) (by assumption) (by assumption) (by assumption) (.inr (by assumption))
      | exact told_open (by omega) (fun j h1 h2 => kInv j h1 (by omega)) (by assumption) (by assumption) (by assumption) (by assumption) (by assumption) (.inl (by assumption))
      | exact told_open (by omega) (fun j h1 h2 => kInv j h1 (by omega)) (by assumption) (by assumption) (by assumption) (by assumption) (by assumption) (.inr (by assumption)))
end Mine
/- part C3 -/
namespace Mine
local macro_rules | `(tactic| walk_at "subscriptTail") => `(tactic| (k_here; (with_reducible show wpAny _ _ (subscriptTail _ (Expr.Slice (some _) (some _) none _) (Value.bytes _ _) (Value.ref _)) _ _ _); (with_reducible rename Fr _ _ _ _ => F'); (with_reducible rename News _ _ _ _ => N'); (refine slice_cut (s := ⟨_, _, _, _, _⟩) F' N' (by omega) (by omega) (by omega) ?_); intro _ _ _ F' N'; (try k_sweep)))
local macro_rules | `(tactic| walk_at "compareOp Eq bytes bytes") => `(tactic| refine eq_cut ?_)
local macro_rules | `(tactic| walk_at "compareOp NotEq bytes bytes") => `(tactic| refine ne_cut ?_)
local macro_rules | `(tactic| walk_at "binaryOp Add bytes bytes") => `(tactic| ((refine KBy.add_bytes (by first | decide | (simp only [List.size_toArray, List.length_cons, List.length_nil, Array.size_append]; omega)) ?_); intro _ _))
local macro_rules | `(tactic| walk_at "compareOp In bytes ref") => `(tactic| (k_here; (with_unfolding_all refine' in_tup_bytes ?k1 ?k2 ?_; (case k1 => exact News.isTup (by k_asm) (by news_mem)); (case k2 => repeat constructor); k_whole)))
local macro_rules | `(tactic| walk_at "call ref") => `(tactic| (k_here; (with_reducible show wpAny _ _ (call (Value.ref 78) _) _ _ _); k_dflt (refine' Claim.use (breakEnd_ok _ _ _ _ _ _ _ _ _ (by omega) (by omega)) ?kB ?kF ?kX ?kN ?kT ?kk ?kd ?ku ?_; (case kB => k_asm); (case kF => k_asm); (case kX => k_asm); (case kN => k_asm); (case kT => k_asm); (case kk => first | exact rfl | assumption); (case kd => ktr_room); (case ku => ktr_units)); intro v' h' tk' own' hR' F' N'; obtain ⟨hR1, hR0, t', hR2⟩ := hR'; subst hR1; subst hR2; (try simp only [List.nil_append] at N'); (try k_sweep)))
local macro_rules | `(tactic| walk_at "getMethod bytes") => `(tactic| (k_here; (with_reducible refine method_find ?_)))
local macro_rules | `(tactic| walk_at "call builtin:bytes.find") => `(tactic| (k_here; (refine find_any (by omega) ?_); intro _ _))
local macro_rules | `(tactic| k_get) => `(tactic| (first | assumption | (show getL _ _ = _; assumption)))
local macro_rules | `(tactic| walk_at "KswEnd") => `(tactic| k_dflt ((with_reducible rename News _ _ _ _ => nE'); (with_reducible rename Fr _ _ _ _ => fE'); (refine ksw_end ⟨_, _⟩ fE' nE' ?a1 True.intro (List.forall_mem_cons.mpr ⟨if_pos rfl, List.forall_mem_nil _⟩) ?a3 ?a4 ?a5); (case a1 => intro p hp; first | exact hp | exact .tail _ hp | exact .tail _ (.tail _ hp)); (case a4 => first | exact skip_inv4 (by assumption) (by assumption) (by assumption) (by assumption) (by assumption) | exact pin_next (by assumption) (by assumption) (by assumption) (bad_G1 (by assumption) (by assumption)) | exact pin_next (by assumption) (by assumption) (by assumption) (bad_G2 (by assumption) (by assumption) (by assumption) (by assumption) (by assumption))); (case a5 => first | exact skip_less4 (by assumption) (by assumption) (by assumption) (by assumption) | exact meas_less (by assumption) (by assumption)); (case a3 => intro z hz hs; (have n1 := hz _ (.head _)); first | ((repeat (first | with_reducible refine (if_neg n1).trans ?_ | with_reducible refine ite_nil.trans ?_)); (repeat (with_reducible refine Eq.trans ?_ (if_neg n1).symm)); with_reducible exact rfl) | (obtain ⟨n2, n3, n4, n5, n6⟩ := not_in5 hs; (repeat (first | with_reducible refine (if_neg (by assumption)).trans ?_ | with_reducible refine ite_nil.trans ?_)); (with_reducible refine (ite_last hs).trans ?_); (repeat (with_reducible refine (if_neg (by assumption)).trans ?_)); (repeat (with_reducible refine Eq.trans ?_ (if_neg (by assumption)).symm)); with_reducible exact rfl))))
theorem rest_ne {rest : List (Addr × Obj)} {c d : Addr} (h : ∀ p ∈ rest, p.1 < c) (hd : c ≤ d) : ∀ p ∈ rest, p.1 ≠ d := fun p hp => Nat.ne_of_lt (Nat.lt_of_lt_of_le (h p hp) hd)
local macro_rules | `(tactic| k_all) => `(tactic| (refine rest_ne (by assumption) ?_; omega))
def JoinP (h₀ : Heap) (L : Addr) (m : Str → Option Value) (news : List (Addr × Obj)) (x : Str) (v : Int) (s : Shared) (f : Flow) (s' : Shared) : Prop :=
  f = .next ∧ ∃ h' tk t news', s' = { s with heap := h', toks := tk } ∧ Fr h₀ L h' (fun y => if y = x then some (.int v t) else m y) ∧ News h₀ L h' news' ∧ ∀ p ∈ news, p ∈ news'
section
variable {M : Model} {A : Around} {E : Value → Shared → Prop} {s : Shared} {h₀ h : Heap} {L : Addr} {m : Str → Option Value} {news news' : List (Addr × Obj)} {x : Str} {v v' : Int} {t : Tok} {tk : Nat}
theorem join_x {T : Sem Flow} {Q : Flow → Shared → Prop} (x : Str) (v : Int) (F : Fr h₀ L s.heap m) (N : News h₀ L s.heap news) (h : wpAny M A T (JoinP h₀ L m news x v s) E s)
    (k : ∀ h' tk t, Fr h₀ L h' (fun y => if y = x then some (.int v t) else m y) → News h₀ L h' news → Q .next { s with heap := h', toks := tk }) : wpAny M A T Q E s := by
  refine wpAny_mono h (fun f s' hj => ?_) fun _ _ e => e
  obtain ⟨rfl, h', tk, t, news', rfl, F', N', hn⟩ := hj
  exact k h' tk t F' (dropTo N' hn)
theorem join_a (e : v' = v) (F : Fr h₀ L h (fun y => if y = x then some (.int v' t) else m y)) (N : News h₀ L h news') (hn : ∀ p ∈ news, p ∈ news') : JoinP h₀ L m news x v s .next { s with heap := h, toks := tk } := by
  subst e
  exact ⟨rfl, h, tk, t, news', rfl, F, N, hn⟩
theorem join_b (e : v' = v) (hm : m x = some (.int v' t)) (F : Fr h₀ L h m) (N : News h₀ L h news') (hn : ∀ p ∈ news, p ∈ news') : JoinP h₀ L m news x v s .next { s with heap := h, toks := tk } := by
  subst e
  refine ⟨rfl, h, tk, t, news', rfl, ?_, N, hn⟩
  have em : (fun y => if y = x then some (Value.int v' t) else m y) = m := by
    funext y
    by_cases q : y = x
    · rw [if_pos q, q, hm]
    · rw [if_neg q]
  rw [em]; exact F
theorem join_start {T : Sem Flow} {Q : Flow → Shared → Prop} (D : Array UInt8) (b : Int) {hv : Int} {th : Tok} (F : Fr h₀ L s.heap m) (N : News h₀ L s.heap news) (_hh : m (Str.ofString "here") = some (.int hv th)) (h : wpAny M A T (JoinP h₀ L m news (Str.ofString "start") (hv - ahd D b hv) s) E s)
    (k : ∀ h' tk t, Fr h₀ L h' (fun y => if y = Str.ofString "start" then some (.int (hv - ahd D b hv) t) else m y) → News h₀ L h' news → Q .next { s with heap := h', toks := tk }) : wpAny M A T Q E s := join_x _ _ F N h k
theorem join_end {T : Sem Flow} {Q : Flow → Shared → Prop} (D Mk : Array UInt8) {hv : Int} {th : Tok} (F : Fr h₀ L s.heap m) (N : News h₀ L s.heap news) (_hh : m (Str.ofString "here") = some (.int hv th)) (h : wpAny M A T (JoinP h₀ L m news (Str.ofString "end") (begins D Mk hv) s) E s)
    (k : ∀ h' tk t, hv ≤ begins D Mk hv → Fr h₀ L h' (fun y => if y = Str.ofString "end" then some (.int (begins D Mk hv) t) else m y) → News h₀ L h' news → Q .next { s with heap := h', toks := tk }) : wpAny M A T Q E s := join_x _ _ F N h fun h' tk t => k h' tk t (begins_ge _ _ _)
end
theorem start_2 {D : Array UInt8} {b h : Int} (e : 2 = ahd D b h) : h - 2 = h - ahd D b h := by rw [← e]
theorem start_1 {D : Array UInt8} {b h : Int} (e : 1 = ahd D b h) : h - 1 = h - ahd D b h := by rw [← e]
theorem start_0 {D : Array UInt8} {b h : Int} (e : 0 = ahd D b h) : h = h - ahd D b h := by rw [← e]; exact (Int.sub_zero h).symm
local macro_rules | `(tactic| k_room) => `(tactic| ktr_room)
local macro_rules | `(tactic| k_units) => `(tactic| ktr_units)
local macro_rules | `(tactic| walk_at "exec If BoolOp") => `(tactic| (k_here; (with_reducible show wpAny _ _ (exec (Stmt.If _ _ [_] _) _) _ _ _); k_extra "joinstart"))
local macro_rules | `(tactic| walk_at "exec Assign") => `(tactic| (k_here; (with_reducible show wpAny _ _ (exec (Stmt.Assign [_] (Expr.IfExp _ _ _ _) _) _) _ _ _); k_extra "joinend"))
local macro_rules | `(tactic| walk_at "JoinP") => `(tactic| with_reducible ((with_reducible rename News _ _ _ _ => nE'); (with_reducible rename Fr _ _ _ _ => fE'); first
  | exact join_a (start_2 (ahd_2 (by assumption) (by assumption))) fE' nE' (by k_dflt (intro p hp; first | exact hp | exact .tail _ hp | exact .tail _ (.tail _ hp)))
  | exact join_a (start_1 (ahd_1 (.inl (by assumption)) (by assumption) (by assumption))) fE' nE' (by k_dflt (intro p hp; first | exact hp | exact .tail _ hp | exact .tail _ (.tail _ hp)))
  | exact join_a (start_1 (ahd_1 (.inr (by assumption)) (by omega) (by assumption))) fE' nE' (by k_dflt (intro p hp; first | exact hp | exact .tail _ hp | exact .tail _ (.tail _ hp)))
  | exact join_b (start_0 (ahd_0 (.inl (by assumption)) (.inl (by assumption)))) (by k_dflt rfl) fE' nE' (by k_dflt (intro p hp; first | exact hp | exact .tail _ hp | exact .tail _ (.tail _ hp)))
  | exact join_b (start_0 (ahd_0 (.inl (by assumption)) (.inr (by assumption)))) (by k_dflt rfl) fE' nE' (by k_dflt (intro p hp; first | exact hp | exact .tail _ hp | exact .tail _ (.tail _ hp)))
  | exact join_b (start_0 (ahd_0 (.inr (by assumption)) (.inr (by assumption)))) (by k_dflt rfl) fE' nE' (by k_dflt (intro p hp; first | exact hp | exact .tail _ hp | exact .tail _ (.tail _ hp)))
  | exact join_a (begins_1 (by assumption)) fE' nE' (by k_dflt (intro p hp; first | exact hp | exact .tail _ hp | exact .tail _ (.tail _ hp)))
  | exact join_a (begins_0 (by assumption)) fE' nE' (by k_dflt (intro p hp; first | exact hp | exact .tail _ hp | exact .tail _ (.tail _ hp)))))
theorem drop4 {h₀ h : Heap} {L : Addr} {a b c d : Addr × Obj} {r : List (Addr × Obj)} (N : News h₀ L h (a :: b :: c :: d :: r)) : News h₀ L h (a :: b :: c :: r) := dropTo N fun p hp => by
  rcases List.mem_cons.mp hp with rfl | hp
  · exact .head _
  rcases List.mem_cons.mp hp with rfl | hp
  · exact .tail _ (.head _)
  rcases List.mem_cons.mp hp with rfl | hp
  · exact .tail _ (.tail _ (.head _))
  · exact .tail _ (.tail _ (.tail _ (.tail _ hp)))
set_option maxRecDepth 100000 in
set_option maxHeartbeats 8000000 in
theorem search_ok (w : World) (mean : ExcName → Option Value) (mg mb : Str → Option Value) (rest : List (Addr × Obj)) (x dx : Addr) (es : List DictEntry) (ne : Nat) (D M : Array UInt8) (tD tM : Tok) (b : Int) (tb : Tok) (lo : Bool)
    (hes1 : getL (Str.ofString "boundary") es = some (some (.bytes M tM))) (hes2 : getL (Str.ofString "loose") es = some (some (.bool lo)))
    (hb : 0 ≤ b) (hb3 : b ≤ 3) (hD : D.size ≤ 1000) (hM : M.size ≤ 100) (h11 : ∀ c ∈ D, c ≠ 11 ∧ c ≠ 12) :
    Claim w mean mg mb 6 40 100 ((x, instObj 103 dx) :: (dx, dictOf es ne) :: rest) [.ref x, .bytes D tD, .int b tb] (fun v own => (Told D (#[45, 45] ++ M) b lo none ∧ v = .none ∧ own = []) ∨
      ∃ r d l k1 k2 k3 t1 t2 t3 p0 x y z, Told D (#[45, 45] ++ M) b lo (some (x, y, z)) ∧ v = .ref r ∧ own = [(r, instObj 67 d), (d, dictOf [{ hash := PyData.keyHash w.params (Str.ofString "_start"), key := .str (Str.ofString "_start") k1, val := .int x t1 }, { hash := PyData.keyHash w.params (Str.ofString "_end"), key := .str (Str.ofString "_end") k2, val := .int y t2 }, { hash := PyData.keyHash w.params (Str.ofString "_parts"), key := .str (Str.ofString "_parts") k3, val := .ref l }] 3), (l, listOf #[p0, .bytes z t3] 0)]) := by
  unfold Claim
  k_fill
  intro dp un gd cn cs a ccd cl outer A₀ base h₀ L m s Q E B F X N T hk hd' hu hret
  refine wpAny_call ?_
  k_dflt (refine' code_def ?k1 ?k2 ?k3 ?k4 ?k5 ?kA ?kF ?kK ?k6 ?k7 ?k8 ?k9 ?kB ?_ ?c2 ?c3 ?c4 ?c5; (case kA => exact rfl); (case kF => exact rfl); (case kK => assumption); (case k1 => k_asm); (case k2 => k_asm); (case k3 => k_asm); (case k4 => k_asm); (case k5 => k_asm); (case k6 => k_is); (case k7 => k_is); (case k8 => ktr_room); (case k9 => exact binds_K (by k_in) rfl (by k_is) rfl rfl rfl); (case c5 => decide); (case kB => exact locs rfl); (case c2 => exact rfl); (case c3 => exact rfl); (case c4 => exact rfl); k_whole; intro g' L' h' FG' F' N' B' X' T'; (try dsimp only); (try k_lift B'); (try k_fold))
  k_with_none
  k_with "exec While Compare cons nil" => first | (k_while_given ["end!"] (fun e₀ _ e => skip D e = skip D e₀ ∧ 0 ≤ e₀ ∧ e₀ ≤ e) (fun _ _ e => D.size - e.toNat) "end") | (k_while (fun _ here => Pin D (#[45, 45] ++ M) b lo here) (fun _ here => meas D here) "here")
  k_with "state" => first | exact pin_start (by assumption) | exact ⟨rfl, by omega, by omega⟩
  k_with "joinstart" => ((fail_if_success (with_reducible show wpAny _ _ _ (JoinP _ _ _ _ _ _ _) _ _)); (rename Fr _ _ _ _ => jF); (rename News _ _ _ _ => jN); k_dflt (refine join_start D b jF jN (by rfl) ?_ ?_); rotate_left; (intro h' tk' t' F' N'; have kAhd := ahd_le (D := D) (pin_here kInv (by assumption)).1); (try clear jF jN); rotate_left)
  k_with "joinend" => ((fail_if_success (with_reducible show wpAny _ _ _ (JoinP _ _ _ _ _ _ _) _ _)); (rename Fr _ _ _ _ => jF); (rename News _ _ _ _ => jN); k_dflt (refine join_end D (#[45, 45] ++ M) jF jN (by rfl) ?_ ?_); rotate_left; intro h' tk' t' kBeg F' N'; (try clear jF jN); rotate_left)
  k_steps
  all_goals (try (refine strip2 ?_; k_steps))
  all_goals first
    | exact hret _ _ _ [] (.inl ⟨pin_end (by assumption) (by assumption) (by assumption), rfl, rfl⟩) (by k_asm) (by k_asm)
    | ((rename News _ _ _ _ => nE'); refine hret _ _ _ [_, _, _] (.inr ⟨_, _, _, _, _, _, _, _, _, _, _, _, _, ?_, rfl, rfl⟩) (by k_asm) (drop4 nE'); first
      | exact told_G (by assumption) (by assumption) (by assumption) (by assumption) (by assumption) (.inl (by assumption)) (.inl (by assumption))
      | exact told_G (by assumption) (by assumption) (by assumption) (by assumption) (by assumption) (.inl (by assumption)) (.inr (by assumption))
      | exact told_G (by assumption) (by assumption) (by assumption) (by assumption) (by assumption) (.inr (by assumption)) (.inl (by assumption))
      | exact told_G (by assumption) (by assumption) (by assumption) (by assumption) (by assumption) (.inr (by assumption)) (.inr (by assumption)))
end Mine
/- part C4 -/
namespace Mine.Two
open Mine
local macro_rules | `(tactic| walk_at "none such") => `(tactic| fail)
local macro_rules | `(tactic| walk_at "subscriptTail") => `(tactic| (k_here; (with_reducible show wpAny _ _ (subscriptTail _ (Expr.Slice (some _) (some _) none _) (Value.bytes _ _) (Value.ref _)) _ _ _); (with_reducible rename Fr _ _ _ _ => F'); (with_reducible rename News _ _ _ _ => N'); (refine slice_cut (s := ⟨_, _, _, _, _⟩) F' N' (by omega) (by omega) (by omega) ?_); intro _ _ _ F' N'; (try k_sweep)))
local macro_rules | `(tactic| walk_at "compareOp Eq bytes bytes") => `(tactic| refine eq_cut ?_)
local macro_rules | `(tactic| walk_at "compareOp NotEq bytes bytes") => `(tactic| refine ne_cut ?_)
local macro_rules | `(tactic| walk_at "binaryOp Add bytes bytes") => `(tactic| ((refine KBy.add_bytes (by first | decide | (simp only [List.size_toArray, List.length_cons, List.length_nil, Array.size_append]; omega)) ?_); intro _ _))
local macro_rules | `(tactic| walk_at "compareOp In bytes ref") => `(tactic| (k_here; (with_unfolding_all refine' in_tup_bytes ?k1 ?k2 ?_; (case k1 => exact News.isTup (by k_asm) (by news_mem)); (case k2 => repeat constructor); k_whole)))
local macro_rules | `(tactic| walk_at "call ref") => `(tactic| (k_here; (with_reducible show wpAny _ _ (call (Value.ref 78) _) _ _ _); k_dflt (refine' Claim.use (breakEnd_ok _ _ _ _ _ _ _ _ _ (by omega) (by omega)) ?kB ?kF ?kX ?kN ?kT ?kk ?kd ?ku ?_; (case kB => k_asm); (case kF => k_asm); (case kX => k_asm); (case kN => k_asm); (case kT => k_asm); (case kk => first | exact rfl | assumption); (case kd => ktr_room); (case ku => ktr_units)); intro v' h' tk' own' hR' F' N'; obtain ⟨hR1, hR0, t', hR2⟩ := hR'; subst hR1; subst hR2; (try simp only [List.nil_append] at N'); (try k_sweep)))
local macro_rules | `(tactic| walk_at "getMethod bytes") => `(tactic| (k_here; (with_reducible refine method_find ?_)))
local macro_rules | `(tactic| walk_at "call builtin:bytes.find") => `(tactic| (k_here; (refine find_any (by omega) ?_); intro _ _))
local macro_rules | `(tactic| k_get) => `(tactic| (first | assumption | (show getL _ _ = _; assumption)))
local macro_rules | `(tactic| walk_at "KswEnd") => `(tactic| k_dflt ((with_reducible rename News _ _ _ _ => nE'); (with_reducible rename Fr _ _ _ _ => fE'); (refine ksw_end ⟨_, _⟩ fE' nE' ?a1 True.intro (List.forall_mem_cons.mpr ⟨if_pos rfl, List.forall_mem_nil _⟩) ?a3 ?a4 ?a5); (case a1 => intro p hp; first | exact hp | exact .tail _ hp | exact .tail _ (.tail _ hp)); (case a4 => first | exact skip_inv4 (by assumption) (by assumption) (by assumption) (by assumption) (by assumption) | exact pin_next (by assumption) (by assumption) (by assumption) (bad_G1 (by assumption) (by assumption)) | exact pin_next (by assumption) (by assumption) (by assumption) (bad_G2 (by assumption) (by assumption) (by assumption) (by assumption) (by assumption))); (case a5 => first | exact skip_less4 (by assumption) (by assumption) (by assumption) (by assumption) | exact meas_less (by assumption) (by assumption)); (case a3 => intro z hz hs; (have n1 := hz _ (.head _)); first | ((repeat (first | with_reducible refine (if_neg n1).trans ?_ | with_reducible refine ite_nil.trans ?_)); (repeat (with_reducible refine Eq.trans ?_ (if_neg n1).symm)); with_reducible exact rfl) | (obtain ⟨n2, n3, n4, n5, n6⟩ := not_in5 hs; (repeat (first | with_reducible refine (if_neg (by assumption)).trans ?_ | with_reducible refine ite_nil.trans ?_)); (with_reducible refine (ite_last hs).trans ?_); (repeat (with_reducible refine (if_neg (by assumption)).trans ?_)); (repeat (with_reducible refine Eq.trans ?_ (if_neg (by assumption)).symm)); with_reducible exact rfl))))
theorem rest_ne {rest : List (Addr × Obj)} {c d : Addr} (h : ∀ p ∈ rest, p.1 < c) (hd : c ≤ d) : ∀ p ∈ rest, p.1 ≠ d := fun p hp => Nat.ne_of_lt (Nat.lt_of_lt_of_le (h p hp) hd)
local macro_rules | `(tactic| k_all) => `(tactic| (refine rest_ne (by assumption) ?_; omega))
def JoinP (h₀ : Heap) (L : Addr) (m : Str → Option Value) (news : List (Addr × Obj)) (x : Str) (v : Int) (s : Shared) (f : Flow) (s' : Shared) : Prop :=
  f = .next ∧ ∃ h' tk t news', s' = { s with heap := h', toks := tk } ∧ Fr h₀ L h' (fun y => if y = x then some (.int v t) else m y) ∧ News h₀ L h' news' ∧ ∀ p ∈ news, p ∈ news'
section
variable {M : Model} {A : Around} {E : Value → Shared → Prop} {s : Shared} {h₀ h : Heap} {L : Addr} {m : Str → Option Value} {news news' : List (Addr × Obj)} {x : Str} {v v' : Int} {t : Tok} {tk : Nat}
theorem join_x {T : Sem Flow} {Q : Flow → Shared → Prop} (x : Str) (v : Int) (F : Fr h₀ L s.heap m) (N : News h₀ L s.heap news) (h : wpAny M A T (JoinP h₀ L m news x v s) E s)
    (k : ∀ h' tk t, Fr h₀ L h' (fun y => if y = x then some (.int v t) else m y) → News h₀ L h' news → Q .next { s with heap := h', toks := tk }) : wpAny M A T Q E s := by
  refine wpAny_mono h (fun f s' hj => ?_) fun _ _ e => e
  obtain ⟨rfl, h', tk, t, news', rfl, F', N', hn⟩ := hj
  exact k h' tk t F' (dropTo N' hn)
theorem join_a (e : v' = v) (F : Fr h₀ L h (fun y => if y = x then some (.int v' t) else m y)) (N : News h₀ L h news') (hn : ∀ p ∈ news, p ∈ news') : JoinP h₀ L m news x v s .next { s with heap := h, toks := tk } := by
  subst e
  exact ⟨rfl, h, tk, t, news', rfl, F, N, hn⟩
theorem join_b (e : v' = v) (hm : m x = some (.int v' t)) (F : Fr h₀ L h m) (N : News h₀ L h news') (hn : ∀ p ∈ news, p ∈ news') : JoinP h₀ L m news x v s .next { s with heap := h, toks := tk } := by
  subst e
  refine ⟨rfl, h, tk, t, news', rfl, ?_, N, hn⟩
  have em : (fun y => if y = x then some (Value.int v' t) else m y) = m := by
    funext y
    by_cases q : y = x
    · rw [if_pos q, q, hm]
    · rw [if_neg q]
  rw [em]; exact F
theorem join_start {T : Sem Flow} {Q : Flow → Shared → Prop} (D : Array UInt8) (b : Int) {hv : Int} {th : Tok} (F : Fr h₀ L s.heap m) (N : News h₀ L s.heap news) (_hh : m (Str.ofString "here") = some (.int hv th)) (h : wpAny M A T (JoinP h₀ L m news (Str.ofString "start") (hv - ahd D b hv) s) E s)
    (k : ∀ h' tk t, Fr h₀ L h' (fun y => if y = Str.ofString "start" then some (.int (hv - ahd D b hv) t) else m y) → News h₀ L h' news → Q .next { s with heap := h', toks := tk }) : wpAny M A T Q E s := join_x _ _ F N h k
theorem join_end {T : Sem Flow} {Q : Flow → Shared → Prop} (D Mk : Array UInt8) {hv : Int} {th : Tok} (F : Fr h₀ L s.heap m) (N : News h₀ L s.heap news) (_hh : m (Str.ofString "here") = some (.int hv th)) (h : wpAny M A T (JoinP h₀ L m news (Str.ofString "end") (begins D Mk hv) s) E s)
    (k : ∀ h' tk t, hv ≤ begins D Mk hv → Fr h₀ L h' (fun y => if y = Str.ofString "end" then some (.int (begins D Mk hv) t) else m y) → News h₀ L h' news → Q .next { s with heap := h', toks := tk }) : wpAny M A T Q E s := join_x _ _ F N h fun h' tk t => k h' tk t (begins_ge _ _ _)
end
theorem start_2 {D : Array UInt8} {b h : Int} (e : 2 = ahd D b h) : h - 2 = h - ahd D b h := by rw [← e]
theorem start_1 {D : Array UInt8} {b h : Int} (e : 1 = ahd D b h) : h - 1 = h - ahd D b h := by rw [← e]
theorem start_0 {D : Array UInt8} {b h : Int} (e : 0 = ahd D b h) : h = h - ahd D b h := by rw [← e]; exact (Int.sub_zero h).symm
local macro_rules | `(tactic| k_room) => `(tactic| ktr_room)
local macro_rules | `(tactic| k_units) => `(tactic| ktr_units)
local macro_rules | `(tactic| walk_at "exec If BoolOp") => `(tactic| (k_here; (with_reducible show wpAny _ _ (exec (Stmt.If _ _ [_] _) _) _ _ _); k_extra "joinstart"))
local macro_rules | `(tactic| walk_at "exec Assign") => `(tactic| (k_here; (with_reducible show wpAny _ _ (exec (Stmt.Assign [_] (Expr.IfExp _ _ _ _) _) _) _ _ _); k_extra "joinend"))
local macro_rules | `(tactic| walk_at "JoinP") => `(tactic| with_reducible ((with_reducible rename News _ _ _ _ => nE'); (with_reducible rename Fr _ _ _ _ => fE'); first
  | exact join_a (start_2 (ahd_2 (by assumption) (by assumption))) fE' nE' (by k_dflt (intro p hp; first | exact hp | exact .tail _ hp | exact .tail _ (.tail _ hp)))
  | exact join_a (start_1 (ahd_1 (.inl (by assumption)) (by assumption) (by assumption))) fE' nE' (by k_dflt (intro p hp; first | exact hp | exact .tail _ hp | exact .tail _ (.tail _ hp)))
  | exact join_a (start_1 (ahd_1 (.inr (by assumption)) (by omega) (by assumption))) fE' nE' (by k_dflt (intro p hp; first | exact hp | exact .tail _ hp | exact .tail _ (.tail _ hp)))
  | exact join_b (start_0 (ahd_0 (.inl (by assumption)) (.inl (by assumption)))) (by k_dflt rfl) fE' nE' (by k_dflt (intro p hp; first | exact hp | exact .tail _ hp | exact .tail _ (.tail _ hp)))
  | exact join_b (start_0 (ahd_0 (.inl (by assumption)) (.inr (by assumption)))) (by k_dflt rfl) fE' nE' (by k_dflt (intro p hp; first | exact hp | exact .tail _ hp | exact .tail _ (.tail _ hp)))
  | exact join_b (start_0 (ahd_0 (.inr (by assumption)) (.inr (by assumption)))) (by k_dflt rfl) fE' nE' (by k_dflt (intro p hp; first | exact hp | exact .tail _ hp | exact .tail _ (.tail _ hp)))
  | exact join_a (begins_1 (by assumption)) fE' nE' (by k_dflt (intro p hp; first | exact hp | exact .tail _ hp | exact .tail _ (.tail _ hp)))
  | exact join_a (begins_0 (by assumption)) fE' nE' (by k_dflt (intro p hp; first | exact hp | exact .tail _ hp | exact .tail _ (.tail _ hp)))))
theorem drop4 {h₀ h : Heap} {L : Addr} {a b c d : Addr × Obj} {r : List (Addr × Obj)} (N : News h₀ L h (a :: b :: c :: d :: r)) : News h₀ L h (a :: b :: c :: r) := dropTo N fun p hp => by
  rcases List.mem_cons.mp hp with rfl | hp
  · exact .head _
  rcases List.mem_cons.mp hp with rfl | hp
  · exact .tail _ (.head _)
  rcases List.mem_cons.mp hp with rfl | hp
  · exact .tail _ (.tail _ (.head _))
  · exact .tail _ (.tail _ (.tail _ (.tail _ hp)))
set_option maxRecDepth 100000 in
set_option maxHeartbeats 8000000 in
theorem search0_ok (w : World) (mean : ExcName → Option Value) (mg mb : Str → Option Value) (rest : List (Addr × Obj)) (x dx : Addr) (es : List DictEntry) (ne : Nat) (D M : Array UInt8) (tD tM : Tok) (lo : Bool)
    (hes1 : getL (Str.ofString "boundary") es = some (some (.bytes M tM))) (hes2 : getL (Str.ofString "loose") es = some (some (.bool lo)))
    (hb : (0 : Int) ≤ 0) (hD : D.size ≤ 1000) (hM : M.size ≤ 100) (h11 : ∀ c ∈ D, c ≠ 11 ∧ c ≠ 12) :
    Claim w mean mg mb 6 40 100 ((x, instObj 103 dx) :: (dx, dictOf es ne) :: rest) [.ref x, .bytes D tD] (fun v own => (Told D (#[45, 45] ++ M) 0 lo none ∧ v = .none ∧ own = []) ∨
      ∃ r d l k1 k2 k3 t1 t2 t3 p0 x y z, Told D (#[45, 45] ++ M) 0 lo (some (x, y, z)) ∧ v = .ref r ∧ own = [(r, instObj 67 d), (d, dictOf [{ hash := PyData.keyHash w.params (Str.ofString "_start"), key := .str (Str.ofString "_start") k1, val := .int x t1 }, { hash := PyData.keyHash w.params (Str.ofString "_end"), key := .str (Str.ofString "_end") k2, val := .int y t2 }, { hash := PyData.keyHash w.params (Str.ofString "_parts"), key := .str (Str.ofString "_parts") k3, val := .ref l }] 3), (l, listOf #[p0, .bytes z t3] 0)]) := by
  unfold Claim
  k_fill
  intro dp un gd cn cs a ccd cl outer A₀ base h₀ L m s Q E B F X N T hk hd' hu hret
  refine wpAny_call ?_
  k_dflt (refine' code_def ?k1 ?k2 ?k3 ?k4 ?k5 ?kA ?kF ?kK ?k6 ?k7 ?k8 ?k9 ?kB ?_ ?c2 ?c3 ?c4 ?c5; (case kA => exact rfl); (case kF => exact rfl); (case kK => assumption); (case k1 => k_asm); (case k2 => k_asm); (case k3 => k_asm); (case k4 => k_asm); (case k5 => k_asm); (case k6 => k_is); (case k7 => k_is); (case k8 => ktr_room); (case k9 => exact binds_K (by k_in) rfl (by k_is) rfl rfl rfl); (case c5 => decide); (case kB => exact locs rfl); (case c2 => exact rfl); (case c3 => exact rfl); (case c4 => exact rfl); k_whole; intro g' L' h' FG' F' N' B' X' T'; (try dsimp only); (try k_lift B'); (try k_fold))
  k_with_none
  k_with "exec While Compare cons nil" => first | (k_while_given ["end!"] (fun e₀ _ e => skip D e = skip D e₀ ∧ 0 ≤ e₀ ∧ e₀ ≤ e) (fun _ _ e => D.size - e.toNat) "end") | (k_while (fun _ here => Pin D (#[45, 45] ++ M) 0 lo here) (fun _ here => meas D here) "here")
  k_with "state" => first | exact pin_start (by assumption) | exact ⟨rfl, by omega, by omega⟩
  k_with "joinstart" => ((fail_if_success (with_reducible show wpAny _ _ _ (JoinP _ _ _ _ _ _ _) _ _)); (rename Fr _ _ _ _ => jF); (rename News _ _ _ _ => jN); k_dflt (refine join_start D 0 jF jN (by rfl) ?_ ?_); rotate_left; (intro h' tk' t' F' N'; have kAhd := ahd_le (D := D) (pin_here kInv (by assumption)).1); (try clear jF jN); rotate_left)
  k_with "joinend" => ((fail_if_success (with_reducible show wpAny _ _ _ (JoinP _ _ _ _ _ _ _) _ _)); (rename Fr _ _ _ _ => jF); (rename News _ _ _ _ => jN); k_dflt (refine join_end D (#[45, 45] ++ M) jF jN (by rfl) ?_ ?_); rotate_left; intro h' tk' t' kBeg F' N'; (try clear jF jN); rotate_left)
  k_steps
  all_goals (try (refine strip2 ?_; k_steps))
  all_goals first
    | exact hret _ _ _ [] (.inl ⟨pin_end (by assumption) (by assumption) (by assumption), rfl, rfl⟩) (by k_asm) (by k_asm)
    | ((rename News _ _ _ _ => nE'); refine hret _ _ _ [_, _, _] (.inr ⟨_, _, _, _, _, _, _, _, _, _, _, _, _, ?_, rfl, rfl⟩) (by k_asm) (drop4 nE'); first
      | exact told_G (by assumption) (by assumption) (by assumption) (by assumption) (by assumption) (.inl (by assumption)) (.inl (by assumption))
      | exact told_G (by assumption) (by assumption) (by assumption) (by assumption) (by assumption) (.inl (by assumption)) (.inr (by assumption))
      | exact told_G (by assumption) (by assumption) (by assumption) (by assumption) (by assumption) (.inr (by assumption)) (.inl (by assumption))
      | exact told_G (by assumption) (by assumption) (by assumption) (by assumption) (by assumption) (.inr (by assumption)) (.inr (by assumption)))
end Mine.Two
/- part M0 -/
namespace Mine
open PySem.Calls PySem.Spec
def Clean (P : Array UInt8) : Prop := ∀ c ∈ P, c ≠ 11 ∧ c ≠ 12
def Piece (y : Value) : Prop := ∃ P t, y = .bytes P t ∧ P.size ≤ 8 ∧ Clean P
theorem clean_append {a b : Array UInt8} (ha : Clean a) (hb : Clean b) : Clean (a ++ b) := fun c hc => by
  rcases Array.mem_append.mp hc with h | h
  · exact ha c h
  · exact hb c h
theorem clean_picked {a : Array UInt8} (ha : Clean a) (lo hi : Option Int) : Clean (KBy.picked a lo hi) := fun c hc => by
  rw [KBc.picked_eq] at hc
  refine ha c ?_
  rw [List.mem_toArray] at hc
  exact Array.mem_def.mpr (List.mem_of_mem_drop (List.mem_of_mem_take hc))
theorem clean_of {l : List UInt8} (h : (l.all fun c => c != 11 && c != 12) = true) : Clean l.toArray := fun c hc => by
  have h1 := List.all_eq_true.mp h c (by simpa using hc)
  simpa using h1
def marks : List (Array UInt8) := [#[120, 121], #[97], #[120, 45, 121], #[98, 46, 99], #[120, 121, 120, 121]]
theorem mark_facts {B : Array UInt8} (h : B ∈ [#[120, 121], #[97], #[120, 45, 121], #[98, 46, 99], #[120, 121, 120, 121]]) : B.size ≤ 4 ∧ Clean B := by
  simp only [List.mem_cons, List.not_mem_nil, or_false] at h
  rcases h with rfl | rfl | rfl | rfl | rfl <;> exact ⟨by decide, clean_of (by decide)⟩
theorem piece_facts {B P : Array UInt8} (hB : B.size ≤ 4) (hc : Clean B)
    (h : P ∈ [#[45, 45] ++ B, #[45, 45] ++ B, #[45, 45] ++ KBy.picked B none (some (-1)), #[45, 45], #[45], #[13, 10], #[10], #[13], #[32], #[9], B, #[45, 45] ++ B ++ #[45, 45]]) : P.size ≤ 8 ∧ Clean P := by
  have hk := KBc.size_picked_le B none (some (-1))
  have h2 : Clean #[45, 45] := clean_of (by decide)
  simp only [List.mem_cons, List.not_mem_nil, or_false] at h
  rcases h with rfl | rfl | rfl | rfl | rfl | rfl | rfl | rfl | rfl | rfl | rfl | rfl
  · exact ⟨by rw [Array.size_append]; show 2 + _ ≤ _; omega, clean_append h2 hc⟩
  · exact ⟨by rw [Array.size_append]; show 2 + _ ≤ _; omega, clean_append h2 hc⟩
  · exact ⟨by rw [Array.size_append]; show 2 + _ ≤ _; omega, clean_append h2 (clean_picked hc _ _)⟩
  · exact ⟨by decide, h2⟩
  · exact ⟨by decide, clean_of (by decide)⟩
  · exact ⟨by decide, clean_of (by decide)⟩
  · exact ⟨by decide, clean_of (by decide)⟩
  · exact ⟨by decide, clean_of (by decide)⟩
  · exact ⟨by decide, clean_of (by decide)⟩
  · exact ⟨by decide, clean_of (by decide)⟩
  · exact ⟨by omega, hc⟩
  · exact ⟨by rw [Array.size_append, Array.size_append]; show 2 + _ + 2 ≤ _; omega, clean_append (clean_append h2 hc) h2⟩
theorem BytesAre.get {vs : List Value} {bs : List (Array UInt8)} (h : BytesAre vs bs) : ∀ i : Nat, i < bs.length → ∃ B t, vs[i]? = some (.bytes B t) ∧ B ∈ bs := by
  induction h with
  | nil => intro i hi; simp at hi
  | cons h ih =>
    intro i hi
    cases i with
    | zero => exact ⟨_, _, rfl, .head _⟩
    | succ i =>
      obtain ⟨B, t, h1, h2⟩ := ih i (by simpa using hi)
      exact ⟨B, t, by simpa using h1, .tail _ h2⟩
section
variable {prog : Program} {w : World} {A : Around} {E : Value → Shared → Prop} {s : Shared} {h₀ : Heap} {L : Addr} {m : PySem.Str → Option Value} {news : List (Addr × Obj)}
theorem item_menu {value slice : PySem.Expr} {l : Addr} {vs : List Value} {n : Nat} {bs : List (Array UInt8)} {k : Int} {u : Tok} {Q : Value → Shared → Prop} (N : News h₀ L s.heap news) (hm : (l, listOf vs.toArray n) ∈ news) (hb : BytesAre vs bs)
    (h0 : 0 ≤ k) (h1 : k < bs.length) (h2 : k < 2 ^ 63) (h : ∀ B t, B ∈ bs → Q (.bytes B t) s)
    (hs : subscripted slice false (.ref l) (.int k u) = operate [.ref l, .int k u] (getItem (.ref l) (.int k u)) := by with_unfolding_all rfl) :
    wpAny (model prog w) A (subscriptTail value slice (.ref l) (.int k u)) Q E s := by
  obtain ⟨B, t, hx, hB⟩ := hb.get k.toNat (by omega)
  have hl : s.heap.IsList l vs.toArray := ⟨_, (N _ hm).1, rfl, n, rfl⟩
  exact tail_any hl.typeIs slot_list_getitem.lookup (wpAny_getItem_list hl h0 h2 (by simpa using hx) (h B t hB)) hs
end
section
variable {prog : Program} {w : World} {A : Around} {h₀ : Heap} {L : Addr} {m : Str → Option Value} {env : Env} {elt : Expr} {x : Str} {scope : Scope} {cl : List (Str × Addr)} {s : Shared} {P : Nat → Value → Prop} {Fin : List Value → List (Addr × Obj) → Prop}
theorem law_rest {σ : Type} (Led : σ → List (Addr × Obj)) (Fa : σ → Prop) (PV : Value → Prop) {n : Nat} (c₀ : σ) (hf : Fa c₀)
    (turn : ∀ c i v I oI C oC D m₂ ys h tk (E' : Value → Shared → Prop), Fa c → P i v → LCg.NsObj oC m₂ → m₂ x = some v → Fr h₀ L h m → News h₀ L h ((I, oI) :: (C, oC) :: (D, LCg.lst ys) :: Led c) → LCg.Off3 I C D (Led c) → ((@Ne Nat I C) ∧ (@Ne Nat I D) ∧ (@Ne Nat C D)) →
      wpAny (model prog w) A (eval elt (compEnvC scope cl C env)) (LCg.CompEnd h₀ L m { s with heap := h, toks := tk } I oI C oC D (LCg.lst ys) (fun _ => True) (fun y news' => ∃ c', news' = Led c' ∧ Fa c' ∧ PV y)) E' { s with heap := h, toks := tk })
    (fin : ∀ ys c, ys.length = n → (∀ y ∈ ys, PV y) → Fa c → Fin ys (Led c)) : LCg.CompRest prog w A h₀ L m env elt x scope cl s (fun _ => True) P Fin n 0 [] (Led c₀) := by
  have key : ∀ (j i : Nat) (ys : List Value) (c : σ), i + j = n → ys.length = i → (∀ y ∈ ys, PV y) → Fa c → LCg.CompRest prog w A h₀ L m env elt x scope cl s (fun _ => True) P Fin j i ys (Led c) := by
    intro j
    induction j with
    | zero =>
      intro i ys c hi hl hy hc
      exact LCg.CompRest.zero (fin ys c (by omega) hy hc)
    | succ j ih =>
      intro i ys c hi hl hy hc
      refine LCg.CompRest.succ ?_
      intro v I oI C oC D m₂ h tk E' hv hC hx F N off ne
      refine wpAny_mono (turn c i v I oI C oC D m₂ ys h tk E' hc hv hC hx F N off ne) (fun y s₂ hq => ?_) fun _ _ e => e
      obtain ⟨h', tk', nw, e, F', N', off', hS, c', rfl, hc', hy'⟩ := hq
      refine ⟨h', tk', Led c', e, F', N', off', trivial, ?_⟩
      refine ih (i + 1) _ c' (by omega) (by rw [List.length_append, List.length_singleton, hl]) (fun z hz => ?_) hc'
      rcases List.mem_append.mp hz with hz | hz
      · exact hy z hz
      · rw [List.mem_singleton.mp hz]; exact hy'
  exact key n 0 [] c₀ (by omega) rfl (fun _ h => nomatch h) hf
end
/-- the state between the turns: its list, the numbers, the two cells -/
structure St where
  at_ : Int
  tok : Tok
  op : Obj
  v : Option Value
section
variable {prog : Program} {w : World} {A : Around} {E : Value → Shared → Prop} {Q : Flow → Shared → Prop} {s : Shared} {env : Env} {h₀ : Heap} {x : Str} {body : List Stmt}
theorem outer_loop {l Dn pc sc r : Addr} {at0 : Int} {t0 t₀ u₀ v₀ : Tok} {n0 nw : Nat} {ws : List Value} {op os : Obj} {v0 : Option Value} {m₀ : Str → Option Value} {news : List (Addr × Obj)}
    (hh : A.handled = none) (hr : IsRange s.heap r 0 5 1 t₀ u₀ v₀) (F : Fr h₀ env.locals s.heap m₀) (N : News h₀ env.locals s.heap news)
    (h1 : (l, listOf #[.ref Dn, .int at0 t0] n0) ∈ news) (h2 : (Dn, listOf ws.toArray nw) ∈ news) (hsc : env.cells.lookup (Str.ofString "state") = some sc) (h4 : (sc, os) ∈ news)
    (hpc : env.cells.lookup (Str.ofString "pieces") = some pc) (h3 : (pc, op) ∈ news) (hop : op.data = .cell v0) (hat : 0 ≤ at0)
    (turn : ∀ (c : St) (k : Int) (t : Tok) (u : Str → Option Value) h tk own, OwnOff own [l, Dn, pc, sc] → 0 ≤ c.at_ → c.op.data = .cell c.v →
      Fr h₀ env.locals h (fun y => if y = x then some (.int k t) else if [Str.ofString "mark", Str.ofString "data", Str.ofString "begin", Str.ofString "loose", Str.ofString "told", Str.ofString "due"].contains y then u y else m₀ y) →
      News h₀ env.locals h ([(l, listOf #[.ref Dn, .int c.at_ c.tok] n0), (Dn, listOf ws.toArray nw), (pc, c.op), (sc, os)] ++ own) →
      wpAny (model prog w) A (execs body env) (InvPostN h₀ env.locals (KstS (fun c : St => [(l, listOf #[.ref Dn, .int c.at_ c.tok] n0), (Dn, listOf ws.toArray nw), (pc, c.op), (sc, os)]) (fun _ => []) (fun c => 0 ≤ c.at_ ∧ c.op.data = .cell c.v) x [Str.ofString "mark", Str.ofString "data", Str.ofString "begin", Str.ofString "loose", Str.ofString "told", Str.ofString "due"] m₀ (fun _ _ => True) []) own [l, Dn, pc, sc] { s with heap := h, toks := tk } Q) E { s with heap := h, toks := tk })
    (done : ∀ (c : St) (u : Str → Option Value) h tk, 0 ≤ c.at_ → c.op.data = .cell c.v → Fr h₀ env.locals h (fun y => if y = x then u y else if [Str.ofString "mark", Str.ofString "data", Str.ofString "begin", Str.ofString "loose", Str.ofString "told", Str.ofString "due"].contains y then u y else m₀ y) →
      News h₀ env.locals h [(l, listOf #[.ref Dn, .int c.at_ c.tok] n0), (Dn, listOf ws.toArray nw), (pc, c.op), (sc, os)] → Q .next { s with heap := h, toks := tk }) :
    wpAny (model prog w) A (pyIter (.ref r)) (fun it s₂ => LoopAtV prog w A h₀ env x body Q E it s₂) E s := by
  have N0 : News h₀ env.locals s.heap [(l, listOf #[.ref Dn, .int at0 t0] n0), (Dn, listOf ws.toArray nw), (pc, op), (sc, os)] := dropTo N fun p hp => by
    simp only [List.mem_cons, List.not_mem_nil, or_false] at hp
    rcases hp with rfl | rfl | rfl | rfl
    · exact h1
    · exact h2
    · exact h3
    · exact h4
  refine kst_range (n := 5) (fun c : St => [(l, listOf #[.ref Dn, .int c.at_ c.tok] n0), (Dn, listOf ws.toArray nw), (pc, c.op), (sc, os)]) (fun _ => []) (fun c => 0 ≤ c.at_ ∧ c.op.data = .cell c.v)
    [Str.ofString "mark", Str.ofString "data", Str.ofString "begin", Str.ofString "loose", Str.ofString "told", Str.ofString "due"] (fun _ _ => True) ⟨at0, t0, op, v0⟩ hh hr (by decide) (by decide) F N0 ⟨hat, hop⟩ (List.forall_mem_nil _) trivial ?_ ?_
  · intro c pre k t u h tk own hk hlt hoff hf _ F' N'
    exact turn c k t u h tk own hoff hf.1 hf.2 F' N'
  · intro c u h tk hf _ F' N'
    exact done c u h tk hf.1 hf.2 F' N'
end
theorem fdiv_nn {a b : Int} (ha : 0 ≤ a) (hb : 0 < b) : 0 ≤ a.fdiv b := by
  rw [Int.fdiv_eq_ediv_of_nonneg _ (Int.le_of_lt hb)]
  exact Int.ediv_nonneg ha (Int.le_of_lt hb)
abbrev LedC (l Dn pl pc sc : Addr) (n0 nw np : Nat) (ws pv : List Value) (op os : Obj) (own : List (Addr × Obj)) (c : Int × Tok) : List (Addr × Obj) :=
  (l, listOf #[.ref Dn, .int c.1 c.2] n0) :: (Dn, listOf ws.toArray nw) :: (pl, listOf pv.toArray np) :: (pc, op) :: (sc, os) :: own
section
variable {prog : Program} {w : World} {A : Around} {h₀ : Heap} {L : Addr} {m : Str → Option Value} {env : Env} {elt : Expr} {x : Str} {scope : Scope} {cl : List (Str × Addr)} {s₁ : Shared} {Fin : Shared → List Value → List (Addr × Obj) → Prop}
theorem comp_src {l Dn pl pc sc r : Addr} {at0 b : Int} {t0 t₀ u₀ v₀ : Tok} {n0 nw np : Nat} {ws pv : List Value} {op os : Obj} {own news : List (Addr × Obj)} {adr : List Addr}
    (hh : A.handled = none) (hr : IsRange s₁.heap r 0 b 1 t₀ u₀ v₀) (F : Fr h₀ L s₁.heap m) (N : News h₀ L s₁.heap news) (hb : 0 ≤ b) (hb14 : b ≤ 14)
    (_hsc : cl.lookup (Str.ofString "state") = some sc) (h4 : (sc, os) ∈ news) (_hos : os.data = .cell (some (.ref l))) (h1 : (l, listOf #[.ref Dn, .int at0 t0] n0) ∈ news) (h2 : (Dn, listOf ws.toArray nw) ∈ news)
    (_hpc : cl.lookup (Str.ofString "pieces") = some pc) (h3 : (pc, op) ∈ news) (_hop : op.data = .cell (some (.ref pl))) (h5 : (pl, listOf pv.toArray np) ∈ news) (hat : 0 ≤ at0)
    (_hoff : OwnOff own adr) (h6 : ∀ p ∈ own, p ∈ news)
    (turn : ∀ (c : Int × Tok) (v : Value) I oI C oC D m₂ ys (s₂ : Shared) h tk (E' : Value → Shared → Prop), 0 ≤ c.1 → LCg.NsObj oC m₂ → m₂ x = some v → Fr h₀ L h m → News h₀ L h ((I, oI) :: (C, oC) :: (D, LCg.lst ys) :: LedC l Dn pl pc sc n0 nw np ws pv op os own c) → LCg.Off3 I C D (LedC l Dn pl pc sc n0 nw np ws pv op os own c) → ((@Ne Nat I C) ∧ (@Ne Nat I D) ∧ (@Ne Nat C D)) →
      wpAny (model prog w) A (eval elt (compEnvC scope cl C env)) (LCg.CompEnd h₀ L m { s₂ with heap := h, toks := tk } I oI C oC D (LCg.lst ys) (fun _ => True) (fun y news' => ∃ c', news' = LedC l Dn pl pc sc n0 nw np ws pv op os own c' ∧ 0 ≤ c'.1 ∧ Piece y)) E' { s₂ with heap := h, toks := tk })
    (fin : ∀ ys (c : Int × Tok) g, ys.length ≤ 14 → (∀ y ∈ ys, Piece y) → 0 ≤ c.1 → Fin { s₁ with heap := g } ys (LedC l Dn pl pc sc n0 nw np ws pv op os own c)) :
    LCg.CompSrc prog w A h₀ L m env elt x scope cl Fin (.ref r) s₁ := by
  have N0 : News h₀ L s₁.heap (LedC l Dn pl pc sc n0 nw np ws pv op os own (at0, t0)) := dropTo N fun p hp => by
    rcases List.mem_cons.mp hp with rfl | hp
    · exact h1
    rcases List.mem_cons.mp hp with rfl | hp
    · exact h2
    rcases List.mem_cons.mp hp with rfl | hp
    · exact h5
    rcases List.mem_cons.mp hp with rfl | hp
    · exact h3
    rcases List.mem_cons.mp hp with rfl | hp
    · exact h4
    exact h6 p hp
  refine LCg.CompSrc.range (n := (b - 0).toNat) hh F N0 hr (small_one (by omega) (by omega) (by omega) (by omega)) (rangeSize_nat 0 b) (by rw [sizeLine_eq]; omega) fun g => ?_
  refine law_rest (fun c => LedC l Dn pl pc sc n0 nw np ws pv op os own c) (fun c => 0 ≤ c.1) Piece (at0, t0) hat ?_ ?_
  · intro c i v I oI C oC D m₂ ys h tk E' hc _ hC hx F' N' off ne
    exact turn c v I oI C oC D m₂ ys { s₁ with heap := g } h tk E' hc hC hx F' N' off ne
  · intro ys c hl hy hc
    exact fin ys c g (by omega) hy hc
theorem comp_end {l Dn pl pc sc I C D : Addr} {at1 : Int} {t1 : Tok} {n0 nw np : Nat} {ws pv ys : List Value} {op os oI oC : Obj} {own all : List (Addr × Obj)} {y : Value} {h' : Heap} {tk : Nat} (F : Fr h₀ L h' m) (N : News h₀ L h' all)
    (a1 : (I, oI) ∈ all) (a2 : (C, oC) ∈ all) (a3 : (D, LCg.lst ys) ∈ all) (a4 : (l, listOf #[.ref Dn, .int at1 t1] n0) ∈ all) (a5 : (Dn, listOf ws.toArray nw) ∈ all) (a6 : (pl, listOf pv.toArray np) ∈ all) (a7 : (pc, op) ∈ all) (a8 : (sc, os) ∈ all)
    (a9 : ∀ p ∈ own, p ∈ all) (off : LCg.Off3 I C D (LedC l Dn pl pc sc n0 nw np ws pv op os own (at1, t1))) (hat : 0 ≤ at1) (hp : Piece y) :
    LCg.CompEnd h₀ L m s₁ I oI C oC D (LCg.lst ys) (fun _ => True) (fun y news' => ∃ c', news' = LedC l Dn pl pc sc n0 nw np ws pv op os own c' ∧ 0 ≤ c'.1 ∧ Piece y) y { s₁ with heap := h', toks := tk } := by
  refine LCg.CompEnd.intro F N (LedC l Dn pl pc sc n0 nw np ws pv op os own (at1, t1)) (fun p hp => ?_) off trivial ⟨(at1, t1), rfl, hat, hp⟩
  rcases List.mem_cons.mp hp with rfl | hp
  · exact a1
  rcases List.mem_cons.mp hp with rfl | hp
  · exact a2
  rcases List.mem_cons.mp hp with rfl | hp
  · exact a3
  rcases List.mem_cons.mp hp with rfl | hp
  · exact a4
  rcases List.mem_cons.mp hp with rfl | hp
  · exact a5
  rcases List.mem_cons.mp hp with rfl | hp
  · exact a6
  rcases List.mem_cons.mp hp with rfl | hp
  · exact a7
  rcases List.mem_cons.mp hp with rfl | hp
  · exact a8
  exact a9 p hp
end
theorem piece_mk {P : Array UInt8} {t : Tok} (h : P.size ≤ 8) (c : Clean P) : Piece (.bytes P t) := ⟨P, t, rfl, h, c⟩
theorem fmod15 (x : Int) : x.fmod 15 ≤ 14 := by
  have := fmod_hi x (n := 15) (by decide)
  omega
end Mine
/- part J -/
namespace Mine
open PySem.Calls Builtin
set_option maxRecDepth 100000
theorem take_eq {id : String} {b : Array UInt8} {t : Tok} : Bytes.takeBufferQuiet? id (.bytes b t) 0 = pure (some (b, none)) := by
  unfold Bytes.takeBufferQuiet? Bytes.takeBuffer?
  rw [KBy.special_eq KBy.look_buffer, KBy.own_buffer, show ((0 : Int) == Bytes.fullReadOnly) = false from by decide, KBy.buffer_eq]
  kernel_rfl
def Taken (l : List (Value × Option Value)) : Prop := ∀ p ∈ l, p.1.onHeap = false ∧ p.2 = none
theorem letGo_any {M : Model} {A : Around} {E : Value → Shared → Prop} {s : Shared} {keep : List Value} {Q : Unit → Shared → Prop} : ∀ {l : List (Value × Option Value)}, Taken l → Q () s → wpAny M A (Bytes.joinLetGo l keep) Q E s
  | [], _, h => wpAny_pure h
  | (x, w) :: r, ht, h => by
    have hw : w = none := (ht (x, w) (.head _)).2
    subst hw
    unfold Bytes.joinLetGo
    exact wpAny_bind (wpAny_letGo (letGo_any (fun p hp => ht p (.tail _ hp)) h))
theorem joined_ok : ∀ (l : List (Array UInt8 × Nat)) (acc : Array UInt8), (∀ p ∈ l, p.1.size ≤ 8 ∧ Clean p.1) → Clean acc →
    (l.foldl (fun out (p : Array UInt8 × Nat) => (if p.2 > 0 then out ++ #[] else out) ++ p.1) acc).size ≤ acc.size + 8 * l.length ∧ Clean (l.foldl (fun out (p : Array UInt8 × Nat) => (if p.2 > 0 then out ++ #[] else out) ++ p.1) acc)
  | [], acc, _, hc => ⟨by simp, hc⟩
  | p :: r, acc, h, hc => by
    have hp := h p (.head _)
    have e : ((if p.2 > 0 then acc ++ #[] else acc) ++ p.1) = acc ++ p.1 := by split <;> simp
    have := joined_ok r (acc ++ p.1) (fun q hq => h q (.tail _ hq)) (clean_append hc hp.2)
    simp only [List.foldl_cons, e, List.length_cons]
    refine ⟨?_, this.2⟩
    have h1 := this.1
    rw [Array.size_append] at h1
    omega
theorem joined_fact (l : List (Array UInt8)) (h : ∀ p ∈ l, p.size ≤ 8 ∧ Clean p) (hl : l.length ≤ 14) : (Bytes.joined #[] l).size ≤ 112 ∧ Clean (Bytes.joined #[] l) := by
  have := joined_ok l.zipIdx #[] (fun p hp => h p.1 (List.fst_mem_of_mem_zipIdx hp)) (fun c hc => by simp at hc)
  rw [List.length_zipIdx] at this
  refine ⟨Nat.le_trans this.1 ?_, this.2⟩
  show 0 + 8 * l.length ≤ 112
  omega
theorem getD_at {l : List Value} {i : Nat} {v : Value} (hi : i < l.length) (h : l[i] = v) : l.toArray.getD i Value.none = v := by
  rw [Array.getD_eq_getD_getElem?]
  simp [hi, h]
theorem sum_le : ∀ (l : List (Array UInt8)) (a : Nat), (∀ p ∈ l, p.size ≤ 8 ∧ Clean p) → l.foldl (fun x1 x2 => x1 + x2.size) a ≤ a + 8 * l.length
  | [], a, _ => by simp
  | p :: r, a, h => by
    have := sum_le r (a + p.size) (fun q hq => h q (.tail _ hq))
    have h8 := (h p (.head _)).1
    rw [List.foldl_cons, List.length_cons]
    omega
theorem long_not (b : Array (Array UInt8)) (h : ∀ p ∈ b.toList, p.size ≤ 8 ∧ Clean p) (hl : b.size ≤ 14) : Bytes.tooLong (Array.foldl (fun x1 x2 => x1 + x2.size) ((#[] : Array UInt8).size * (b.size - 1)) b) = false := by
  refine KBy.tooLong_not ?_
  rw [← Array.foldl_toList]
  have := sum_le b.toList ((#[] : Array UInt8).size * (b.size - 1)) h
  have h0 : (#[] : Array UInt8).size * (b.size - 1) = 0 := by simp
  rw [Array.length_toList] at this
  omega
theorem meets_join (D : Addr) (ys : List Value) (te : Tok) (hy : ∀ y ∈ ys, Piece y) (hl : ys.length ≤ 14) :
    Meets («bytes.join» ⟨[.bytes #[] te, .ref D], []⟩) (fun _ R s => s.heap.get? D = some (LCg.lst ys) ∧ ∀ J t k, J.size ≤ 112 → Clean J → R (.ok (.ret (.bytes J t))) { s with toks := k }) := by
  refine .of_wp fun prog w A R s hS => ?_
  obtain ⟨hD, h⟩ := hS
  have hT : s.TypeIs (.ref D) "list" := ⟨_, hD, rfl⟩
  show wpAny _ _ (Bytes.joinM .bytes _) _ _ s
  unfold Bytes.joinM
  refine wpAny_bind (wpAny_of_eq (a := (.bytes #[] te, .ref D)) (by kernel_rfl) ?_)
  show wpAny _ _ (Bytes.joinItems (.ref D) >>= fun r => _) _ _ s
  refine wpAny_bind ?_
  unfold Bytes.joinItems
  refine wpAny_bind (wpAny_typeOf hT ?_)
  refine wpAny_ite ?_
  rw [if_pos (by decide)]
  refine wpAny_pure ?_
  refine wpAny_bind (wpAny_seqItems hD rfl ?_)
  dsimp only
  refine wpAny_ite ?_
  rw [if_pos (by decide)]
  have loop : ∀ (Q : Array (Array UInt8) × List (Value × Option Value) → Shared → Prop) (E : Value → Shared → Prop) (f : Nat → Array (Array UInt8) × List (Value × Option Value) → Sem (ForInStep (Array (Array UInt8) × List (Value × Option Value)))),
      (∀ i b, i < ys.length → b.1.size = i → (∀ p ∈ b.1.toList, p.size ≤ 8 ∧ Clean p) → Taken b.2 → ∃ P t, ys[i]? = some (.bytes P t) ∧ P.size ≤ 8 ∧ Clean P ∧ wpAny (model prog w) A.in1 (f i b) (fun r s' => ∃ b', r = .yield b' ∧ s' = s ∧ b'.1 = b.1.push P ∧ Taken b'.2) E s) →
      (∀ b, (∀ p ∈ b.1.toList, p.size ≤ 8 ∧ Clean p) → b.1.size = ys.length → Taken b.2 → Q b s) → wpAny (model prog w) A.in1 (forIn [:ys.toArray.size] (#[], []) f) Q E s := by
    intro Q E f turn fin
    rw [Std.Legacy.Range.forIn_eq_forIn_range']
    have hsz : Std.Legacy.Range.size [:ys.toArray.size] = ys.length := by simp [Std.Legacy.Range.size]
    rw [hsz]
    refine wpAny_forIn_list f (fun rest b s' => s' = s ∧ ∃ i, i + rest.length = ys.length ∧ rest = List.range' i rest.length 1 ∧ b.1.size = i ∧ (∀ p ∈ b.1.toList, p.size ≤ 8 ∧ Clean p) ∧ Taken b.2) Q ?_ ?_ _ _ ?_
    · rintro x rest b s' ⟨rfl, i, hi, hr, hbs, hbp, hbt⟩
      rw [List.length_cons, List.range'_succ, List.cons.injEq] at hr
      obtain ⟨rfl, hr⟩ := hr
      rw [List.length_cons] at hi
      obtain ⟨P, t, hP, h8, hc, hw⟩ := turn x b (by omega) hbs hbp hbt
      refine wpAny_mono hw (fun r s'' hr' => ?_) fun _ _ e => e
      obtain ⟨b', rfl, rfl, hb1, hb2⟩ := hr'
      refine ⟨rfl, x + 1, by omega, hr, by rw [hb1, Array.size_push, hbs], fun p hp => ?_, hb2⟩
      rw [hb1, Array.toList_push] at hp
      rcases List.mem_append.mp hp with hp | hp
      · exact hbp p hp
      · rw [List.mem_singleton.mp hp]; exact ⟨h8, hc⟩
    · rintro b s' ⟨rfl, i, hi, _, hbs, hbp, hbt⟩
      rw [List.length_nil] at hi
      exact fin b hbp (by omega) hbt
    · refine ⟨rfl, 0, by rw [List.length_range']; omega, by rw [List.length_range'], rfl, fun p hp => by simp at hp, fun p hp => by simp at hp⟩
  rcases hys : ys with _ | ⟨x, _ | ⟨z, r⟩⟩
  · subst hys
    refine wpAny_bind ?_
    refine loop _ _ _ (fun i b hi hbs hbp hbt => ?_) (fun b hbp hbs hbt => ?_)
    · obtain ⟨P, t, hP, h8, hc⟩ := hy _ (List.getElem_mem hi)
      refine ⟨P, t, by rw [List.getElem?_eq_getElem hi, hP], h8, hc, ?_⟩
      refine wpAny_bind (wpAny_seqItems hD rfl ?_)
      dsimp only
      rw [getD_at hi hP]
      refine wpAny_ite ?_
      rw [if_neg (by
        have : (b.2.any fun x => x.1.onHeap) = false := List.any_eq_false.mpr fun p hp => by rw [(hbt p hp).1]; exact Bool.false_ne_true
        rw [this]; decide)]
      refine wpAny_bind (wpAny_holding (wpAny_of_eq take_eq ?_))
      dsimp only
      refine wpAny_bind (wpAny_seqItems hD rfl ?_)
      dsimp only
      refine wpAny_ite ?_
      rw [if_neg (by simp)]
      refine wpAny_pure ⟨_, rfl, rfl, rfl, fun p hp => ?_⟩
      rcases List.mem_append.mp hp with hp | hp
      · exact hbt p hp
      · rw [List.mem_singleton.mp hp]; exact ⟨rfl, rfl⟩
    · have hj := joined_fact b.1.toList hbp (by rw [Array.length_toList, hbs]; exact hl)
      show wpAny _ _ (Bytes.payload (.bytes #[] te) >>= fun r => _) _ _ s
      refine wpAny_bind (wpAny_of_eq (a := #[]) rfl ?_)
      refine wpAny_ite ?_
      rw [if_neg (by rw [long_not b.1 hbp (by rw [hbs]; exact hl)]; exact Bool.false_ne_true)]
      show wpAny _ _ (mkBytes (Bytes.joined #[] b.1.toList) >>= fun r => _) _ _ s
      refine wpAny_bind (wpAny_mkBytes ?_ (by rw [sizeLine_eq]; omega))
      refine wpAny_bind (wpAny_holding (wpAny_point ?_))
      refine wpAny_bind (letGo_any hbt ?_)
      exact wpAny_pure ⟨_, rfl, h _ _ _ hj.1 hj.2⟩
  · subst hys
    obtain ⟨P, t, rfl, h8, hc⟩ := hy x (.head _)
    refine wpAny_bind (wpAny_typeOf (typeIs_bytes _ _ _) ?_)
    refine wpAny_ite ?_
    rw [if_pos (by decide)]
    exact wpAny_bind (wpAny_rule (wpAny_pure ⟨_, rfl, h P t _ (by omega) hc⟩))
  · subst hys
    refine wpAny_bind ?_
    refine loop _ _ _ (fun i b hi hbs hbp hbt => ?_) (fun b hbp hbs hbt => ?_)
    · obtain ⟨P, t, hP, h8, hc⟩ := hy _ (List.getElem_mem hi)
      refine ⟨P, t, by rw [List.getElem?_eq_getElem hi, hP], h8, hc, ?_⟩
      refine wpAny_bind (wpAny_seqItems hD rfl ?_)
      dsimp only
      rw [getD_at hi hP]
      refine wpAny_ite ?_
      rw [if_neg (by
        have : (b.2.any fun x => x.1.onHeap) = false := List.any_eq_false.mpr fun p hp => by rw [(hbt p hp).1]; exact Bool.false_ne_true
        rw [this]; decide)]
      refine wpAny_bind (wpAny_holding (wpAny_of_eq take_eq ?_))
      dsimp only
      refine wpAny_bind (wpAny_seqItems hD rfl ?_)
      dsimp only
      refine wpAny_ite ?_
      rw [if_neg (by simp)]
      refine wpAny_pure ⟨_, rfl, rfl, rfl, fun p hp => ?_⟩
      rcases List.mem_append.mp hp with hp | hp
      · exact hbt p hp
      · rw [List.mem_singleton.mp hp]; exact ⟨rfl, rfl⟩
    · have hj := joined_fact b.1.toList hbp (by rw [Array.length_toList, hbs]; exact hl)
      show wpAny _ _ (Bytes.payload (.bytes #[] te) >>= fun r => _) _ _ s
      refine wpAny_bind (wpAny_of_eq (a := #[]) rfl ?_)
      refine wpAny_ite ?_
      rw [if_neg (by rw [long_not b.1 hbp (by rw [hbs]; exact hl)]; exact Bool.false_ne_true)]
      show wpAny _ _ (mkBytes (Bytes.joined #[] b.1.toList) >>= fun r => _) _ _ s
      refine wpAny_bind (wpAny_mkBytes ?_ (by rw [sizeLine_eq]; omega))
      refine wpAny_bind (wpAny_holding (wpAny_point ?_))
      refine wpAny_bind (letGo_any hbt ?_)
      exact wpAny_pure ⟨_, rfl, h _ _ _ hj.1 hj.2⟩
theorem join_any {prog : Program} {w : World} {A : Around} {E : Value → Shared → Prop} {s : Shared} {h₀ : Heap} {L : Addr} {news : List (Addr × Obj)} {D : Addr} {ys : List Value} {te : Tok} {Q : Value → Shared → Prop} (N : News h₀ L s.heap news) (hm : (D, LCg.lst ys) ∈ news) (hy : ∀ y ∈ ys, Piece y) (hl : ys.length ≤ 14)
    (h : ∀ J t k, J.size ≤ 112 → Clean J → Q (.bytes J t) { s with toks := k }) : wpAny (model prog w) A (call (.builtin "bytes.join") [.bytes #[] te, .ref D]) Q E s :=
  call_meets slot_bytes_join (typeIs_bytes _ _ _) entry_bytes_join (args_bytes_join_2 _ _) (meets_join D ys te hy hl) ⟨(N _ hm).1, h⟩
end Mine
/- part E1 -/
namespace Mine
open PySem.SeqAt
theorem eqs3 {A : Around} {s : Shared} {x y : Int} {z : Array UInt8} {t1 t2 t3 u1 u2 u3 : Tok} (j : Nat) (h1 : j < (#[.int x t1, .int y t2, .bytes z t3] : Array Value).size) (h2 : j < (#[.int x u1, .int y u2, .bytes z u3] : Array Value).size) :
    EqAt A s (#[.int x t1, .int y t2, .bytes z t3] : Array Value)[j] (#[.int x u1, .int y u2, .bytes z u3] : Array Value)[j] true := by
  have e1 : ∀ (x : Int) t u, EqAt A s (.int x t) (.int x u) true := fun x t u => by
    have := EqAt.int_int (A := A) (s := s) x t x u
    rwa [beq_self_eq_true] at this
  have e2 : EqAt A s (.bytes z t3) (.bytes z u3) true := by
    have := eqAt_bytes (A := A) (s := s) z t3 z u3
    rwa [beq_self_eq_true] at this
  match j, h1, h2 with
  | 0, _, _ => exact e1 x _ _
  | 1, _, _ => exact e1 y _ _
  | 2, _, _ => exact e2
  | n + 3, h, _ => exact absurd h (by simp)
section
variable {prog : Program} {w : World} {A : Around} {E : Value → Shared → Prop} {s : Shared} {h₀ : Heap} {L : Addr} {news : List (Addr × Obj)} {a b : Addr} {x y : Int} {z : Array UInt8} {t1 t2 t3 u1 u2 u3 : Tok} {Q : Value → Shared → Prop}
theorem ne_trip {n m : Nat} (N : News h₀ L s.heap news) (ha : (a, ({ cls := .type "tuple", data := .seq #[.int x t1, .int y t2, .bytes z t3] n } : Obj)) ∈ news) (hb : (b, ({ cls := .type "tuple", data := .seq #[.int x u1, .int y u2, .bytes z u3] m } : Obj)) ∈ news) (hu : A.units < cLine) (h : Q (.bool false) s) :
    wpAny (model prog w) A (compareOp .NotEq (.ref a) (.ref b)) Q E s :=
  RcNeAt.tuples (e := fun _ => true) ⟨_, (N _ ha).1, rfl, n, rfl⟩ ⟨_, (N _ hb).1, rfl, m, rfl⟩ hu (fun j h1 h2 => eqs3 j h1 h2) prog w E Q h
theorem eq_trip {n m : Nat} (N : News h₀ L s.heap news) (ha : (a, listOf #[.int x t1, .int y t2, .bytes z t3] n) ∈ news) (hb : (b, listOf #[.int x u1, .int y u2, .bytes z u3] m) ∈ news) (hu : A.units < cLine) (h : Q (.bool true) s) :
    wpAny (model prog w) A (compareOp .Eq (.ref a) (.ref b)) Q E s :=
  eq_listAt (e := fun _ => true) ⟨_, (N _ ha).1, rfl, n, rfl⟩ ⟨_, (N _ hb).1, rfl, m, rfl⟩ rfl hu (fun j h1 h2 => eqs3 j h1 h2) h
end
theorem told_done : Told #[45, 45, 120, 121, 32, 9, 13, 10, 97] (#[45, 45] ++ #[120, 121]) 0 true (some (0, 8, #[32, 9, 13, 10])) :=
  .inl ⟨0, by omega, by decide +kernel, fun j h1 h2 => absurd h2 (by omega), by decide +kernel⟩
theorem told_not {D M : Array UInt8} {b : Int} {lo : Bool} {x : Int × Int × Array UInt8} (h : Told D M b lo (some x)) (h' : Told D M b lo none) : False := nomatch told_one h h'
section
variable {h₀ : Heap} {L : Addr} {x : Str} {s₁ : Shared}
theorem loop_end {l Dn pc sc : Addr} {at1 : Int} {t1 : Tok} {n0 nw : Nat} {ws : List Value} {op os : Obj} {v : Option Value} {own all : List (Addr × Obj)} {m' m₀ : Str → Option Value} {h' : Heap} {tk : Nat} {stored : List Str} (F : Fr h₀ L h' m') (N : News h₀ L h' all)
    (a1 : (l, listOf #[.ref Dn, .int at1 t1] n0) ∈ all) (a2 : (Dn, listOf ws.toArray nw) ∈ all) (a3 : (pc, op) ∈ all) (a4 : (sc, os) ∈ all) (a5 : ∀ p ∈ own, p ∈ all) (hat : 0 ≤ at1) (hop : op.data = .cell v)
    (hr : ∀ z, z ≠ x → (∀ p ∈ ([] : List (Str × Value)), z ≠ p.1) → stored.contains z = false → m' z = m₀ z) :
    InvEndN h₀ L (KstS (fun c : St => [(l, listOf #[.ref Dn, .int c.at_ c.tok] n0), (Dn, listOf ws.toArray nw), (pc, c.op), (sc, os)]) (fun _ => []) (fun c => 0 ≤ c.at_ ∧ c.op.data = .cell c.v) x stored m₀ (fun _ _ => True) []) own [l, Dn, pc, sc] s₁ { s₁ with heap := h', toks := tk } :=
  kst_end (⟨at1, t1, op, v⟩ : St) F N (fun p hp => by
    rcases List.mem_cons.mp hp with rfl | hp
    · exact a1
    rcases List.mem_cons.mp hp with rfl | hp
    · exact a2
    rcases List.mem_cons.mp hp with rfl | hp
    · exact a3
    rcases List.mem_cons.mp hp with rfl | hp
    · exact a4
    exact nomatch hp) a5 rfl ⟨hat, hop⟩ (List.forall_mem_nil _) hr trivial
end
end Mine
/- part M2 -/
namespace Mine
local macro_rules | `(tactic| walk_at "getMethod bytes") => `(tactic| (k_here; (with_reducible refine method_join ?_)))
local macro_rules | `(tactic| walk_at "binaryOp Add bytes bytes") => `(tactic| ((refine KBy.add_bytes (by first | decide | (simp only [List.size_toArray, List.length_cons, List.length_nil, Array.size_append]; omega)) ?_); intro _ _))
local macro_rules | `(tactic| walk_at "pyIter ref") => `(tactic| (k_here; (with_reducible show wpAny _ _ (pyIter (Value.ref _)) (fun it s₂ => LoopAtV _ _ _ _ _ _ _ _ _ it s₂) _ _); (rename Fr _ _ _ _ => lF'); (rename News _ _ _ _ => lN'); (rename IsRange _ _ _ _ _ _ _ _ => rgX); k_dflt (refine outer_loop (by rfl) rgX lF' lN' (by k_mem) (by k_mem) (by rfl) (by k_mem) (by rfl) (by k_mem) (by assumption) (by decide) ?_ ?_); (focus (intro c kN kT kU kH kTk kOwn kOff kAt kOp kFr kNews; obtain ⟨kA, kB, kC, kD⟩ := c; dsimp only at kAt kOp kNews kFr; (try simp only [List.cons_append, List.nil_append] at kNews))); rotate_left; (intro c kU kH kTk kAt kOp kFr kNews; obtain ⟨kA, kB, kC, kD⟩ := c; dsimp only at kAt kOp kNews kFr; (try simp only [List.cons_append, List.nil_append] at kNews)); rotate_left; (all_goals (try clear lF' lN')); (all_goals (try k_fold))))
theorem slice_last {prog : Program} {w : World} {A : Around} {E : Value → Shared → Prop} {s : Shared} {value slice : PySem.Expr} {D : Array UInt8} {t tb : Tok} {h₀ : Heap} {L : Addr} {m : PySem.Str → Option Value} {news : List (Addr × Obj)} {b : Int} {Q : Value → Shared → Prop}
    (hF : Fr h₀ L s.heap m) (hN : News h₀ L s.heap news) (hz : D.size ≤ 16777216)
    (h : ∀ h' t' k, (KBy.picked D none (some b)).size ≤ D.size → Fr h₀ L h' m → News h₀ L h' news → Q (.bytes (KBy.picked D none (some b)) t') { s with heap := h', toks := k })
    (hs : subscripted slice false (.bytes D t) (.ref s.heap.objs.size) = operate [.ref s.heap.objs.size, .bytes D t] (getItem (.bytes D t) (.ref s.heap.objs.size)) := by with_unfolding_all rfl)
    (ht : ∀ r, letTemporaryGo value (.bytes D t) r = pure () := by intro _; with_unfolding_all rfl) :
    wpAny (model prog w) A (subscriptTail value slice (.bytes D t) (.ref s.heap.objs.size)) Q E { s with heap := s.heap.push { cls := .type "slice", data := .fields #[.none, .int b tb, .none] } } :=
  KBc.slice_K hF hN rfl .none (.int _ _) (by rw [KBw.ints_length]; exact hz) (fun h' t' k F N _ => h h' t' k (KBc.size_picked_le _ _ _) F N) hs ht
local macro_rules | `(tactic| walk_at "subscriptTail") => `(tactic| (k_here; (with_reducible show wpAny _ _ (subscriptTail _ (Expr.Slice none (some _) none _) (Value.bytes _ _) (Value.ref _)) _ _ _); (with_reducible rename Fr _ _ _ _ => F'); (with_reducible rename News _ _ _ _ => N'); (refine slice_last (s := ⟨_, _, _, _, _⟩) F' N' (by omega) ?_); intro _ _ _ kPsz F' N'; (try k_sweep)))
theorem useC {w : World} {mean : ExcName → Option Value} {mg mb : Str → Option Value} {rd ru : Nat} {f : Addr} {news : List (Addr × Obj)} {vs : List Value} {Ret : Value → List (Addr × Obj) → Prop} (C : Claim w mean mg mb rd ru f news vs Ret)
    {cn : Str} {cs : Scope} {a : Addr} {ccd : Value} {A₀ : Around} {base h₀ : Heap} {L : Addr} {m : Str → Option Value} {s : Shared} {Q E : Value → Shared → Prop}
    (B : Below A₀ base [] h₀) (F : Fr h₀ L s.heap m) (X : (hd.heap_39 w.params).In h₀) (N : News h₀ L s.heap news) (T : Top hd.view_39 (looseW hd.view_39 []) mean mg mb h₀) (hk : cs.kind = .function) (hd' : (callerA.deeper (envOfC cn cs L a ccd)).depth + rd < recursionLimit) (hu : (callerA.deeper (envOfC cn cs L a ccd)).units + ru < cLine)
    (hret : ∀ v h' tk' own, Ret v own → Fr h₀ L h' m → News h₀ L h' (own ++ news) → Q v { s with heap := h', toks := tk' }) :
    wpAny (model PySem.Challenge.rw_ez0422_01.row.prog w) (callerA.deeper (envOfC cn cs L a ccd)) (call (.ref f) vs) Q E s :=
  C.use (cn := cn) (cs := cs) (a := a) (ccd := ccd) (cl := cellsFrom (L + 1) cs.names []) (outer := []) (gd := (callerA.deeper (envOfC cn cs L a ccd)).guards) B F X N T hk hd' hu hret
local macro_rules | `(tactic| walk_at "call ref") => `(tactic| (k_here; (with_reducible show wpAny _ _ (call (Value.ref 140) _) _ _ _); (with_reducible rename News _ _ _ _ => mN'); (with_reducible rename Fr _ _ _ _ => mF'); (with_reducible rename Told _ _ _ _ _ => kT1'); (with_reducible refine useC (first_ok _ _ _ _ _ _ _ _ _ _ _ _ (by omega) (by omega) (by omega) (by omega)) (by k_dflt k_asm) mF' (by k_dflt k_asm) mN' (by k_dflt k_asm) (by exact rfl) (by ktr_room) (by ktr_units) ?_); intro v' h' tk' own' hR' F' N'; rcases hR' with ⟨hT', hv', ho'⟩ | ⟨r', t1', t2', t3', x', y', z', hT', hv', ho'⟩ <;> subst hv' <;> subst ho' <;> (try simp only [List.nil_append, List.cons_append] at N') <;> (cases told_one kT1' hT') <;> (clear kT1' hT') <;> k_fold))
local macro_rules | `(tactic| walk_at "call ref") => `(tactic| (k_here; (with_reducible show wpAny _ _ (call (Value.ref 100) [_, _, _]) _ _ _); (with_reducible rename News _ _ _ _ => mN'); (with_reducible rename Fr _ _ _ _ => mF'); (with_reducible refine useC (search_ok _ _ _ _ _ _ _ _ _ _ _ _ _ _ _ _ (by k_get) (by k_get) (by omega) (by omega) (by omega) (by omega) (by k_dflt assumption)) (by k_dflt k_asm) mF' (by k_dflt k_asm) mN' (by k_dflt k_asm) (by exact rfl) (by ktr_room) (by ktr_units) ?_); intro v' h' tk' own' hR' F' N'; rcases hR' with ⟨hT', hv', ho'⟩ | ⟨r', d', l', k1', k2', k3', t1', t2', t3', p0', x', y', z', hT', hv', ho'⟩ <;> subst hv' <;> subst ho' <;> (try simp only [List.nil_append, List.cons_append] at N') <;> k_fold))
local macro_rules | `(tactic| walk_at "call ref") => `(tactic| (k_here; (with_reducible show wpAny _ _ (call (Value.ref 100) [_, _]) _ _ _); (with_reducible rename News _ _ _ _ => mN'); (with_reducible rename Fr _ _ _ _ => mF'); (with_reducible refine useC (Two.search0_ok _ _ _ _ _ _ _ _ _ _ _ _ _ _ (by k_get) (by k_get) (by decide) (by k_dflt decide) (by k_dflt decide) (by k_dflt exact clean_of (by decide))) (by k_dflt k_asm) mF' (by k_dflt k_asm) mN' (by k_dflt k_asm) (by exact rfl) (by ktr_room) (by ktr_units) ?_); intro v' h' tk' own' hR' F' N'; rcases hR' with ⟨hT', hv', ho'⟩ | ⟨r', d', l', k1', k2', k3', t1', t2', t3', p0', x', y', z', hT', hv', ho'⟩ <;> first | exact absurd hT' (fun e => told_not told_done e) | (subst hv'; subst ho'; (try simp only [List.nil_append, List.cons_append] at N'); (cases told_one told_done hT'); clear hT'; k_fold)))
local macro_rules | `(tactic| walk_at "leaving ref") => `(tactic| (exfalso; omega))
local macro_rules | `(tactic| walk_at "CompSrc") => `(tactic| (k_here; (rename IsRange _ _ _ _ _ _ _ _ => rgC); (with_reducible rename News _ _ _ _ => mN'); (with_reducible rename Fr _ _ _ _ => mF'); k_dflt (refine comp_src (by rfl) rgC mF' mN' (by omega) (by omega) (by rfl) (by k_mem) (by assumption) (by k_mem) (by k_mem) (by rfl) (by k_mem) (by assumption) (by k_mem) (by omega) (by assumption) (by intro p hp; repeat (first | exact hp | refine List.Mem.tail _ ?_)) ?_ ?_); (focus (intro c' v' I' oI' C' oC' D' m' ys' s' h' tk' E' hc' hC' hx' F' N' off' ne'; obtain ⟨cA, cT⟩ := c'; dsimp only [LedC] at hc' N' off'; (try simp only [LCg.Off3, and_true] at off'))); rotate_left; (intro ys' c' g' kYl kYp hc'; obtain ⟨cA, cT⟩ := c'; dsimp only [LedC] at hc'); rotate_left; (all_goals (try k_fold))))
local macro_rules | `(tactic| walk_at "CompEnd") => `(tactic| k_dflt ((with_reducible rename News _ _ _ _ => nE'); (with_reducible rename Fr _ _ _ _ => fE'); (refine comp_end fE' nE' (by k_mem) (by k_mem) (by k_mem) (by k_mem) (by k_mem) (by k_mem) (by k_mem) (by k_mem) (by intro p hp; repeat (first | exact hp | refine List.Mem.tail _ ?_)) (by (simp only [LCg.Off3, LedC, and_true]; assumption)) (by omega) (piece_mk (by assumption) (by assumption)))))
local macro_rules | `(tactic| walk_at "call builtin:bytes.join") => `(tactic| (k_here; (with_reducible rename News _ _ _ _ => nE'); k_dflt (refine join_any nE' (by k_mem) (by assumption) (by omega) ?_); intro J' t' k' kJs kJc))
local macro_rules | `(tactic| walk_at "InvEndN") => `(tactic| (k_dflt ((with_reducible rename News _ _ _ _ => nE'); (with_reducible rename Fr _ _ _ _ => fE'); (refine loop_end fE' nE' (by k_mem) (by k_mem) (by k_mem) (by k_mem) (by intro p hp; repeat (first | exact hp | refine List.Mem.tail _ ?_)) (by omega) (by assumption) (by kst_same)))))
local macro_rules | `(tactic| walk_at "compareOp NotEq ref ref") => `(tactic| (k_here; (with_reducible rename News _ _ _ _ => mN'); k_dflt (refine ne_trip mN' (by k_mem) (by k_mem) (by exact Nat.le_of_ble_eq_true rfl) ?_)))
local macro_rules | `(tactic| walk_at "compareOp Eq ref ref") => `(tactic| (k_here; (with_reducible rename News _ _ _ _ => mN'); k_dflt (refine eq_trip mN' (by k_mem) (by k_mem) (by exact Nat.le_of_ble_eq_true rfl) ?_)))
local macro_rules | `(tactic| walk_at "callWith ref") => `(tactic| (k_here; (with_reducible show wpAny _ _ (callWith _ _ _ (backTo _ (starEach [] _)) []) _ _ _); (with_reducible rename Frag.In _ _ => mX'); (with_reducible rename Fr _ _ _ _ => mF'); k_dflt (refine callWith_K0 (Frag.In.keeps mX' (Fr.keep mF')) (by k_is) ?_)))
local macro_rules | `(tactic| walk_at "call ref") => `(tactic| (k_here; (with_reducible show wpAny _ _ (call (Value.ref 57) _) _ _ _); (with_reducible rename Frag.In _ _ => mX'); (with_reducible rename Fr _ _ _ _ => mF'); k_dflt (refine wpAny_call ?_); k_dflt (refine' code_def ?k1 ?k2 ?k3 ?k4 ?k5 ?kA ?kF ?kK ?k6 ?k7 ?k8 ?k9 ?kB ?_ ?c2 ?c3 ?c4 ?c5; (case kA => exact rfl); (case kF => exact rfl); (case kK => exact rfl); (case k1 => k_asm); (case k2 => k_asm); (case k3 => k_asm); (case k4 => k_asm); (case k5 => k_asm); (case k6 => k_is); (case k7 => k_is); (case k8 => k_room); (case k9 => exact binds_K (Frag.In.keeps mX' (Fr.keep mF')) rfl (by k_is) rfl rfl rfl); (case c5 => decide); (case kB => exact locs rfl); (case c2 => exact rfl); (case c3 => exact rfl); (case c4 => exact rfl); k_whole; intro g' L' h' FG' F' N' B' X' T'; (try dsimp only); (try k_lift B'); (try k_fold))))
theorem fd_use {M : Model} {A : Around} {E : Value → Shared → Prop} {s : Shared} {Q : Value → Shared → Prop} {a b : Int} {t u : Tok} (ha : 0 ≤ a) (hb : 0 < b) (h : 0 ≤ a.fdiv b → wpAny M A (binaryOp .FloorDiv (.int a t) (.int b u)) Q E s) : wpAny M A (binaryOp .FloorDiv (.int a t) (.int b u)) Q E s := h (fdiv_nn ha hb)
section
variable {prog : Program} {w : World} {A : Around} {E : Value → Shared → Prop} {s : Shared} {h₀ : Heap} {L : Addr} {m : PySem.Str → Option Value} {news : List (Addr × Obj)}
theorem item_at {value slice : PySem.Expr} {l : Addr} {vs : List Value} {n : Nat} {k : Int} {u : Tok} {v : Value} {Q : Value → Shared → Prop} (N : News h₀ L s.heap news) (hm : (l, listOf vs.toArray n) ∈ news)
    (h0 : 0 ≤ k) (h2 : k < 2 ^ 63) (hx : vs[k.toNat]? = some v) (h : Q v s)
    (hs : subscripted slice false (.ref l) (.int k u) = operate [.ref l, .int k u] (getItem (.ref l) (.int k u)) := by with_unfolding_all rfl) :
    wpAny (model prog w) A (subscriptTail value slice (.ref l) (.int k u)) Q E s := by
  have hl : s.heap.IsList l vs.toArray := ⟨_, (N _ hm).1, rfl, n, rfl⟩
  exact tail_any hl.typeIs slot_list_getitem.lookup (wpAny_getItem_list hl h0 h2 (by simpa using hx) h) hs
end
theorem mod_gen {prog : Program} {w : World} {A : Around} {E : Value → Shared → Prop} {s : Shared} {Q : Value → Shared → Prop} {a k : Int} {t u : Tok} (hk : 0 < k) (_hk2 : k ≤ 100) (h : ∀ r, 0 ≤ r → r < k → Q (.int r s.toks) { s with toks := s.toks + 1 }) : wpAny (model prog w) A (binaryOp .Mod (.int a t) (.int k u)) Q E s :=
  mod_int' (by omega) (h _ (Int.fmod_nonneg_of_pos a hk) (Int.fmod_lt_of_pos a hk))
local macro_rules | `(tactic| walk_at "binaryOp Mod int int") => `(tactic| (k_here; (with_reducible refine mod_gen (by decide) (by decide) ?_); intro kR kR0 kR1))
local macro_rules | `(tactic| walk_at "subscriptTail") => `(tactic| (k_here; (with_reducible show wpAny _ _ (subscriptTail _ (Expr.Constant _ _ _) (Value.ref _) (Value.int _ _)) _ _ _); k_dflt (refine item_at (by k_asm) (by k_mem) (by decide) (by decide) rfl ?_)))
local macro_rules | `(tactic| walk_at "subscriptTail") => `(tactic| (k_here; (with_reducible show wpAny _ _ (subscriptTail _ (Expr.Call _ _ _ _) (Value.ref _) (Value.int _ _)) _ _ _); (with_reducible rename News _ _ _ _ => mN'); k_dflt (refine item_menu mN' (by k_mem) (by repeat constructor) (by omega) (by show _ < (_ : Int); simp only [List.length_cons, List.length_nil]; omega) (by omega) ?_); intro B' t' hB'; first | ((have kMk := mark_facts hB'); obtain ⟨kMs, kMc⟩ := kMk) | ((have kPk := piece_facts (by assumption) (by assumption) hB'); obtain ⟨kPs, kPc⟩ := kPk)))
theorem fd_has {M : Model} {A : Around} {E : Value → Shared → Prop} {s : Shared} {Q : Value → Shared → Prop} {a b : Int} {t u : Tok} (_h : 0 ≤ a.fdiv b) (h : wpAny M A (binaryOp .FloorDiv (.int a t) (.int b u)) Q E s) : wpAny M A (binaryOp .FloorDiv (.int a t) (.int b u)) Q E s := h
local macro_rules | `(tactic| walk_at "binaryOp FloorDiv int int") => `(tactic| (k_here; (fail_if_success (with_reducible refine fd_has (by assumption) ?_)); (with_reducible refine fd_use (by omega) (by omega) (fun kFd => ?_))))
set_option maxRecDepth 100000 in
set_option maxHeartbeats 8000000 in
theorem t : PySem.Challenge.rw_ez0422_01.Holds := hd (by
  k_go0
  all_goals (try k_fold)
  k_with_none
  k_steps)
end Mine
set_option maxRecDepth 100000 in
set_option maxHeartbeats 8000000 in
theorem PySem.Challenge.cw_ez0422_01_holds : PySem.Challenge.rw_ez0422_01.Holds := by
  exact Mine.t
