import PyProof.Rows.All
import Wide.All
import OpenK.AllK
import Wide.FinOn
import PySem.Challenge.RW_qj0003_01
open PySem PySem.W PyProof.Rows PySem.Calls
set_option Elab.async false
set_option linter.unusedVariables false
namespace Mine
set_option maxRecDepth 100000 in
set_option maxHeartbeats 8000000 in
open_top hd for PySem.Challenge.rw_qj0003_01
theorem calm : True := by
  w_top off
  trivial
section
noncomputable abbrev LL : List Str := looseW hd.view_39 [Str.ofString "tspecials", Str.ofString "_name_disallowed_re", Str.ofString "_value_disallowed_re", Str.ofString "_formatparam"]

/-- the ground: what the top left -/
structure Ok (w : World) (mean : ExcName → Option Value) (mg mb : Str → Option Value) (hG h : Heap) : Prop where
  K : (hd.heap_39 w.params).In hG
  T : Top hd.view_39 LL mean mg mb hG
  st : hG.StaysIn h

structure Room (A : Around) (n : Nat) : Prop where
  handled : A.handled = none
  depth : A.depth + n < 900
  units : A.units + 10 * n < 9000
  guards : A.guards = some []

theorem Room.deeper {A : Around} {n : Nat} {env : Env} (R : Room A (n + 1)) : Room (A.deeper env) n :=
  ⟨R.handled, by have := R.depth; show A.depth + 1 + n < 900; omega, by have := R.units; show A.units + 3 + 10 * n < 9000; omega, R.guards⟩
theorem Room.in1 {A : Around} {n : Nat} (R : Room A (n + 1)) : Room A.in1 n :=
  ⟨R.handled, by have := R.depth; show A.depth + n < 900; omega, by have := R.units; show A.units + 1 + 10 * n < 9000; omega, R.guards⟩
theorem Room.le {A : Around} {n k : Nat} (R : Room A n) (h : k ≤ n) : Room A k :=
  ⟨R.handled, by have := R.depth; omega, by have := R.units; omega, R.guards⟩

theorem Ok.keep {w : World} {mean : ExcName → Option Value} {mg mb : Str → Option Value} {hG h h' : Heap} (G : Ok w mean mg mb hG h) (k : h.StaysIn h') : Ok w mean mg mb hG h' :=
  ⟨G.K, G.T, fun b o e => k b o (G.st b o e)⟩
theorem Ok.here {w : World} {mean : ExcName → Option Value} {mg mb : Str → Option Value} {hG h : Heap} (G : Ok w mean mg mb hG h) : (hd.heap_39 w.params).In h := G.K.keeps G.st
theorem Ok.top {w : World} {mean : ExcName → Option Value} {mg mb : Str → Option Value} {hG h : Heap} (G : Ok w mean mg mb hG h) : Top hd.view_39 LL mean mg mb h := G.T.keeps G.st

section
variable {w : World} {A : Around} {E Q : Value → Shared → Prop} {s : Shared} {mean : ExcName → Option Value} {mg mb : Str → Option Value} {hG : Heap}
  {name qual : Str} {params : Arguments} {body : List Stmt} {scope : Scope} {dV kV doc pm cdv ct oc : Value} {an od : Option Addr} {osl : Array (Option Value)} {f : Addr} {args : Args} {binds : List (Str × Value)}

/-- a call of a def that changes nothing that stands -/
theorem enter0 {n : Nat} (G : Ok w mean mg mb hG s.heap) (R : Room A (n + 1))
    (ho : (hd.heap_39 w.params).lookup f = some ⟨oc, od, .func (fnOf name qual params body scope dV kV doc pm an cdv ct), osl⟩) (hcd : codeIn (hd.heap_39 w.params) cdv qual = true)
    (hbind : BindsTo s (fnOf name qual params body scope dV kV doc pm an cdv ct) args binds) (hloc : ∀ y ∈ binds, scope.names.lookup y.1 = some .local)
    (hco : scope.isCoroutine = false) (hgen : scope.isGenerator = false) (hk : scope.kind = .function) (hcell : ∀ x ∈ scope.names, x.2 ≠ .cell)
    (h : ∀ L' h₁ A', Room A' n → Fr s.heap L' h₁ (fun y => binds.reverse.lookup y) → News s.heap L' h₁ [] → (hd.heap_39 w.params).In s.heap → Top hd.view_39 LL mean mg mb s.heap →
      wpAny (model Challenge.rw_qj0003_01.row.prog w) A' (execs body (envOf qual scope L' f cdv))
        (fun fl s' => Q (match fl with | .ret v => v | _ => .none) s') (fun _ _ => False)
        { s with heap := h₁, toks := s.toks + binds.length }) :
    codeAny (model Challenge.rw_qj0003_01.row.prog w) A (.call (.ref f) args) (fun r s' => match r with | .ok (.ret v) => Q v s' | .ok _ => False | .error e => E e s') s := by
  have X := G.here
  have T := G.top
  refine codeAny_call_def (fd := fnOf name qual params body scope dV kV doc pm an cdv ct) (body := body) (binds := binds) (by have := R.depth; simp only [recursionLimit]; omega) (X _ _ ho) rfl T.nolimit (codeRec_of X hcd) rfl hbind hcell hloc (fun h₁ hns hk₁ => ?_) hco hgen hk
  exact wpAny_mono (h s.heap.objs.size h₁ _ R.deeper ⟨hns, hk₁, Nat.le_refl _⟩ News.nil X T) (fun fl s' hl => hl) fun _ _ y => y.elim
end
end
section
set_option maxRecDepth 100000
namespace Rx
open PySem.Builtin.Re

theorem plainAttrs_pattern : PlainAttrs "re.Pattern" :=
  ⟨⟨"object.__getattribute__", by rw [typeLookup_type, builtinLookup_eq_fast]; kernel_rfl, by decide +kernel⟩, by rw [typeLookup_type, builtinLookup_eq_fast]; kernel_rfl⟩
theorem slot_search : Slot "re.Pattern" "search" "re.Pattern.search" :=
  .of (owner := "re.Pattern") (n := "search") (by rw [typeLookup_type, builtinLookup_eq_fast]; kernel_rfl) (by decide +kernel) (by decide +kernel) (by decide +kernel)
    (by first | exact .inl (by decide +kernel) | exact .inr (by decide +kernel)) (by rw [isSubtype_type]; kernel_rfl)
theorem type_search : typeOf (.builtin "re.Pattern.search") = pure (.type "method_descriptor") := by show builtinType _ = _; rw [builtinType_eq_fast]; kernel_rfl
theorem entry_search : entryFor table "re.Pattern.search" = some Builtin.«re.Pattern.search» := entryFor_of_tree (by kernel_rfl)
theorem args_search (a b : Value) : argsOk "re.Pattern.search" ⟨[a, b], []⟩ := by
  unfold argsOk; kernel_rfl
end Rx
end
section
set_option maxRecDepth 100000
namespace Rx
open PySem.Builtin.Re

/-- a text whose signs are plain: from the blank up to the tilde -/
def Plain (x : Str) : Prop := ∀ c ∈ x.cps, 32 ≤ c ∧ c < 127

structure TxOk (x : Str) : Prop where
  plain : Plain x
  len : x.length ≤ 10000

def codeN : Array Nat := #[14, 10, 4, 1, 1, 22, 0, 31, 16, 127, 0, 13, 7, 22, 0, 31, 16, 127, 0, 1]
def codeV : Array Nat := #[14, 14, 4, 1, 1, 9, 4294966783, 0, 0, 2147483648, 0, 0, 0, 0, 0, 13, 11, 9, 4294966783, 0, 0, 2147483648, 0, 0, 0, 0, 0, 1]

theorem set_N (c : Nat) (h : 32 ≤ c ∧ c < 127) (seen : Sre.Seen) : ∃ seen', Sre.inSet codeN c codeN.size 5 true seen = .ok (false, seen') := by
  have h1 : (decide (0 ≤ c) && decide (c ≤ 31)) = false := by
    have : decide (c ≤ 31) = false := decide_eq_false (by omega)
    rw [this]; simp
  have h2 : (c == 127) = false := by simp; omega
  refine ⟨?_, ?_⟩
  rotate_left
  · show Sre.inSet codeN c 20 5 true seen = _
    show (if (decide (0 ≤ c) && decide (c ≤ 31)) = true then _ else _) = _
    rw [h1, if_neg Bool.false_ne_true]
    show (if (c == 127) = true then _ else _) = _
    rw [h2, if_neg Bool.false_ne_true]
    rfl
theorem bits_V : ∀ c, c < 127 → 32 ≤ c → (codeV.getD (5 + (1 + c / 32)) 0).testBit (c % 32) = false := by decide
theorem set_V (c : Nat) (h : 32 ≤ c ∧ c < 127) (seen : Sre.Seen) : ∃ seen', Sre.inSet codeV c codeV.size 5 true seen = .ok (false, seen') := by
  refine ⟨?_, ?_⟩
  rotate_left
  · show Sre.inSet codeV c 28 5 true seen = _
    show (if (decide (c < 256) && (codeV.getD (5 + (1 + c / 32)) 0).testBit (c % 32)) = true then _ else _) = _
    rw [bits_V c h.2 h.1, Bool.and_false, if_neg Bool.false_ne_true]
    rfl

theorem admitted_none {m : Sre.M} (hc : ∀ c, 32 ≤ c ∧ c < 127 → ∀ seen, ∃ seen', Sre.inSet m.code c m.code.size 5 true seen = .ok (false, seen')) (ht : ∀ c ∈ m.text, 32 ≤ c ∧ c < 127) (hl : m.lim = m.text.size) :
    ∀ fuel s seen, ∃ seen', m.admitted fuel s seen = .ok (none, seen')
  | 0, _, seen => ⟨seen, rfl⟩
  | fuel + 1, s, seen => by
    unfold Sre.M.admitted
    by_cases q : s ≥ m.lim
    · rw [if_pos q]; exact ⟨_, rfl⟩
    · rw [if_neg q]
      have hs : s < m.text.size := by omega
      have he : m.text.getD s 0 = m.text[s] := by simp [Array.getD, hs]
      obtain ⟨seen', e⟩ := hc (m.text.getD s 0) (by rw [he]; exact ht _ (Array.getElem_mem hs)) seen
      rw [e]
      exact admitted_none hc ht hl fuel (s + 1) seen'

/-- the search comes at once to its end -/
def AtEnd (m : Sre.M) : Prop := m.answer = some false ∧ m.frames = [] ∧ m.outcome = none
theorem attemptFrom_none {m : Sre.M} (hf : m.hasFirstSet = true) (hc : ∀ c, 32 ≤ c ∧ c < 127 → ∀ seen, ∃ seen', Sre.inSet m.code c m.code.size 5 true seen = .ok (false, seen')) (ht : ∀ c ∈ m.text, 32 ≤ c ∧ c < 127) (hl : m.lim = m.text.size)
    (h1 : m.frames = []) (h2 : m.outcome = none) (s : Nat) (first : Bool) : AtEnd (m.attemptFrom s first) := by
  unfold Sre.M.attemptFrom
  rw [hf, if_neg (by simp)]
  obtain ⟨seen', e⟩ := admitted_none hc ht hl (m.lim + 1 - s) s m.seen
  rw [e]; exact ⟨rfl, h1, h2⟩
theorem search_none {code : Array Nat} {text : Array Nat} (hcode : code = codeN ∨ code = codeV) (ht : ∀ c ∈ text, 32 ≤ c ∧ c < 127) : AtEnd (Sre.forSearch code text 0 0 text.size false) := by
  have hc : ∀ c, 32 ≤ c ∧ c < 127 → ∀ seen, ∃ seen', Sre.inSet code c code.size 5 true seen = .ok (false, seen') := by
    rcases hcode with rfl | rfl
    · exact fun c h seen => set_N c h seen
    · exact fun c h seen => set_V c h seen
  have h1 : (Sre.header code).1 = 1 := by rcases hcode with rfl | rfl <;> rfl
  unfold Sre.forSearch
  dsimp only
  rw [h1]
  by_cases q : (decide (0 > text.size) || decide (text.size - 0 < 1)) = true
  · rw [if_pos q]; exact ⟨rfl, rfl, rfl⟩
  · rw [if_neg q]
    refine attemptFrom_none ?_ hc ht rfl rfl rfl _ _
    rcases hcode with rfl | rfl <;> rfl
theorem drive_end {m : Sre.M} (h : AtEnd m) (n : Nat) : reDrive (n + 1) m = pure { m with outcome := some .failed } := by
  obtain ⟨a, b, c⟩ := h
  unfold reDrive
  have e : m.runFor reTurnSteps = { m with outcome := some .failed } := by
    show (if m.outcome.isSome = true then m else Sre.M.runFor 3 m.step) = _
    rw [c, if_neg (by simp)]
    have e1 : m.step = { m with outcome := some .failed } := by
      unfold Sre.M.step
      rw [c, if_neg (by simp), a, b]; rfl
    rw [e1]; rfl
  rw [e]; rfl

section
variable {prog : Program} {w : World} {A : Around} {E : Value → Shared → Prop} {s : Shared}
theorem runToEnd {m : Sre.M} (h : AtEnd m) {M : Model} {A : Around} {E : Value → Shared → Prop} {s : Shared} {Q : Option Sre.M → Shared → Prop} (q : Q none s) : wpAny M A (reRunToEnd m) Q E s := by
  unfold reRunToEnd
  rw [show (2 ^ 64 : Nat) = (2 ^ 64 - 1) + 1 from by decide, drive_end h]
  refine wpAny_bind (wpAny_pure ?_)
  refine wpAny_bind ?_
  generalize List.range Sre.names.size = l
  induction l with
  | nil => exact wpAny_pure (wpAny_pure q)
  | cons i r ih =>
    rw [List.forIn_cons]
    refine wpAny_bind ?_
    split
    · exact wpAny_bind (wpAny_rule (wpAny_pure ih))
    · exact wpAny_pure ih
theorem call_search {a c : Addr} {x : Str} {t : Tok} {o : Obj} {fs : Array Value} {oc : Obj} {its : Array Value} {n : Nat} {Q : Value → Shared → Prop}
    (ho : s.heap.get? a = some o) (hcls : o.cls = .type "re.Pattern") (hd : o.data = .fields fs) (h5 : fs.getD 5 .none = .ref c) (h6 : reRawNat (fs.getD 6 .none) = 0) (h2 : reRawNat (fs.getD 2 .none) = 0)
    (hoc : s.heap.get? c = some oc) (hcd : oc.data = .seq its n) (hcode : (its.map reRawOf).map (·.toNat) = codeN ∨ (its.map reRawOf).map (·.toNat) = codeV) (hx : Plain x)
    (hlen : x.length < 2 ^ 63 - 1) (h : Q .none s) :
    wpAny (model prog w) A (call (.builtin "re.Pattern.search") [.ref a, .str x t]) Q E s := by
  refine wpAny_call_entry slot_search ⟨o, ho, hcls⟩ entry_search ?_ (args_search _ _)
  unfold Builtin.«re.Pattern.search»
  refine wpAny_bind ?_
  unfold reTarget
  dsimp only
  refine wpAny_bind (m := reNamed "re.Pattern.search" "search" ["string", "pos", "endpos"] 1 [Value.str x t] []) ?_
  rw [show reNamed "re.Pattern.search" "search" ["string", "pos", "endpos"] 1 [Value.str x t] [] = pure [some (.str x t), none, none] from rfl]
  refine wpAny_pure ?_
  dsimp only
  refine wpAny_bind (wpAny_pure ?_)
  refine wpAny_bind (wpAny_pure ?_)
  refine wpAny_bind (wpAny_fieldsOf ho hd ?_)
  refine wpAny_bind (m := reTextOf (Value.str x t)) (wpAny_pure ?_)
  dsimp only
  rw [h6, if_neg (by decide), if_neg (by decide)]
  refine wpAny_bind (m := reNoCollectionInside (Value.str x t) 0) (wpAny_pure ?_)
  rw [h5]
  refine wpAny_bind (wpAny_bind (wpAny_seqItems hoc hcd (wpAny_pure ?_)))
  refine wpAny_pure ?_
  dsimp only
  rw [h2]
  have hl : min (2 ^ 63 - 1 : Int).toNat x.cps.size = x.cps.size := Nat.min_eq_right (by
    have : x.cps.size < 2 ^ 63 - 1 := hlen
    rw [show (2 ^ 63 - 1 : Int).toNat = 2 ^ 63 - 1 from by decide]; omega)
  rw [hl]
  unfold reAnswer
  refine wpAny_bind (runToEnd (search_none hcode hx) ?_)
  exact wpAny_pure ⟨_, rfl, h⟩
end
end Rx
end
section
set_option maxRecDepth 100000
section
variable {prog : Program} {w : World} {A : Around} {E : Value → Shared → Prop} {s : Shared} {env : Env} {h₀ : Heap} {target : Expr} {body : List Stmt} {Q : Flow → Shared → Prop}

/-- how a turn of a for ends -/
def TurnEnd (h₀ : Heap) (L I : Addr) (s : Shared) (news : List (Addr × Obj)) (io : Obj) (J : (Str → Option Value) → Heap → Prop) (Q : Flow → Shared → Prop) (f : Flow) (s₃ : Shared) : Prop :=
  match f with
  | .ret v => Q (.ret v) s₃
  | .brk => Q .next s₃
  | _ => ∃ h' tk' m', s₃ = { s with heap := h', toks := tk' } ∧ Fr h₀ L h' m' ∧ News h₀ L h' ((I, io) :: news) ∧ J m' h'

theorem News.sub {h₀ h : Heap} {L : Addr} {a b : List (Addr × Obj)} (N : News h₀ L h a) (hs : ∀ p ∈ b, p ∈ a) : News h₀ L h b := fun p hp => N p (hs p hp)

theorem loop_list {l : Addr} {items : List Value} {m₀ : Str → Option Value} {news : List (Addr × Obj)} {L : Addr} (hL : env.locals = L) (J : Nat → (Str → Option Value) → Heap → Prop)
    (hh : A.handled = none) (hl : s.heap.IsList l items.toArray) (hlk : (∃ o, h₀.get? l = some o) ∨ ∃ o, (l, o) ∈ news)
    (F : Fr h₀ L s.heap m₀) (N : News h₀ L s.heap news)
    (hJf : ∀ I i m h h' io, J i m h → h.get? I = some io → io.cls = .type "list_iterator" → (∀ b o, b ≠ I → h.get? b = some o → h'.get? b = some o) → J i m h')
    (hj : ∀ h, s.heap.StaysIn h → J 0 m₀ h)
    (turn : ∀ I i v m₁ h tk io, items[i]? = some v → J i m₁ h → io.cls = .type "list_iterator" → Fr h₀ L h m₁ → News h₀ L h ((I, io) :: news) →
      wpAny (model prog w) A (assign target env v) (fun _ s₂ => wpAny (model prog w) A (execs body env) (TurnEnd h₀ L I s news io (J (i + 1)) Q) E s₂) E { s with heap := h, toks := tk })
    (done : ∀ m₁ h tk, J items.length m₁ h → Fr h₀ L h m₁ → News h₀ L h news → Q .next { s with heap := h, toks := tk })
    (hE : PassesOwn (model prog w) A env E) :
    wpAny (model prog w) A (pyIter (.ref l)) (fun it s₂ => codeAny (model prog w) A (.forLoop target it body [] env) (fun r s' => match r with | .ok f => Q f s' | .error e => cameBackBy (model prog w) A env E e s') s₂) E s := by
  subst hL
  obtain ⟨ol, hol, hol2⟩ := id hl
  have hlt : l < s.heap.objs.size := Heap.lt_size hol
  have hlI : l ≠ s.heap.objs.size := Nat.ne_of_lt hlt
  have hLI : env.locals ≠ s.heap.objs.size := Nat.ne_of_lt F.ns.lt
  have hnI : ∀ p ∈ news, p.1 ≠ s.heap.objs.size := fun p hp => Nat.ne_of_lt (Heap.lt_size (N p hp).1)
  have hI0 : h₀.get? s.heap.objs.size = none := next_is_new F
  refine wpAny_pyIter_list hl ?_
  refine codeAny_forLoop_any (fun k s' => ∃ h' tk m' i, s' = { s with heap := h', toks := tk } ∧ h'.IsListIter s.heap.objs.size l i ∧ h'.IsList l items.toArray ∧ Fr h₀ env.locals h' m' ∧ News h₀ env.locals h' news ∧ J i m' h' ∧ i ≤ items.length ∧ k = items.length + 1 - i) ?_ (items.length + 1) ?_
  · rintro k s' ⟨h', tk, m', i, rfl, hit, hls, F', N', hJ, hi, rfl⟩
    by_cases q : i < items.length
    · have hx : items.toArray[i]? = some items[i] := by simp [q]
      obtain ⟨oi, hoi, hci, _⟩ := id hit
      refine wpAny_pyNext_list_item hit hls hx fun h₁ hit₁ hs₁ => ?_
      have hk₁ : ∀ b o, b ≠ s.heap.objs.size → h'.get? b = some o → h₁.get? b = some o := fun b o hb e => hs₁.extBut b o hb e
      refine letGo_listiter hit₁ ?_
      have F₁ : Fr h₀ env.locals h₁ m' := ⟨F'.ns.at' fun o e => hk₁ _ o hLI e, fun b o e => hk₁ b o (fun hb => by rw [hb, hI0] at e; cases e) (F'.keep b o e), F'.above⟩
      obtain ⟨io, hio, hcio, hdio⟩ := id hit₁
      have N₁ : News h₀ env.locals h₁ ((s.heap.objs.size, io) :: news) := fun p hp => by
        rcases List.mem_cons.mp hp with rfl | hp
        · exact ⟨hio, Ne.symm hLI, hI0⟩
        · exact ⟨hk₁ _ _ (hnI p hp) (N' p hp).1, (N' p hp).2⟩
      have hls₁ : h₁.IsList l items.toArray := hls.at fun o e => hk₁ _ o hlI e
      refine wpAny_mono (turn _ i items[i] m' h₁ tk io (by simp [q]) (hJf _ i m' h' h₁ oi hJ hoi hci hk₁) hcio F₁ N₁) (fun _ s₂ h₂ => wpAny_mono h₂ (fun f s₃ h₃ => ?_) hE) hE
      have go : (∃ h' tk' m', s₃ = { s with heap := h', toks := tk' } ∧ Fr h₀ env.locals h' m' ∧ News h₀ env.locals h' ((s.heap.objs.size, io) :: news) ∧ J (i + 1) m' h') →
          ∃ m, m < items.length + 1 - i ∧ ∃ h' tk m' i', s₃ = { s with heap := h', toks := tk } ∧ h'.IsListIter s.heap.objs.size l i' ∧ h'.IsList l items.toArray ∧ Fr h₀ env.locals h' m' ∧ News h₀ env.locals h' news ∧ J i' m' h' ∧ i' ≤ items.length ∧ m = items.length + 1 - i' := by
        rintro ⟨h₃', tk₃, m₃, rfl, F₃, N₃, J₃⟩
        refine ⟨items.length + 1 - (i + 1), by omega, h₃', tk₃, m₃, i + 1, rfl, ⟨io, (N₃ _ (.head _)).1, hcio, hdio⟩, ?_, F₃, News.sub N₃ (fun p hp => .tail _ hp), J₃, q, rfl⟩
        rcases hlk with ⟨o, ho⟩ | ⟨o, ho⟩
        · have e1 : o = ol := by
            have := F.keep _ _ ho; rw [hol] at this; exact (Option.some.inj this).symm
          exact ⟨o, F₃.keep _ _ ho, e1 ▸ hol2⟩
        · have e1 : o = ol := by
            have := (N _ ho).1; rw [hol] at this; exact (Option.some.inj this).symm
          exact ⟨o, (N₃ _ (.tail _ ho)).1, e1 ▸ hol2⟩
      cases f with
      | ret v => exact h₃
      | brk => exact h₃
      | next => exact go h₃
      | cont => exact go h₃
    · have hin : i = items.length := by omega
      subst hin
      obtain ⟨oi, hoi, hci, _⟩ := id hit
      refine wpAny_pyNext_list_end hh hit hls (by simp) fun h₁ hk₁ => ?_
      refine wpAny_execs_nil ?_
      have hk₁ : ∀ b o, b ≠ s.heap.objs.size → h'.get? b = some o → h₁.get? b = some o := fun b o hb e => hk₁ b o hb e
      have F₁ : Fr h₀ env.locals h₁ m' := ⟨F'.ns.at' fun o e => hk₁ _ o hLI e, fun b o e => hk₁ b o (fun hb => by rw [hb, hI0] at e; cases e) (F'.keep b o e), F'.above⟩
      exact done m' h₁ tk (hJf _ _ m' h' h₁ oi hJ hoi hci hk₁) F₁ (fun p hp => ⟨hk₁ _ _ (hnI p hp) (N' p hp).1, (N' p hp).2⟩)
  · refine ⟨_, s.toks, m₀, 0, rfl, ⟨_, Heap.get?_push_size _ rfl, rfl, rfl⟩, hl.at fun o e => Heap.get?_push_of_some _ e, F.push _, fun p hp => ⟨Heap.get?_push_of_some _ (N p hp).1, (N p hp).2⟩, hj _ fun b o e => Heap.get?_push_of_some _ e, Nat.zero_le _, rfl⟩

/-- the map that a loop leaves: at the names xs anything, else as before -/
abbrev offMap (xs : List Str) (u m₀ : Str → Option Value) : Str → Option Value := fun y => if xs.contains y = true then u y else m₀ y
theorem off_of {xs : List Str} {m₀ m' : Str → Option Value} (h : ∀ y, xs.contains y = false → m' y = m₀ y) : m' = offMap xs m' m₀ := by
  funext y
  unfold offMap
  cases q : xs.contains y with
  | true => rw [if_pos rfl]
  | false => rw [if_neg Bool.false_ne_true]; exact h y q

def TurnEnd0 (h₀ : Heap) (L I : Addr) (s : Shared) (news : List (Addr × Obj)) (io : Obj) (xs : List Str) (m₀ : Str → Option Value) (J : Heap → Prop) (Q : Flow → Shared → Prop) (f : Flow) (s₃ : Shared) : Prop :=
  match f with
  | .ret v => Q (.ret v) s₃
  | .brk => Q .next s₃
  | _ => ∃ h' tk' m', s₃ = { s with heap := h', toks := tk' } ∧ Fr h₀ L h' m' ∧ News h₀ L h' ((I, io) :: news) ∧ (∀ y, xs.contains y = false → m' y = m₀ y) ∧ J h'

theorem loop_list0 {l : Addr} {items : List Value} {m₀ : Str → Option Value} {news : List (Addr × Obj)} {L : Addr} (hL : env.locals = L) (xs : List Str) (J : Nat → Heap → Prop)
    (hh : A.handled = none) (hl : s.heap.IsList l items.toArray) (hlk : (∃ o, h₀.get? l = some o) ∨ ∃ o, (l, o) ∈ news)
    (F : Fr h₀ L s.heap m₀) (N : News h₀ L s.heap news)
    (hJf : ∀ I i h h' io, J i h → h.get? I = some io → io.cls = .type "list_iterator" → (∀ b o, b ≠ I → h.get? b = some o → h'.get? b = some o) → J i h')
    (hj : ∀ h, s.heap.StaysIn h → J 0 h)
    (turn : ∀ I i v u h tk io, items[i]? = some v → J i h → io.cls = .type "list_iterator" → Fr h₀ L h (offMap xs u m₀) → News h₀ L h ((I, io) :: news) →
      wpAny (model prog w) A (assign target env v) (fun _ s₂ => wpAny (model prog w) A (execs body env) (TurnEnd0 h₀ L I s news io xs m₀ (J (i + 1)) Q) E s₂) E { s with heap := h, toks := tk })
    (done : ∀ u h tk, J items.length h → Fr h₀ L h (offMap xs u m₀) → News h₀ L h news → Q .next { s with heap := h, toks := tk })
    (hE : PassesOwn (model prog w) A env E) :
    wpAny (model prog w) A (pyIter (.ref l)) (fun it s₂ => codeAny (model prog w) A (.forLoop target it body [] env) (fun r s' => match r with | .ok f => Q f s' | .error e => cameBackBy (model prog w) A env E e s') s₂) E s := by
  refine loop_list hL (fun i m h => (∀ y, xs.contains y = false → m y = m₀ y) ∧ J i h) hh hl hlk F N (fun I i m h h' io j a b c => ⟨j.1, hJf I i h h' io j.2 a b c⟩) (fun h st => ⟨fun _ _ => rfl, hj h st⟩) ?_ ?_ hE
  · rintro I i v m₁ h tk io hv ⟨hm, hJ⟩ hio F₁ N₁
    rw [off_of hm] at F₁
    refine wpAny_mono (turn I i v m₁ h tk io hv hJ hio F₁ N₁) (fun _ s₂ h₂ => wpAny_mono h₂ (fun f s₃ h₃ => ?_) fun _ _ e => e) fun _ _ e => e
    cases f with
    | ret v => exact h₃
    | brk => exact h₃
    | next => obtain ⟨h', tk', m', e, a, b, c, d⟩ := h₃; exact ⟨h', tk', m', e, a, b, c, d⟩
    | cont => obtain ⟨h', tk', m', e, a, b, c, d⟩ := h₃; exact ⟨h', tk', m', e, a, b, c, d⟩
  · rintro m₁ h tk ⟨hm, hJ⟩ F₁ N₁
    rw [off_of hm] at F₁
    exact done m₁ h tk hJ F₁ N₁
end
end
section
set_option maxRecDepth 100000
open Rx

structure NmOk (x : Str) : Prop where
  len : x.length ≤ 100
  self : TxOk x
  low : TxOk (Txt.lower x)
theorem Fr.on {h₀ h h' : Heap} {L : Addr} {m : Str → Option Value} (F : Fr h₀ L h m) (st : h.StaysIn h') : Fr h₀ L h' m := ⟨F.ns.at' fun o e => st _ o e, fun b o e => st b o (F.keep b o e), F.above⟩
theorem News.on {h₀ h h' : Heap} {L : Addr} {news : List (Addr × Obj)} (N : News h₀ L h news) (st : h.StaysIn h') : News h₀ L h' news := fun p hp => ⟨st _ _ (N p hp).1, (N p hp).2⟩
theorem InstAt.on {h h' : Heap} {x C : Addr} {ox : Obj} {od : Option Obj} (I : InstAt h x ox C od) (st : h.StaysIn h') : InstAt h' x ox C od :=
  ⟨st _ _ I.at_, I.cls, I.no, by
    have d := I.dict
    revert d
    cases ox.dict <;> cases od <;> simp
    intro e; exact st _ _ e⟩

abbrev tupObj (vs : List Value) (n : Nat) : Obj := { cls := .type "tuple", data := .seq vs.toArray n }
abbrev lstObj (vs : List Value) (n : Nat) : Obj := { cls := .type "list", data := .seq vs.toArray n }

/-- a pair of two texts stands at a -/
def PairAt (h : Heap) (a : Addr) (p : Str × Str) : Prop := ∃ t1 t2 n, h.get? a = some (tupObj [.str p.1 t1, .str p.2 t2] n)
inductive PairsAt (h : Heap) : List Addr → List (Str × Str) → Prop
  | nil : PairsAt h [] []
  | cons {a p as ps} : PairAt h a p → PairsAt h as ps → PairsAt h (a :: as) (p :: ps)
theorem PairsAt.on {h h' : Heap} (st : h.StaysIn h') : ∀ {as ps}, PairsAt h as ps → PairsAt h' as ps
  | _, _, .nil => .nil
  | _, _, .cons ⟨t1, t2, n, e⟩ r => .cons ⟨t1, t2, n, st _ _ e⟩ (r.on st)
theorem PairsAt.length {h : Heap} : ∀ {as ps}, PairsAt h as ps → as.length = ps.length
  | _, _, .nil => rfl
  | _, _, .cons _ r => by simp [r.length]
theorem PairsAt.get {h : Heap} : ∀ {as ps} (i : Nat) {a}, PairsAt h as ps → as[i]? = some a → ∃ p, ps[i]? = some p ∧ PairAt h a p
  | _, _, 0, _, .cons e _, hi => by simp at hi; subst hi; exact ⟨_, rfl, e⟩
  | _, _, i + 1, _, .cons _ r, hi => r.get i (by simpa using hi)
theorem PairsAt.snoc {h : Heap} : ∀ {as ps} {a p}, PairsAt h as ps → PairAt h a p → PairsAt h (as ++ [a]) (ps ++ [p])
  | _, _, _, _, .nil, e => .cons e .nil
  | _, _, _, _, .cons e r, e' => .cons e (r.snoc e')
/-- a Headers object x whose list stands at l -/
def HdAt (h : Heap) (x l : Addr) : Prop := ∃ dx hs tk n, InstAt h x (instObj 184 dx) 184 (some (dictOf [⟨hs, .str (Str.ofString "_headers") tk, .ref l⟩] n))
theorem HdAt.on {h h' : Heap} {x l : Addr} (H : HdAt h x l) (st : h.StaysIn h') : HdAt h' x l := let ⟨dx, hs, tk, n, I⟩ := H; ⟨dx, hs, tk, n, InstAt.on I st⟩
/-- a list of references stands at l -/
def RefsAt (h : Heap) (l : Addr) (as : List Addr) : Prop := ∃ n, h.get? l = some (lstObj (as.map .ref) n)
theorem RefsAt.on {h h' : Heap} {l : Addr} {as : List Addr} (H : RefsAt h l as) (st : h.StaysIn h') : RefsAt h' l as := let ⟨n, e⟩ := H; ⟨n, st _ _ e⟩
theorem RefsAt.isList {h : Heap} {l : Addr} {as : List Addr} (H : RefsAt h l as) : h.IsList l (as.map Value.ref).toArray := let ⟨n, e⟩ := H; ⟨_, e, rfl, n, rfl⟩
end
section
set_option maxRecDepth 100000
/-- all stays but at these places -/
def StaysBut (adr : List Addr) (h h' : Heap) : Prop := ∀ b o, b ∉ adr → h.get? b = some o → h'.get? b = some o
theorem StaysBut.of {adr : List Addr} {h h' : Heap} (st : h.StaysIn h') : StaysBut adr h h' := fun b o _ e => st b o e
theorem StaysBut.nil {h h' : Heap} (st : StaysBut [] h h') : h.StaysIn h' := fun b o e => st b o (by simp) e
theorem StaysBut.trans {adr : List Addr} {h h' h'' : Heap} (a : StaysBut adr h h') (b : StaysBut adr h' h'') : StaysBut adr h h'' := fun x o n e => b x o n (a x o n e)
theorem StaysBut.mono {adr adr' : List Addr} {h h' : Heap} (a : StaysBut adr h h') (hs : ∀ x ∈ adr, x ∈ adr') : StaysBut adr' h h' := fun x o n e => a x o (fun q => n (hs x q)) e

theorem Fr.onBut {h₀ h h' : Heap} {L : Addr} {m : Str → Option Value} {adr : List Addr} (F : Fr h₀ L h m) (hn : ∀ a ∈ adr, a ≠ L ∧ h₀.get? a = none) (st : StaysBut adr h h') : Fr h₀ L h' m :=
  ⟨F.ns.at' fun o e => st _ o (fun q => (hn _ q).1 rfl) e, fun b o e => st b o (fun q => by rw [(hn _ q).2] at e; cases e) (F.keep b o e), F.above⟩
theorem News.onBut {h₀ h h' : Heap} {L : Addr} {news : List (Addr × Obj)} {adr : List Addr} (N : News h₀ L h news) (hn : ∀ p ∈ news, p.1 ∉ adr) (st : StaysBut adr h h') : News h₀ L h' news := fun p hp => ⟨st _ _ (hn p hp) (N p hp).1, (N p hp).2⟩
theorem News.cons {h₀ h : Heap} {L a : Addr} {o : Obj} {news : List (Addr × Obj)} (N : News h₀ L h news) (e : h.get? a = some o) (hL : a ≠ L) (h0 : h₀.get? a = none) : News h₀ L h ((a, o) :: news) := fun p hp => by
  rcases List.mem_cons.mp hp with rfl | hp
  · exact ⟨e, hL, h0⟩
  · exact N p hp
theorem News.app {h₀ h : Heap} {L : Addr} {a b : List (Addr × Obj)} (N : News h₀ L h a) (M : News h₀ L h b) : News h₀ L h (a ++ b) := fun p hp => by
  rcases List.mem_append.mp hp with q | q
  · exact N p q
  · exact M p q

theorem Room.make {A : Around} {n : Nat} {C : Addr} {pos : List Value} {kw : List (Str × Value)} (R : Room A (n + 2)) : Room (A.under (.builtin "type.__call__" ⟨.ref C :: pos, kw⟩)) n := by
  have hw : (Code.builtin "type.__call__" ⟨.ref C :: pos, kw⟩).weight ≤ 2 := by exact (show (1 : Nat) ≤ 2 by decide)
  have hu : (Code.builtin "type.__call__" ⟨.ref C :: pos, kw⟩).cUnits ≤ 4 := by exact (show (1 : Nat) ≤ 4 by decide)
  have hg : (Code.builtin "type.__call__" ⟨.ref C :: pos, kw⟩).guards = [] := rfl
  refine ⟨R.handled, ?_, ?_, ?_⟩
  · have := R.depth
    show A.depth + (Code.builtin "type.__call__" ⟨.ref C :: pos, kw⟩).weight + n < 900
    omega
  · have := R.units
    show A.units + (Code.builtin "type.__call__" ⟨.ref C :: pos, kw⟩).cUnits + 10 * n < 9000
    omega
  · show pushGuards (Code.builtin "type.__call__" ⟨.ref C :: pos, kw⟩).guards A.guards = some []
    rw [R.guards, hg]; rfl

section
variable {w : World} {A : Around} {s : Shared} {mean : ExcName → Option Value} {mg mb : Str → Option Value} {hG : Heap}
  {name qual : Str} {params : Arguments} {body : List Stmt} {scope : Scope} {dV kV doc pm cdv ct oc : Value} {an od : Option Addr} {osl : Array (Option Value)} {f : Addr} {args : Args} {binds : List (Str × Value)}

/-- a call of a def that may change the objects `own` -/
theorem enterN {R : Result → Shared → Prop} {n : Nat} (own : List (Addr × Obj)) (G : Ok w mean mg mb hG s.heap) (Rm : Room A (n + 1)) (hown : ∀ p ∈ own, s.heap.get? p.1 = some p.2 ∧ hG.get? p.1 = none)
    (ho : (hd.heap_39 w.params).lookup f = some ⟨oc, od, .func (fnOf name qual params body scope dV kV doc pm an cdv ct), osl⟩) (hcd : codeIn (hd.heap_39 w.params) cdv qual = true)
    (hbind : BindsTo s (fnOf name qual params body scope dV kV doc pm an cdv ct) args binds) (hloc : ∀ y ∈ binds, scope.names.lookup y.1 = some .local)
    (hco : scope.isCoroutine = false) (hgen : scope.isGenerator = false) (hk : scope.kind = .function) (hcell : ∀ x ∈ scope.names, x.2 ≠ .cell)
    (h : ∀ g L' h₁ A', Room A' n → Fr g L' h₁ (fun y => binds.reverse.lookup y) → News g L' h₁ own → (hd.heap_39 w.params).In g → Top hd.view_39 LL mean mg mb g → Ok w mean mg mb hG g → StaysBut (own.map (·.1)) s.heap g → (∀ b o, g.get? b = some o → s.heap.get? b = some o) → (∀ p ∈ own, p.1 < L') →
      wpAny (model Challenge.rw_qj0003_01.row.prog w) A' (execs body (envOf qual scope L' f cdv))
        (fun fl s' => R (.ok (.ret (match fl with | .ret v => v | _ => .none))) s') (fun _ _ => False)
        { s with heap := h₁, toks := s.toks + binds.length }) :
    codeAny (model Challenge.rw_qj0003_01.row.prog w) A (.call (.ref f) args) R s := by
  have X := G.here
  have T := G.top
  have st : hG.StaysIn (hideAll s.heap (own.map (·.1))) := fun b o e => hideAll_get _ (G.st b o e) (fun q => by
    obtain ⟨p, hp, rfl⟩ := List.mem_map.mp q
    rw [(hown p hp).2] at e; cases e)
  have G' : Ok w mean mg mb hG (hideAll s.heap (own.map (·.1))) := ⟨G.K, G.T, st⟩
  refine codeAny_call_def (fd := fnOf name qual params body scope dV kV doc pm an cdv ct) (body := body) (binds := binds) (by have := Rm.depth; simp only [recursionLimit]; omega) (X _ _ ho) rfl T.nolimit (codeRec_of X hcd) rfl hbind hcell hloc (fun h₁ hns hk₁ => ?_) hco hgen hk
  refine wpAny_mono (h (hideAll s.heap (own.map (·.1))) s.heap.objs.size h₁ _ Rm.deeper ⟨hns, fun b o e => hk₁ b o (of_hideAll _ e), Nat.le_of_eq (hideAll_size _ _)⟩
    (fun p hp => ⟨hk₁ _ _ (hown p hp).1, Nat.ne_of_lt (Heap.lt_size (hown p hp).1), hideAll_none _ (List.mem_map_of_mem hp)⟩) G'.here G'.top G' (fun b o n e => hideAll_get _ e n) (fun b o e => of_hideAll _ e) (fun p hp => Heap.lt_size (hown p hp).1)) (fun fl s' hl => hl) fun _ _ y => y.elim
end
end
example (w : World) (h : Heap) : (hd.heap_39 w.params).In h → PySem.Challenge.rw_qj0003_01.Holds → True := by
  k_fill; intro _ _; trivial
local macro_rules | `(tactic| k_inst) => `(tactic| exact InstAt.on (by assumption) (Fr.keep (by k_asm)))
local macro_rules | `(tactic| walk_at "call builtin:str.lower") => `(tactic| ((try dsimp only); refine SCL.lower (Nat.le_trans (NmOk.len (by assumption)) (by decide)) ?_; intro _))
local macro_rules | `(tactic| walk_at "call builtin:str.lower") => `(tactic| ((try dsimp only); refine SCL.lower (by assumption) ?_; intro _))
local macro_rules | `(tactic| walk_at "assign Tuple") => `(tactic| (k_dflt (refine' unpackN_ ?F ?N ?T ?k1 ?k2 ?k3 ?_; (case F => k_asm); (case N => k_asm); (case T => assumption); (case k1 => assumption); (case k2 => rfl); (case k3 => rfl)); intro h' F' N'; (try k_sweep)))
section
open Rx
theorem getSearch {M : Model} {A : Around} {E : Value → Shared → Prop} {s : Shared} {K : Frag} {h₀ : Heap} {L a : Addr} {m : Str → Option Value} {pl : Sem Bool} {dt : Data} {sl : Array (Option Value)} {Q : Value × List Value → Shared → Prop} (F : Fr h₀ L s.heap m) (X : K.In h₀)
   (ho : K.lookup a = some ⟨.type "re.Pattern", none, dt, sl⟩) (h : Q (.builtin "re.Pattern.search", [.ref a]) s) : wpAny M A (getMethod (.ref a) (Str.ofString "search") pl) Q E s :=
  have e := F.keep _ _ (X _ _ ho)
  getMethod_builtin ⟨_, e, rfl⟩ plainAttrs_pattern slot_search type_search (fun b hb => by cases hb; exact ⟨_, e, rfl⟩) h
theorem callSearch {prog : Program} {w : World} {A : Around} {E : Value → Shared → Prop} {s : Shared} {K : Frag} {h₀ : Heap} {L a c : Addr} {m : Str → Option Value} {fs its : Array Value} {sl slc : Array (Option Value)} {x : Str} {t : Tok} {n : Nat} {dc : Option Addr} {cc : Value} {Q : Value → Shared → Prop} (F : Fr h₀ L s.heap m) (X : K.In h₀)
   (ho : K.lookup a = some ⟨.type "re.Pattern", none, .fields fs, sl⟩) (h5 : fs.getD 5 .none = .ref c) (h6 : PySem.Builtin.Re.reRawNat (fs.getD 6 .none) = 0) (h2 : PySem.Builtin.Re.reRawNat (fs.getD 2 .none) = 0)
   (hoc : K.lookup c = some ⟨cc, dc, .seq its n, slc⟩) (hcode : (its.map PySem.Builtin.Re.reRawOf).map (·.toNat) = codeN ∨ (its.map PySem.Builtin.Re.reRawOf).map (·.toNat) = codeV) (hx : Plain x)
   (hlen : x.length < 2 ^ 63 - 1) (h : Q .none s) : wpAny (model prog w) A (call (.builtin "re.Pattern.search") [.ref a, .str x t]) Q E s :=
  call_search (F.keep _ _ (X _ _ ho)) rfl rfl h5 h6 h2 (F.keep _ _ (X _ _ hoc)) rfl hcode hx hlen h
local macro_rules | `(tactic| walk_at "call builtin:re.Pattern.search") => `(tactic| (k_here; k_dflt (refine' callSearch ?k1 ?k2 ?k3 ?k4 ?k5 ?k6 ?k7 ?k8 ?k9 ?k10 ?_; (case k1 => k_asm); (case k2 => k_asm); (case k3 => k_is); (case k4 => rfl); (case k5 => rfl); (case k6 => rfl); (case k7 => k_is); (case k8 => first | exact .inl (by decide +kernel) | exact .inr (by decide +kernel)); (case k9 => assumption); (case k10 => assumption); k_whole)))
local macro_rules | `(tactic| walk_at "getMethod ref") => `(tactic| (k_here; k_dflt (refine' getSearch ?k1 ?k2 ?k3 ?_; (case k1 => k_asm); (case k2 => k_asm); (case k3 => k_is); k_whole)))
set_option maxRecDepth 100000 in
set_option maxHeartbeats 2000000 in
theorem conv_spec {w : World} {A : Around} {E Q : Value → Shared → Prop} {s : Shared} {mean : ExcName → Option Value} {mg mb : Str → Option Value} {hG : Heap} {x : Str} {t : Tok} {b : Bool} {self : Value}
   (G : Ok w mean mg mb hG s.heap) (R : Room A 2) (ht : TxOk x)
   (h : ∀ h' tk, s.heap.StaysIn h' → Q (.str x t) { s with heap := h', toks := tk }) :
   wpAny (model Challenge.rw_qj0003_01.row.prog w) A (call (.ref 83) [self, .str x t] [(Str.ofString "name", .bool b)]) Q E s := by
  have hx := ht.plain
  have hlen : x.length < 2 ^ 63 - 1 := Nat.lt_of_le_of_lt ht.len (by decide)
  refine wpAny_call (enter0 (n := 1) (binds := [(Str.ofString "self", self), (Str.ofString "value", .str x t), (Str.ofString "name", .bool b)]) G R (by k_is) (by k_is) (BindsTo.of_eq rfl) (locs rfl) rfl rfl rfl (by decide) ?_)
  intro L h₁ A' R' F N X T
  k_steps
  all_goals (try dsimp only)
  all_goals exact h _ _ (Fr.keep (by k_asm))
end
local macro_rules | `(tactic| walk_at "call ref") => `(tactic| ((with_reducible show wpAny _ _ (call (Value.ref 83) _ _) _ _ _); refine conv_spec (Ok.keep (by assumption) (Fr.keep (by k_asm))) (Room.le (by assumption) (by decide)) (by (first | assumption | exact NmOk.low (by assumption) | exact NmOk.self (by assumption))) ?_; ((intro h' tk' st'; (have F' := Fr.on (by k_asm) st'); (have N' := News.on (by k_asm) st'); k_sweep))))
section
open Rx
/-- what get tells -/
def GetIs (ps : List (Str × Str)) (nm : Str) (v : Value) : Prop := match ps.find? (fun p => Txt.lower p.1 == Txt.lower nm) with
  | none => v = .none
  | some p => ∃ t, v = .str p.2 t
theorem getIs_some {ps : List (Str × Str)} {nm : Str} {i : Nat} {p : Str × Str} {t : Tok} (hno : ∀ q ∈ ps.take i, Txt.lower q.1 ≠ Txt.lower nm) (hp : ps[i]? = some p) (he : Txt.lower p.1 = Txt.lower nm) : GetIs ps nm (.str p.2 t) := by
  have e : ps.find? (fun p => Txt.lower p.1 == Txt.lower nm) = some p := by
    have hs : ps = ps.take i ++ p :: ps.drop (i + 1) := by
      have := (List.take_append_drop i ps).symm
      rw [List.drop_eq_getElem_cons (by obtain ⟨hl, _⟩ := List.getElem?_eq_some_iff.mp hp; exact hl)] at this
      obtain ⟨hl, e⟩ := List.getElem?_eq_some_iff.mp hp
      rw [e] at this; exact this
    rw [hs, List.find?_append, List.find?_eq_none.mpr (by intro q hq; simpa using hno q hq)]
    simp [he]
  unfold GetIs; rw [e]; exact ⟨_, rfl⟩
theorem getIs_none {ps : List (Str × Str)} {nm : Str} (hno : ∀ q ∈ ps.take ps.length, Txt.lower q.1 ≠ Txt.lower nm) : GetIs ps nm .none := by
  unfold GetIs
  rw [List.find?_eq_none.mpr (by intro q hq; simpa using hno q (by simpa using hq))]
theorem take_step {ps : List (Str × Str)} {P : Str × Str → Prop} {i : Nat} {p : Str × Str} (hno : ∀ q ∈ ps.take i, P q) (hp : ps[i]? = some p) (he : P p) : ∀ q ∈ ps.take (i + 1), P q := by
  intro q hq
  rw [List.take_add_one, hp] at hq
  rcases List.mem_append.mp hq with h | h
  · exact hno q h
  · simp at h; subst h; exact he
set_option maxRecDepth 100000 in
set_option maxHeartbeats 2000000 in
theorem get_spec {w : World} {A : Around} {E Q : Value → Shared → Prop} {s : Shared} {mean : ExcName → Option Value} {mg mb : Str → Option Value} {hG : Heap} {nm : Str} {t : Tok} {x l : Addr} {as : List Addr} {ps : List (Str × Str)}
   (G : Ok w mean mg mb hG s.heap) (R : Room A 4) (H : HdAt s.heap x l) (HL : RefsAt s.heap l as) (HP : PairsAt s.heap as ps) (hn : NmOk nm) (hps : ∀ p ∈ ps, p.1.length ≤ 100)
   (h : ∀ v h' tk, s.heap.StaysIn h' → GetIs ps nm v → Q v { s with heap := h', toks := tk }) :
   wpAny (model Challenge.rw_qj0003_01.row.prog w) A (call (.ref 131) [.ref x, .str nm t]) Q E s := by
  obtain ⟨dx, hs, tkx, n, I⟩ := H
  refine wpAny_call (enter0 (n := 3) (binds := [(Str.ofString "self", .ref x), (Str.ofString "name", .str nm t), (Str.ofString "default", .none)]) G R (by k_is) (by k_is) ?bind (locs rfl) rfl rfl rfl (by decide) ?_)
  case bind => first | exact BindsTo.of_eq rfl | exact binds_K G.here rfl (by k_is) rfl rfl rfl
  intro L h₁ A' R' F N X T
  (repeat' ((fail_if_success (with_reducible show wpAny _ _ (exec (Stmt.For _ _ _ _ _) _) _ _ _)); (fail_if_success (with_reducible show wpAny _ _ (eval (Expr.ListComp _ _ _ _) _) _ _ _)); (fail_if_success (with_reducible show wpAny _ _ (eval (Expr.DictComp _ _ _ _ _) _) _ _ _)); (fail_if_success (with_reducible show wpAny _ _ (pyIter _) _ _ _)); (first | (k_unfold; (try dsimp only)) | walk1 | (dsimp only; walk1))))
  refine wpAny_For ?_
  (repeat' ((fail_if_success (with_reducible show wpAny _ _ (exec (Stmt.For _ _ _ _ _) _) _ _ _)); (fail_if_success (with_reducible show wpAny _ _ (eval (Expr.ListComp _ _ _ _) _) _ _ _)); (fail_if_success (with_reducible show wpAny _ _ (eval (Expr.DictComp _ _ _ _ _) _) _ _ _)); (fail_if_success (with_reducible show wpAny _ _ (pyIter _) _ _ _)); (first | (k_unfold; (try dsimp only)) | walk1 | (dsimp only; walk1))))
  rename Fr _ _ _ _ => F1
  rename News _ _ _ _ => N1
  have hA := R'.handled
  refine loop_list0 (L := L) rfl [Str.ofString "k", Str.ofString "v"] (fun i _ => ∀ p ∈ ps.take i, Txt.lower p.1 ≠ Txt.lower nm) R'.handled (RefsAt.isList (HL.on F1.keep)) (.inl (HL.elim fun _ e => ⟨_, e⟩)) F1 N1 ?jf ?j0 ?turn ?done PassesOwn.never
  case jf => exact fun I i h h' io j _ _ _ => j
  case j0 => exact fun hh st => by simp
  case turn =>
    intro I i v u hh tk io hv hno hio F2 N2
    clear F1 N1
    rw [List.getElem?_map] at hv
    obtain ⟨a, ha, rfl⟩ := Option.map_eq_some_iff.mp hv
    obtain ⟨p, hp, t1, t2, np, hpa⟩ := HP.get i ha
    have hpa' : IsTup hh a #[Value.str p.fst t1, Value.str p.snd t2] := ⟨_, F2.keep _ _ hpa, rfl, _, rfl⟩
    have hpl : p.1.length ≤ 5592405 := Nat.le_trans (hps p (List.mem_of_getElem? hp)) (by decide)
    (repeat' ((fail_if_success (with_reducible show wpAny _ _ (exec (Stmt.For _ _ _ _ _) _) _ _ _)); (fail_if_success (with_reducible show wpAny _ _ (eval (Expr.ListComp _ _ _ _) _) _ _ _)); (fail_if_success (with_reducible show wpAny _ _ (eval (Expr.DictComp _ _ _ _ _) _) _ _ _)); (fail_if_success (with_reducible show wpAny _ _ (pyIter _) _ _ _)); (first | (k_unfold; (try dsimp only)) | walk1 | (dsimp only; walk1))))
    · rename _ = true => hc
      exact h _ _ _ (Fr.keep (by k_asm)) (getIs_some hno hp (by simpa using hc))
    · rename _ = false => hc
      refine ⟨_, _, _, rfl, by k_asm, by k_asm, ?_, take_step hno hp (by simpa using hc)⟩
      intro y hy
      simp only [List.contains_cons, List.contains_nil, Bool.or_false, Bool.or_eq_false_iff, beq_eq_false_iff_ne, ne_eq] at hy
      simp [hy.1, hy.2, offMap]
  case done =>
    intro u hh tk hno F2 N2
    clear F1 N1
    (repeat' ((fail_if_success (with_reducible show wpAny _ _ (exec (Stmt.For _ _ _ _ _) _) _ _ _)); (fail_if_success (with_reducible show wpAny _ _ (eval (Expr.ListComp _ _ _ _) _) _ _ _)); (fail_if_success (with_reducible show wpAny _ _ (eval (Expr.DictComp _ _ _ _ _) _) _ _ _)); (fail_if_success (with_reducible show wpAny _ _ (pyIter _) _ _ _)); (first | (k_unfold; (try dsimp only)) | walk1 | (dsimp only; walk1))))
    exact h _ _ _ (Fr.keep (by k_asm)) (getIs_none (by rw [List.length_map, HP.length] at hno; exact hno))
end
section
open Rx
theorem type_list {prog : Program} {w : World} {A : Around} {E Q : Value → Shared → Prop} {s : Shared} {h₀ : Heap} {L l : Addr} {m : Str → Option Value} {as : List Addr} (F : Fr h₀ L s.heap m) (H : RefsAt h₀ l as) (hq : Q (.type "list") s) : wpAny (model prog w) A (call (.type "type") [.ref l]) Q E s :=
  kto_cont (T := "list") (H.elim fun _ e => ⟨_, F.keep _ _ e, rfl⟩) (by decide +kernel) hq
local macro_rules | `(tactic| walk_at "call type:type") => `(tactic| (refine type_list (by k_asm) (by assumption) ?_))
set_option maxRecDepth 100000 in
set_option maxHeartbeats 2000000 in
theorem make_spec {w : World} {A : Around} {E Q : Value → Shared → Prop} {s : Shared} {mean : ExcName → Option Value} {mg mb : Str → Option Value} {hG h₀ : Heap} {L l : Addr} {m : Str → Option Value} {news : List (Addr × Obj)} {as : List Addr} {ps : List (Str × Str)}
   (G : Ok w mean mg mb hG s.heap) (R : Room A 8) (F : Fr h₀ L s.heap m) (N : News h₀ L s.heap news) (HL : RefsAt s.heap l as) (HP : PairsAt s.heap as ps) (hps : ∀ p ∈ ps, TxOk p.1 ∧ TxOk p.2)
   (h : ∀ x dx hs tk n h' tk', Fr h₀ L h' m → News h₀ L h' ((x, instObj 184 dx) :: (dx, dictOf [⟨hs, .str (Str.ofString "_headers") tk, .ref l⟩] n) :: news) → s.heap.StaysIn h' → s.heap.get? x = none → s.heap.get? dx = none → Q (.ref x) { s with heap := h', toks := tk' }) :
   wpAny (model Challenge.rw_qj0003_01.row.prog w) A (call (.ref 184) [.ref l]) Q E s := by
  obtain ⟨hh, gn, dr, tt, os⟩ := s
  dsimp only at *
  refine wpAny_call (make_core (makes_of (K := hd.heap_39 w.params) (C := 184) G.here (by k_is)) (looks_findIn G.here (by k_is)) (fun self => bind_fn G.here self (by k_is)) (.inl rfl) ?_)
  obtain ⟨h1, e1⟩ : ∃ h1, h1 = (hh.push emptyDict).push (instObj 184 hh.objs.size) := ⟨_, rfl⟩
  have st1 : hh.StaysIn h1 := fun b o e => by rw [e1]; exact Heap.get?_push_of_some _ (Heap.get?_push_of_some _ e)
  have F1 : Fr h₀ L h1 m := by rw [e1]; exact (F.push _).push _
  have N1 : News h₀ L h1 ((hh.objs.size + 1, instObj 184 hh.objs.size) :: (hh.objs.size, emptyDict) :: news) := by
    have := (N.push F emptyDict).push (F.push _) (instObj 184 hh.objs.size)
    rw [Heap.size_push] at this
    rw [e1]; exact this
  have hnx : hh.get? (hh.objs.size + 1) = none := Heap.get?_none_of_le (Nat.le_succ _)
  have hnd : hh.get? hh.objs.size = none := Heap.get?_none_of_le (Nat.le_refl _)
  have hne : hh.objs.size ≠ hh.objs.size + 1 := Nat.ne_of_lt (Nat.lt_succ_self _)
  rw [← e1]
  clear e1
  revert hnx hnd hne N1
  generalize hx : hh.objs.size + 1 = x
  generalize hdx : hh.objs.size = dx
  intro N1 hnx hnd hne
  clear hx hdx
  have G1 : Ok w mean mg mb hG h1 := G.keep st1
  have hGn : ∀ a, hh.get? a = none → hG.get? a = none := fun a e => by
    cases q : hG.get? a with
    | none => rfl
    | some o => rw [G.st _ _ q] at e; cases e
  refine enterN (n := 5) [(x, instObj 184 dx), (dx, emptyDict)] (binds := [(Str.ofString "self", .ref x), (Str.ofString "headers", .ref l)]) G1 (Room.make R) ?own (by k_is) (by k_is) ?bind (locs rfl) rfl rfl rfl (by decide) ?_
  case own =>
    intro p hp
    rcases List.mem_cons.mp hp with rfl | hp
    · exact ⟨(N1 _ (.head _)).1, hGn _ hnx⟩
    · rcases List.mem_singleton.mp hp with rfl
      exact ⟨(N1 _ (.tail _ (.head _))).1, hGn _ hnd⟩
  case bind => first | exact BindsTo.of_eq rfl | exact binds_K G1.here rfl (by k_is) rfl rfl rfl
  intro g L' h2 A' R' F2 N2 X2 T2 G2 stg gst hlt
  have hA := R'.handled
  have hxl : l ∉ [x, dx] := by
    obtain ⟨nl, el⟩ := HL
    intro q
    simp only [List.mem_cons, List.not_mem_nil, or_false] at q
    rcases q with rfl | rfl
    · rw [hnx] at el; cases el
    · rw [hnd] at el; cases el
  have HLg : RefsAt g l as := by obtain ⟨nl, el⟩ := HL; exact ⟨nl, stg _ _ hxl (st1 _ _ el)⟩
  have HPg : PairsAt g as ps := HP.on (fun b o e => stg _ _ (by
    intro q
    simp only [List.map_cons, List.map_nil, List.mem_cons, List.not_mem_nil, or_false] at q
    rcases q with rfl | rfl
    · rw [hnx] at e; cases e
    · rw [hnd] at e; cases e) (st1 _ _ e))
  have hLs : h2.IsList l (as.map Value.ref).toArray := RefsAt.isList (HLg.on F2.keep)
  (repeat' ((fail_if_success (with_reducible show wpAny _ _ (exec (Stmt.For _ _ _ _ _) _) _ _ _)); (fail_if_success (with_reducible show wpAny _ _ (eval (Expr.ListComp _ _ _ _) _) _ _ _)); (fail_if_success (with_reducible show wpAny _ _ (eval (Expr.DictComp _ _ _ _ _) _) _ _ _)); (fail_if_success (with_reducible show wpAny _ _ (pyIter _) _ _ _)); (first | (k_unfold; (try dsimp only)) | walk1 | (dsimp only; walk1))))
  refine wpAny_For ?_
  (repeat' ((fail_if_success (with_reducible show wpAny _ _ (exec (Stmt.For _ _ _ _ _) _) _ _ _)); (fail_if_success (with_reducible show wpAny _ _ (eval (Expr.ListComp _ _ _ _) _) _ _ _)); (fail_if_success (with_reducible show wpAny _ _ (eval (Expr.DictComp _ _ _ _ _) _) _ _ _)); (fail_if_success (with_reducible show wpAny _ _ (pyIter _) _ _ _)); (first | (k_unfold; (try dsimp only)) | walk1 | (dsimp only; walk1))))
  rename Fr _ L' _ _ => F3
  rename News _ L' _ _ => N3
  refine loop_list0 (L := L') rfl [Str.ofString "k", Str.ofString "v"] (fun _ _ => True) hA (RefsAt.isList (HLg.on F3.keep)) (.inl (HLg.elim fun _ e => ⟨_, e⟩)) F3 N3 (fun _ _ _ _ _ _ _ _ _ => trivial) (fun _ _ => trivial) ?turn ?done PassesOwn.never
  case turn =>
    intro I i v u hh' tk io hv _ hio F4 N4
    clear F3 N3
    rw [List.getElem?_map] at hv
    obtain ⟨a, ha, rfl⟩ := Option.map_eq_some_iff.mp hv
    obtain ⟨p, hp, t1, t2, np, hpa⟩ := HPg.get i ha
    have hpa' : IsTup hh' a #[Value.str p.fst t1, Value.str p.snd t2] := ⟨_, F4.keep _ _ hpa, rfl, _, rfl⟩
    obtain ⟨hp1, hp2⟩ := hps p (List.mem_of_getElem? hp)
    (repeat' ((fail_if_success (with_reducible show wpAny _ _ (exec (Stmt.For _ _ _ _ _) _) _ _ _)); (fail_if_success (with_reducible show wpAny _ _ (eval (Expr.ListComp _ _ _ _) _) _ _ _)); (fail_if_success (with_reducible show wpAny _ _ (eval (Expr.DictComp _ _ _ _ _) _) _ _ _)); (fail_if_success (with_reducible show wpAny _ _ (pyIter _) _ _ _)); (first | (k_unfold; (try dsimp only)) | walk1 | (dsimp only; walk1))))
    refine ⟨_, _, _, rfl, by k_asm, by k_asm, ?_, trivial⟩
    ((intro y hy; (simp only [List.contains_cons, List.contains_nil, Bool.or_false, Bool.or_eq_false_iff, beq_eq_false_iff_ne, ne_eq] at hy); simp [hy, offMap]))
  case done =>
    intro u hh' tk _ F4 N4
    clear F3 N3
    (repeat' ((fail_if_success (with_reducible show wpAny _ _ (exec (Stmt.For _ _ _ _ _) _) _ _ _)); (fail_if_success (with_reducible show wpAny _ _ (eval (Expr.ListComp _ _ _ _) _) _ _ _)); (fail_if_success (with_reducible show wpAny _ _ (eval (Expr.DictComp _ _ _ _ _) _) _ _ _)); (fail_if_success (with_reducible show wpAny _ _ (pyIter _) _ _ _)); (first | (k_unfold; (try dsimp only)) | walk1 | (dsimp only; walk1))))
    have st5 : hh.StaysIn hh' := fun b o e => F4.keep _ _ (stg b o (by
      intro q
      simp only [List.map_cons, List.map_nil, List.mem_cons, List.not_mem_nil, or_false] at q
      rcases q with rfl | rfl
      · rw [hnx] at e; cases e
      · rw [hnd] at e; cases e) (st1 _ _ e))
    have N5 := News.cons (News.cons (News.on N st5) (N4 _ (.tail _ (.head _))).1 (N1 _ (.tail _ (.head _))).2.1 (N1 _ (.tail _ (.head _))).2.2) (N4 _ (.head _)).1 (N1 _ (.head _)).2.1 (N1 _ (.head _)).2.2
    exact ⟨rfl, h x dx _ _ _ _ _ (Fr.on F st5) N5 st5 hnx hnd⟩
end
section
set_option maxRecDepth 100000
def NotTup (h : Heap) (b : Addr) : Prop := ∀ o, h.get? b = some o → ¬ (o.cls = .type "tuple" ∧ ∃ vs n, o.data = .seq vs n)
abbrev lst (ys : List Value) : Obj := { cls := .type "list", data := .seq ys.toArray ys.length }
theorem lst_snoc (ys : List Value) (y : Value) : ({ cls := .type "list", data := .seq (ys.toArray.push y) (ys.length + 1) } : Obj) = lst (ys ++ [y]) := by
  show ({ cls := .type "list", data := .seq (ys.toArray.push y) (ys.length + 1) } : Obj) = { cls := .type "list", data := .seq (ys ++ [y]).toArray (ys ++ [y]).length }
  rw [List.length_append, List.length_singleton, List.push_toArray]
theorem notTup_of {h : Heap} {b : Addr} {o : Obj} (e : h.get? b = some o) (hc : o.cls ≠ .type "tuple" ∨ ∀ vs n, o.data ≠ .seq vs n) : NotTup h b := fun o' e' ⟨c, vs, n, d⟩ => by
  rw [e] at e'; cases e'
  rcases hc with q | q
  · exact q c
  · exact q vs n d
theorem NotTup.ne {h : Heap} {b a : Addr} {vs : List Value} {n : Nat} (x : NotTup h b) (e : h.get? a = some (tupObj vs n)) : a ≠ b := fun q => x _ (q ▸ e) ⟨rfl, _, _, rfl⟩

section
variable {prog : Program} {w : World} {A : Around} {s : Shared} {R : Result → Shared → Prop}

theorem compLoop_any {elt target iter : Expr} {ifs : List Expr} {scope : Scope} {pos : Pos} {it acc : Value} {env : Env} (I : Nat → Shared → Prop)
    (turn : ∀ n s, I n s → wpAny (model prog w) A (pyNext it) (fun r s₁ => match r with
      | none => R (.ok .next) s₁
      | some v => wpAny (model prog w) A (letOwnedTupleGo target it v) (fun _ s₁' => wpAny (model prog w) A (assign target env v) (fun _ s₂ =>
          wpAny (model prog w) A (forIn ifs true fun c r => if r = true then do let ok ← isTrue c env (eval c env); pure (ForInStep.yield ok) else pure (ForInStep.yield r)) (fun ok s₃ =>
            if ok = true then wpAny (model prog w) A (eval elt env) (fun x s₄ =>
              wpAny (model prog w) A (call (.builtin "list.append") [acc, x]) (fun _ s₅ => ∃ m, m < n ∧ I m s₅) (fun _ _ => False) s₄) (fun _ _ => False) s₃
            else ∃ m, m < n ∧ I m s₃) (fun _ _ => False) s₂) (fun _ _ => False) s₁') (fun _ _ => False) s₁) (fun _ _ => False) s)
    (n : Nat) (h : I n s) :
    codeAny (model prog w) A (.compLoop (.ListComp elt [⟨target, iter, ifs, 0⟩] scope pos) 0 it acc env) R s := by
  refine codeAny_loop rfl I (fun n s hI => ?_) n h
  show wpAny _ A ((compTurn (.ListComp elt [⟨target, iter, ifs, 0⟩] scope pos) 0 it acc env).onRaise (fun x => do noteFrame x env; theTreesLotGoes x)) _ _ s
  refine wpAny_noted ?_
  rw [compTurn_list]
  refine wpAny_bind (wpAny_standAt (wpAny_bind (wpAny_mono (turn n s hI) (fun r s₁ h₁ => ?_) fun _ _ h' => h'.elim)))
  cases r with
  | none => exact wpAny_pure h₁
  | some v =>
    refine wpAny_bind (wpAny_mono h₁ (fun _ s₁' h₁' => ?_) fun _ _ h' => h'.elim)
    refine wpAny_bind (wpAny_mono h₁' (fun _ s₂ h₂ => wpAny_bind (wpAny_mono h₂ (fun ok s₃ h₃ => ?_) fun _ _ h' => h'.elim)) fun _ _ h' => h'.elim)
    cases ok with
    | false => exact wpAny_pure ⟨rfl, h₃⟩
    | true =>
      refine wpAny_bind (wpAny_bind (wpAny_mono h₃ (fun x s₄ h₄ => ?_) fun _ _ h' => h'.elim))
      exact wpAny_bind (wpAny_mono h₄ (fun _ s₅ h₅ => wpAny_pure (wpAny_pure ⟨rfl, h₅⟩)) fun _ _ h' => h'.elim)
end
end
section
set_option maxRecDepth 100000
/-- an iterator at I over n items; wr: what its steps write; hb: what stands below -/
structure It (prog : Program) (w : World) (A : Around) (target : Expr) (I : Addr) (hb : Heap) (n : Nat) (P : Nat → Value → Heap → Prop) (St : Nat → Heap → Prop) (wr : List Addr) : Prop where
  mem : I ∈ wr
  frame : ∀ i h h', St i h → hb.StaysIn h' → (∀ b ∈ wr, ∀ o, h.get? b = some o → h'.get? b = some o) → St i h'
  here : ∀ i h, St i h → ∀ b ∈ wr, ∃ o, h.get? b = some o ∧ o.cls ≠ .type "tuple" ∧ o.cls ≠ .type "list" ∧ ∀ es n, o.data ≠ .dict es n
  item : ∀ i (s : Shared) (Q : Value → Shared → Prop), i < n → St i s.heap → (∀ v h' tk, P i v h' → St (i + 1) h' → StaysBut wr s.heap h' → Q v { s with heap := h', toks := tk }) →
    wpAny (model prog w) A (pyNext (.ref I)) (fun r s₁ => ∃ v, r = some v ∧ wpAny (model prog w) A (letOwnedTupleGo target (.ref I) v) (fun _ s₂ => Q v s₂) (fun _ _ => False) s₁) (fun _ _ => False) s
  done : ∀ (s : Shared) (Q : Option Value → Shared → Prop), St n s.heap → (∀ h' tk, StaysBut wr s.heap h' → Q none { s with heap := h', toks := tk }) → wpAny (model prog w) A (pyNext (.ref I)) Q (fun _ _ => False) s
  self : ∀ i (s : Shared) (Q : Value → Shared → Prop), St i s.heap → Q (.ref I) s → wpAny (model prog w) A (pyIter (.ref I)) Q (fun _ _ => False) s

theorem It.list {prog : Program} {w : World} {A : Around} {target : Expr} (hh : A.handled = none) {I l : Addr} {hb : Heap} {items : List Value} (hl : hb.IsList l items.toArray) (hI : hb.get? I = none) :
    It prog w A target I hb items.length (fun i v _ => items[i]? = some v) (fun i h => h.IsListIter I l i ∧ h.IsList l items.toArray) [I] where
  mem := by simp
  frame := fun i h h' st hk hw => ⟨st.1.at fun o e => hw I (by simp) o e, hl.at fun o e => hk _ _ e⟩
  here := fun i h st b hb' => by
    rcases List.mem_singleton.mp hb' with rfl
    obtain ⟨o, e, c, d⟩ := st.1
    exact ⟨o, e, (by rw [c]; simp), (by rw [c]; simp), fun es n => by rw [d]; simp⟩
  item := fun i s Q hi st hQ => by
    have hne : l ≠ I := by
      obtain ⟨o, e, _⟩ := hl
      rintro rfl; rw [hI] at e; cases e
    refine wpAny_pyNext_list_item st.1 st.2 (x := items[i]) (by simp [hi]) fun h' hit' hs' => ?_
    refine ⟨_, rfl, letGo_listiter hit' (hQ _ h' s.toks (by simp [hi]) ⟨hit', st.2.extBut hs'.extBut hne⟩ fun b o hb' e => hs'.extBut b o (by simpa using hb') e)⟩
  done := fun s Q st hQ => wpAny_pyNext_list_end hh st.1 st.2 (by simp) fun h' he' => hQ h' s.toks fun b o hb' e => he' b o (by simpa using hb') e
  self := fun _ _ _ st hQ => wpAny_pyIter_listiter st.1 hQ

section
variable {prog : Program} {w : World} {A : Around} {E : Value → Shared → Prop} {s : Shared} {env : Env} {h₀ : Heap} {target : Expr} {body : List Stmt} {Q : Flow → Shared → Prop}

/-- how a turn of a for ends: the iterator's places stand in the ledger -/
def FEnd (h₀ : Heap) (L : Addr) (s : Shared) (ino : List (Addr × Obj)) (J : (Str → Option Value) → Heap → Prop) (Q : Flow → Shared → Prop) (f : Flow) (s₃ : Shared) : Prop :=
  match f with
  | .ret v => Q (.ret v) s₃
  | .brk => Q .next s₃
  | _ => ∃ h' tk' m', s₃ = { s with heap := h', toks := tk' } ∧ Fr h₀ L h' m' ∧ News h₀ L h' ino ∧ J m' h'

theorem mem_zip {h : Heap} : ∀ (wr : List Addr), (∀ b ∈ wr, ∃ o, h.get? b = some o) → ∃ ino : List (Addr × Obj), ino.map (·.1) = wr ∧ ∀ p ∈ ino, h.get? p.1 = some p.2
  | [], _ => ⟨[], rfl, fun p hp => nomatch hp⟩
  | b :: r, x => by
    obtain ⟨o, e⟩ := x b (by simp)
    obtain ⟨ino, h1, h2⟩ := mem_zip r fun b hb => x b (by simp [hb])
    exact ⟨(b, o) :: ino, by simp [h1], fun p hp => by
      rcases List.mem_cons.mp hp with rfl | hp
      · exact e
      · exact h2 p hp⟩

/-- a for over an iterator. hb: the heap below the iterator: it holds all that the iterator reads -/
theorem loop_it {I : Addr} {hb : Heap} {n : Nat} {P : Nat → Value → Heap → Prop} {St : Nat → Heap → Prop} {wr : List Addr} (W : It prog w A target I hb n P St wr)
    {m₀ : Str → Option Value} {L : Addr} (hL : env.locals = L) (J : Nat → (Str → Option Value) → Heap → Prop)
    (hst : St 0 s.heap) (F : Fr h₀ L s.heap m₀) (hwL : ∀ b ∈ wr, b ≠ L ∧ h₀.get? b = none)
    (hJb : ∀ i m h, J i m h → h₀.StaysIn h → hb.StaysIn h)
    (hJf : ∀ i m h h', J i m h → (∀ b ∈ wr, NotTup h b ∧ ∃ o, h.get? b = some o ∧ o.cls ≠ .type "list" ∧ ∀ es n, o.data ≠ .dict es n) → StaysBut wr h h' → J i m h')
    (hj : J 0 m₀ s.heap)
    (turn : ∀ i v m₁ h tk ino, i < n → P i v h → J i m₁ h → ino.map (·.1) = wr → Fr h₀ L h m₁ → News h₀ L h ino →
      wpAny (model prog w) A (assign target env v) (fun _ s₂ => wpAny (model prog w) A (execs body env) (FEnd h₀ L s ino (J (i + 1)) Q) (fun _ _ => False) s₂) (fun _ _ => False) { s with heap := h, toks := tk })
    (fin : ∀ m₁ h tk, J n m₁ h → Fr h₀ L h m₁ → Q .next { s with heap := h, toks := tk })
    (hE : PassesOwn (model prog w) A env E) :
    codeAny (model prog w) A (.forLoop target (.ref I) body [] env) (fun r s' => match r with | .ok f => Q f s' | .error e => cameBackBy (model prog w) A env E e s') s := by
  subst hL
  have nt : ∀ i h, St i h → ∀ b ∈ wr, NotTup h b ∧ ∃ o, h.get? b = some o ∧ o.cls ≠ .type "list" ∧ ∀ es n, o.data ≠ .dict es n := fun i h st b hb' => by
    obtain ⟨o, e, c1, c2, c3⟩ := W.here i h st b hb'
    exact ⟨notTup_of e (.inl c1), o, e, c2, c3⟩
  refine codeAny_forLoop_any (fun k s' => ∃ h' tk m' i, s' = { s with heap := h', toks := tk } ∧ St i h' ∧ Fr h₀ env.locals h' m' ∧ J i m' h' ∧ i ≤ n ∧ k = n + 1 - i) ?_ (n + 1) ⟨s.heap, s.toks, m₀, 0, rfl, hst, F, hj, Nat.zero_le _, rfl⟩
  rintro k s' ⟨h', tk, m', i, rfl, hst', F', hJ, hi, rfl⟩
  by_cases q : i < n
  · refine wpAny_mono (W.item i { s with heap := h', toks := tk } (fun v s₂ => wpAny (model prog w) A (assign target env v) (fun _ s₂ => wpAny (model prog w) A (execs body env) (fun f s₃ => match f with
            | .next | .cont => ∃ m, m < n + 1 - i ∧ ∃ h' tk m' i, s₃ = { s with heap := h', toks := tk } ∧ St i h' ∧ Fr h₀ env.locals h' m' ∧ J i m' h' ∧ i ≤ n ∧ m = n + 1 - i
            | .brk => Q .next s₃
            | .ret v => Q (.ret v) s₃) (fun _ _ => False) s₂) (fun _ _ => False) s₂) q hst' fun v h₁ tk₁ hP hst₁ sb => ?_) (fun r s₁ hr => ?_) (fun _ _ x => x.elim)
    · obtain ⟨ino, hi1, hi2⟩ := mem_zip wr fun b hb' => let ⟨o, e, _⟩ := W.here _ _ hst₁ b hb'; ⟨o, e⟩
      have F₁ : Fr h₀ env.locals h₁ m' := Fr.onBut F' hwL sb
      have N₁ : News h₀ env.locals h₁ ino := fun p hp => by
        have := hwL p.1 (hi1 ▸ List.mem_map_of_mem hp)
        exact ⟨hi2 p hp, this.1, this.2⟩
      refine wpAny_mono (turn i v m' h₁ tk₁ ino q hP (hJf _ _ _ _ hJ (nt _ _ hst') sb) hi1 F₁ N₁) (fun _ s₂ h₂ => wpAny_mono h₂ (fun f s₃ h₃ => ?_) fun _ _ x => x.elim) fun _ _ x => x.elim
      have go : (∃ h' tk' m', s₃ = { s with heap := h', toks := tk' } ∧ Fr h₀ env.locals h' m' ∧ News h₀ env.locals h' ino ∧ J (i + 1) m' h') →
          ∃ m, m < n + 1 - i ∧ ∃ h' tk m' i, s₃ = { s with heap := h', toks := tk } ∧ St i h' ∧ Fr h₀ env.locals h' m' ∧ J i m' h' ∧ i ≤ n ∧ m = n + 1 - i := by
        rintro ⟨hz, tk₃, m₃, rfl, F₃, N₃, J₃⟩
        refine ⟨n + 1 - (i + 1), by omega, hz, tk₃, m₃, i + 1, rfl, ?_, F₃, J₃, q, rfl⟩
        refine W.frame _ _ _ hst₁ (hJb _ _ _ J₃ F₃.keep) fun b hb' o e => ?_
        obtain ⟨p, hp, rfl⟩ := List.mem_map.mp (hi1 ▸ hb' : b ∈ ino.map (·.1))
        rw [hi2 p hp] at e; cases e
        exact (N₃ p hp).1
      cases f with
      | ret v => exact h₃
      | brk => exact h₃
      | next => exact go h₃
      | cont => exact go h₃
    · obtain ⟨v, rfl, hr⟩ := hr
      refine wpAny_mono hr (fun _ s₂ h₂ => wpAny_mono h₂ (fun _ s₃ h₃ => wpAny_mono h₃ (fun f s₄ h₄ => ?_) fun _ _ x => x.elim) fun _ _ x => x.elim) fun _ _ x => x.elim
      cases f <;> exact h₄
  · have hin : i = n := by omega
    subst hin
    refine wpAny_mono (W.done { s with heap := h', toks := tk } (fun r s₁ => r = none ∧ ∃ h₁ tk₁, s₁ = { s with heap := h₁, toks := tk₁ } ∧ StaysBut wr h' h₁) hst' fun h₁ tk₁ sb => ⟨rfl, h₁, tk₁, rfl, sb⟩) (fun r s₁ hr => ?_) (fun _ _ x => x.elim)
    obtain ⟨rfl, h₁, tk₁, rfl, sb⟩ := hr
    exact wpAny_execs_nil (fin m' h₁ tk₁ (hJf _ _ _ _ hJ (nt _ _ hst') sb) (Fr.onBut F' hwL sb))
end
end
section
set_option maxRecDepth 100000
section
variable {prog : Program} {w : World} {A : Around} {E : Value → Shared → Prop} {env : Env}

def CEnd (hb : Heap) (C D : Addr) (s : Shared) (ys : List Value) (ino : List (Addr × Obj)) (J : List Value → Heap → Prop) (ys' : List Value) (s' : Shared) : Prop :=
  ∃ h' tk' m', s' = { s with heap := h', toks := tk' } ∧ Fr hb C h' m' ∧ News hb C h' ((D, lst ys) :: ino) ∧ J ys' h'

theorem comp_block {elt iter target : Expr} {ifs : List Expr} {scope : Scope} {cl : List (Str × Addr)} {pos : Pos} {s₂ : Shared} {I : Addr} {hb : Heap} {n : Nat} {P : Nat → Value → Heap → Prop}
    {St : Nat → Heap → Prop} {wr : List Addr} (W : It prog w A target I hb n P St wr) (hsz : n ≤ sizeLine) {RR : Value → Addr → Result → Shared → Prop}
    (hcell : ∀ y ∈ scope.names, y.2 ≠ .cell) (hkind : scope.kind = .function) (hst : St 0 s₂.heap) (hbs : hb.StaysIn s₂.heap) (hwb : ∀ b ∈ wr, hb.get? b = none) (hbsz : hb.objs.size ≤ s₂.heap.objs.size)
    (J : Nat → List Value → Heap → Prop)
    (hJf : ∀ wr' i ys h h', J i ys h → (∀ b ∈ wr', NotTup h b ∧ hb.get? b = none) → StaysBut wr' h h' → J i ys h')
    (hJl : ∀ i ys h, J i ys h → ys.length ≤ i)
    (hj : ∀ h, s₂.heap.StaysIn h → J 0 [] h)
    (turn : ∀ C D i v m₂ ys h tk ino, i < n → P i v h → J i ys h → ino.map (·.1) = wr → D ∉ wr → Fr hb C h m₂ → News hb C h ((D, lst ys) :: ino) →
      wpAny (model prog w) A (assign target (compEnvC scope cl C env) v) (fun _ s₃ => wpAny (model prog w) A (forIn ifs true fun c r => if r = true then do let ok ← isTrue c (compEnvC scope cl C env) (eval c (compEnvC scope cl C env)); pure (ForInStep.yield ok) else pure (ForInStep.yield r))
        (fun ok s₄ => if ok = true then wpAny (model prog w) A (eval elt (compEnvC scope cl C env)) (fun y s₅ => CEnd hb C D s₂ ys ino (J (i + 1)) (ys ++ [y]) s₅) (fun _ _ => False) s₄ else CEnd hb C D s₂ ys ino (J (i + 1)) ys s₄) (fun _ _ => False) s₃) (fun _ _ => False) { s₂ with heap := h, toks := tk })
    (hRR : ∀ D C h tk m' ys, J n ys h → Fr hb C h m' → h.get? D = some (lst ys) → hb.get? D = none → hb.get? C = none → D ≠ C → s₂.heap.get? D = none → s₂.heap.get? C = none → RR (.ref D) C (.ok .next) { s₂ with heap := h, toks := tk }) :
    wpAny (model prog w) A (newList []) (fun acc s₃ => wpAny (model prog w) A (newFunctionEnv scope env.globals cl [] env.qual none .none (some env)) (fun cenv s₄ =>
      codeAny (model prog w) A (.compStart (.ListComp elt [⟨target, iter, ifs, 0⟩] scope pos) 0 (.ref I) acc { cenv with scope := relabel scope env }) (RR acc cenv.locals) s₄) E s₃) E s₂ := by
  refine wpAny_newObj_type (wpAny_newFunctionEnv hcell (by intro y hy; simp at hy) (fun h₁ hns₁ hsb₁ => ?_) hkind)
  dsimp only at hns₁ hsb₁ ⊢
  generalize hH2 : s₂.heap.push { cls := .type "list", dict := none, data := .seq ([] : List Value).toArray } = H2 at hns₁ hsb₁ ⊢
  have hC : H2.objs.size = s₂.heap.objs.size + 1 := by rw [← hH2, Heap.size_push]
  have hDC : s₂.heap.objs.size ≠ H2.objs.size := by rw [hC]; exact Nat.ne_of_lt (Nat.lt_succ_self _)
  have below : ∀ b, b < s₂.heap.objs.size → b ≠ H2.objs.size ∧ b ≠ s₂.heap.objs.size := fun b hb => ⟨by rw [hC]; exact Nat.ne_of_lt (Nat.lt_succ_of_lt hb), Nat.ne_of_lt hb⟩
  have old : ∀ b o, s₂.heap.get? b = some o → h₁.get? b = some o := fun b o e => hsb₁.extBut b o (below b (Heap.lt_size e)).1 (Heap.get?_push_of_some _ (hH2 ▸ Heap.get?_push_of_some _ e))
  have hacc : h₁.get? s₂.heap.objs.size = some (lst []) := hsb₁.extBut _ _ hDC (Heap.get?_push_of_some _ (hH2 ▸ Heap.get?_push_size _ rfl))
  have wlt : ∀ b ∈ wr, b < s₂.heap.objs.size := fun b hb' => let ⟨o, e, _⟩ := W.here _ _ hst b hb'; Heap.lt_size e
  have hst₁ : St 0 h₁ := W.frame _ _ _ hst (fun b o e => old b o (hbs b o e)) fun b _ o e => old b o e
  have fresh : ∀ a, s₂.heap.objs.size ≤ a → s₂.heap.get? a = none := fun a ha => Heap.get?_none_of_le ha
  have fresh₀ : ∀ a, s₂.heap.objs.size ≤ a → hb.get? a = none := fun a ha => Heap.get?_none_of_le (Nat.le_trans hbsz ha)
  have hD₀ : hb.get? s₂.heap.objs.size = none := fresh₀ _ (Nat.le_refl _)
  have hCle : s₂.heap.objs.size ≤ H2.objs.size := by rw [hC]; exact Nat.le_succ _
  have hC₀ : hb.get? H2.objs.size = none := fresh₀ _ hCle
  have hDw : s₂.heap.objs.size ∉ wr := fun q => Nat.lt_irrefl _ (wlt _ q)
  have hCw : H2.objs.size ∉ wr := fun q => by have := wlt _ q; exact absurd hCle (Nat.not_le.mpr this)
  have hwL : ∀ b ∈ wr, b ≠ H2.objs.size ∧ hb.get? b = none := fun b q => ⟨fun e => hCw (e ▸ q), hwb b q⟩
  have F₀ : Fr hb H2.objs.size h₁ (fun x => ([] : List (Str × Value)).reverse.lookup x) := ⟨hns₁, fun b o e => old b o (hbs b o e), Nat.le_trans hbsz hCle⟩
  have nt : ∀ i h, St i h → ∀ b ∈ wr, NotTup h b ∧ hb.get? b = none := fun i h st b hb' => by
    obtain ⟨o, e, c1, _⟩ := W.here i h st b hb'
    exact ⟨notTup_of e (.inl c1), hwb b hb'⟩
  have loop : ∀ s₃ : Shared, s₃ = { s₂ with heap := h₁, toks := s₂.toks + ([] : List (Str × Value)).length } →
      codeAny (model prog w) A (.compLoop (.ListComp elt [⟨target, iter, ifs, 0⟩] scope pos) 0 (.ref I) (.ref s₂.heap.objs.size) (compEnvC scope cl H2.objs.size env))
        (RR (.ref s₂.heap.objs.size) H2.objs.size) s₃ := by
    rintro s₃ rfl
    refine compLoop_any (fun k s' => ∃ h' tk m' i ys, s' = { s₂ with heap := h', toks := tk } ∧ St i h' ∧ Fr hb H2.objs.size h' m' ∧ h'.get? s₂.heap.objs.size = some (lst ys) ∧ J i ys h' ∧ i ≤ n ∧ k = n + 1 - i) ?_ (n + 1)
      ⟨h₁, _, _, 0, [], rfl, hst₁, F₀, hacc, hj _ old, Nat.zero_le _, rfl⟩
    rintro k s' ⟨h', tk, m', i, ys, rfl, hst', F', hD', hJ, hi, rfl⟩
    by_cases q : i < n
    · refine wpAny_mono (W.item i { s₂ with heap := h', toks := tk } (fun v s₁' => wpAny (model prog w) A (assign target (compEnvC scope cl H2.objs.size env) v) (fun _ s₂' =>
          wpAny (model prog w) A (forIn ifs true fun c r => if r = true then do let ok ← isTrue c (compEnvC scope cl H2.objs.size env) (eval c (compEnvC scope cl H2.objs.size env)); pure (ForInStep.yield ok) else pure (ForInStep.yield r)) (fun ok s₃ =>
            if ok = true then wpAny (model prog w) A (eval elt (compEnvC scope cl H2.objs.size env)) (fun x s₄ =>
              wpAny (model prog w) A (call (.builtin "list.append") [.ref s₂.heap.objs.size, x]) (fun _ s₅ => ∃ m, m < n + 1 - i ∧ ∃ h' tk m' i ys, s₅ = { s₂ with heap := h', toks := tk } ∧ St i h' ∧ Fr hb H2.objs.size h' m' ∧ h'.get? s₂.heap.objs.size = some (lst ys) ∧ J i ys h' ∧ i ≤ n ∧ m = n + 1 - i) (fun _ _ => False) s₄) (fun _ _ => False) s₃
            else ∃ m, m < n + 1 - i ∧ ∃ h' tk m' i ys, s₃ = { s₂ with heap := h', toks := tk } ∧ St i h' ∧ Fr hb H2.objs.size h' m' ∧ h'.get? s₂.heap.objs.size = some (lst ys) ∧ J i ys h' ∧ i ≤ n ∧ m = n + 1 - i) (fun _ _ => False) s₂') (fun _ _ => False) s₁') q hst' fun v h₂ tk₂ hP hst₂ sb => ?_) (fun r s₁ hr => ?_) (fun _ _ x => x.elim)
      · obtain ⟨ino, hi1, hi2⟩ := mem_zip wr fun b hb' => let ⟨o, e, _⟩ := W.here _ _ hst₂ b hb'; ⟨o, e⟩
        have F₂ : Fr hb H2.objs.size h₂ m' := Fr.onBut F' hwL sb
        have N₂ : News hb H2.objs.size h₂ ((s₂.heap.objs.size, lst ys) :: ino) := fun p hp => by
          rcases List.mem_cons.mp hp with rfl | hp
          · exact ⟨sb _ _ hDw hD', hDC, hD₀⟩
          · have := hwL p.1 (hi1 ▸ List.mem_map_of_mem hp)
            exact ⟨hi2 p hp, this.1, this.2⟩
        have J₂ : J i ys h₂ := hJf wr _ _ _ _ hJ (nt _ _ hst') sb
        have st' : ∀ h₃ : Heap, hb.StaysIn h₃ → (∀ p ∈ ino, h₃.get? p.1 = some p.2) → St (i + 1) h₃ := fun h₃ k1 k2 => W.frame _ _ _ hst₂ k1 fun b hb' o e => by
          obtain ⟨p, hp, rfl⟩ := List.mem_map.mp (hi1 ▸ hb' : b ∈ ino.map (·.1))
          rw [hi2 p hp] at e; cases e
          exact k2 p hp
        refine wpAny_mono (turn H2.objs.size s₂.heap.objs.size i v m' ys h₂ tk₂ ino q hP J₂ hi1 hDw F₂ N₂) (fun _ s₃ h₃ => wpAny_mono h₃ (fun ok s₄ h₄ => ?_) fun _ _ x => x.elim) fun _ _ x => x.elim
        cases ok with
        | false =>
          simp only [Bool.false_eq_true, if_false] at h₄ ⊢
          obtain ⟨hz, tkz, mz, rfl, Fz, Nz, Jz⟩ := h₄
          exact ⟨n + 1 - (i + 1), by omega, hz, tkz, mz, i + 1, ys, rfl, st' hz Fz.keep (fun p hp => (Nz p (.tail _ hp)).1), Fz, (Nz _ (.head _)).1, Jz, q, rfl⟩
        | true =>
          simp only [if_true] at h₄ ⊢
          refine wpAny_mono h₄ (fun y s₅ h₅ => ?_) fun _ _ x => x.elim
          obtain ⟨hz, tkz, mz, rfl, Fz, Nz, Jz⟩ := h₅
          have hlen : ys.length ≤ sizeLine := by
            have := hJl _ _ _ Jz
            rw [List.length_append, List.length_singleton] at this
            omega
          refine append_at (hsz := by show ys.toArray.size ≤ sizeLine; rw [List.size_toArray]; exact hlen) (Nz _ (.head _)).1 fun h₆ hs₆ hD₆ => ?_
          have sb₆ : StaysBut [s₂.heap.objs.size] hz h₆ := fun b o nb e => hs₆.extBut b o (by simpa using nb) e
          have F₆ : Fr hb H2.objs.size h₆ mz := Fr.onBut Fz (fun b hb' => by rcases List.mem_singleton.mp hb' with rfl; exact ⟨hDC, hD₀⟩) sb₆
          refine ⟨n + 1 - (i + 1), by omega, h₆, tkz, mz, i + 1, ys ++ [y], rfl, st' h₆ F₆.keep (fun p hp => sb₆ _ _ ?_ (Nz p (.tail _ hp)).1), F₆, hD₆.trans (congrArg some (lst_snoc ys y)), ?_, q, rfl⟩
          · intro hm
            have := List.mem_singleton.mp hm
            exact hDw (this ▸ hi1 ▸ List.mem_map_of_mem hp)
          · refine hJf [s₂.heap.objs.size] _ _ _ _ Jz (fun b hb' => ?_) sb₆
            rcases List.mem_singleton.mp hb' with rfl
            exact ⟨notTup_of (Nz _ (.head _)).1 (.inl (by simp)), hD₀⟩
      · obtain ⟨v, rfl, hr⟩ := hr
        exact hr
    · have hin : i = n := by omega
      subst hin
      refine wpAny_mono (W.done { s₂ with heap := h', toks := tk } (fun r s₁ => r = none ∧ ∃ h₁ tk₁, s₁ = { s₂ with heap := h₁, toks := tk₁ } ∧ StaysBut wr h' h₁) hst' fun h₁ tk₁ sb => ⟨rfl, h₁, tk₁, rfl, sb⟩) (fun r s₁ hr => ?_) (fun _ _ x => x.elim)
      obtain ⟨rfl, h₂, tk₂, rfl, sb⟩ := hr
      exact hRR _ _ h₂ tk₂ m' ys (hJf wr _ _ _ _ hJ (nt _ _ hst') sb) (Fr.onBut F' hwL sb) (sb _ _ hDw hD') hD₀ hC₀ hDC (fresh _ (Nat.le_refl _)) (fresh _ hCle)
  exact codeAny_compStart_list (loop _ rfl) (wpAny_mono (W.self 0 _ _ hst₁ (loop _ rfl)) (fun _ _ x => x) fun _ _ x => x.elim)

/-- what a comprehension asks of its iterator and its turns -/
def CompAt (prog : Program) (w : World) (A : Around) (env : Env) (target elt : Expr) (ifs : List Expr) (scope : Scope) (cl : List (Str × Addr)) (fin : Nat → (Nat → List Value → Heap → Prop) → Heap → Shared → Prop) (it : Value) (s₂ : Shared) : Prop :=
  ∃ I hb n P St wr, it = .ref I ∧ It prog w A target I hb n P St wr ∧ n ≤ sizeLine ∧ St 0 s₂.heap ∧ hb.StaysIn s₂.heap ∧ (∀ b ∈ wr, hb.get? b = none) ∧ hb.objs.size ≤ s₂.heap.objs.size ∧
      ∃ J : Nat → List Value → Heap → Prop, (∀ wr' i ys h h', J i ys h → (∀ b ∈ wr', NotTup h b ∧ hb.get? b = none) → StaysBut wr' h h' → J i ys h') ∧ (∀ i ys h, J i ys h → ys.length ≤ i) ∧ (∀ h, s₂.heap.StaysIn h → J 0 [] h) ∧
      (∀ C D i v m₂ ys h tk ino, i < n → P i v h → J i ys h → ino.map (·.1) = wr → D ∉ wr → Fr hb C h m₂ → News hb C h ((D, lst ys) :: ino) →
        wpAny (model prog w) A (assign target (compEnvC scope cl C env) v) (fun _ s₃ => wpAny (model prog w) A (forIn ifs true fun c r => if r = true then do let ok ← isTrue c (compEnvC scope cl C env) (eval c (compEnvC scope cl C env)); pure (ForInStep.yield ok) else pure (ForInStep.yield r))
          (fun ok s₄ => if ok = true then wpAny (model prog w) A (eval elt (compEnvC scope cl C env)) (fun y s₅ => CEnd hb C D s₂ ys ino (J (i + 1)) (ys ++ [y]) s₅) (fun _ _ => False) s₄ else CEnd hb C D s₂ ys ino (J (i + 1)) ys s₄) (fun _ _ => False) s₃) (fun _ _ => False) { s₂ with heap := h, toks := tk }) ∧
      fin n J hb s₂

/-- a comprehension over a list, below the iterator all stands -/
theorem comp_list {s : Shared} {elt target : Expr} {ifs : List Expr} {scope : Scope} {cl : List (Str × Addr)} {fin : Nat → (Nat → List Value → Heap → Prop) → Heap → Shared → Prop} {l : Addr} {items : List Value}
    (hh : A.handled = none) (hl : s.heap.IsList l items.toArray) (hsz : items.length ≤ sizeLine) (J : Nat → List Value → Heap → Prop)
    (hJf : ∀ wr' i ys h h', J i ys h → (∀ b ∈ wr', NotTup h b ∧ s.heap.get? b = none) → StaysBut wr' h h' → J i ys h') (hJl : ∀ i ys h, J i ys h → ys.length ≤ i) (hj : ∀ h, s.heap.StaysIn h → J 0 [] h)
    (turn : ∀ C D I io i v m₂ ys h tk, items[i]? = some v → J i ys h → D ≠ I → Fr s.heap C h m₂ → News s.heap C h [(D, lst ys), (I, io)] →
        wpAny (model prog w) A (assign target (compEnvC scope cl C env) v) (fun _ s₃ => wpAny (model prog w) A (forIn ifs true fun c r => if r = true then do let ok ← isTrue c (compEnvC scope cl C env) (eval c (compEnvC scope cl C env)); pure (ForInStep.yield ok) else pure (ForInStep.yield r))
          (fun ok s₄ => if ok = true then wpAny (model prog w) A (eval elt (compEnvC scope cl C env)) (fun y s₅ => CEnd s.heap C D s ys [(I, io)] (J (i + 1)) (ys ++ [y]) s₅) (fun _ _ => False) s₄ else CEnd s.heap C D s ys [(I, io)] (J (i + 1)) ys s₄) (fun _ _ => False) s₃) (fun _ _ => False) { s with heap := h, toks := tk })
    (hfin : ∀ h₂, fin items.length J s.heap { s with heap := h₂ }) :
    wpAny (model prog w) A (pyIter (.ref l)) (CompAt prog w A env target elt ifs scope cl fin) E s := by
  refine wpAny_pyIter_list hl ?_
  have hI : s.heap.get? s.heap.objs.size = none := Heap.get?_none_of_le (Nat.le_refl _)
  refine ⟨s.heap.objs.size, s.heap, items.length, _, _, [s.heap.objs.size], rfl, It.list hh hl hI, hsz, ⟨⟨_, Heap.get?_push_size _ rfl, rfl, rfl⟩, hl.at fun o e => Heap.get?_push_of_some _ e⟩, fun b o e => Heap.get?_push_of_some _ e, fun b hb => by rw [List.mem_singleton.mp hb]; exact hI, ?_, J, hJf, hJl, fun h st => hj h fun b o e => st b o (Heap.get?_push_of_some _ e), ?_, ?_⟩
  · show s.heap.objs.size ≤ (s.heap.push _).objs.size
    rw [Heap.size_push]; exact Nat.le_succ _
  · intro C D i v m₂ ys h tk ino hi hP hJ hino hD F N
    obtain ⟨⟨I', io⟩, rfl, hI'⟩ := List.map_eq_singleton_iff.mp hino
    have hI' : I' = s.heap.objs.size := hI'
    subst hI'
    exact turn C D _ io i v m₂ ys h tk hP hJ (fun q => hD (by rw [q]; exact List.mem_singleton.mpr rfl)) F N
  · exact hfin _

/-- a list comprehension as a value -/
theorem comp_eval {s : Shared} {elt target iter : Expr} {ifs : List Expr} {scope : Scope} {cl : List (Str × Addr)} {pos : Pos} {Q : Value → Shared → Prop}
    (hclos : closureFor scope env = pure cl) (hcell : ∀ y ∈ scope.names, y.2 ≠ .cell) (hkind : scope.kind = .function)
    (hnames : ∀ y ∈ scope.names, y.2 = .local → scope.names.lookup y.1 = some .local)
    (h : wpAny (model prog w) A (eval iter env) (fun xv s₁ => wpAny (model prog w) A (pyIter xv) (CompAt prog w A env target elt ifs scope cl (fun n J hb s₂ => ∀ D h tk ys, J n ys h → hb.StaysIn h → h.get? D = some (lst ys) → hb.get? D = none → Q (.ref D) { s₂ with heap := h, toks := tk })) E s₁) E s)
    (hs : ∀ x, foldedSetIterable iter env x = pure x := by intro _; rfl) :
    wpAny (model prog w) A (eval (.ListComp elt [⟨target, iter, ifs, 0⟩] scope pos) env) Q E s := by
  rw [eval_ListComp]
  refine wpAny_comprehension_free (use := none) rfl hs hclos hkind hnames (wpAny_mono h (fun xv s₁ h₁ => wpAny_mono h₁ (fun it s₂ h₂ => ?_) fun _ _ e => e) fun _ _ e => e)
  obtain ⟨I, hb, n, P, St, wr, rfl, W, hsz, hst, hbs, hwb, hbsz, J, hJf, hJl, hj, turn, hQ⟩ := h₂
  refine comp_block (RR := fun acc C => compPost (model prog w) A E none Q acc C) W hsz hcell hkind hst hbs hwb hbsz J hJf hJl hj turn ?_
  intro D C h tk m' ys hJ F hD hD0 hC0 hDC hDs hCs
  refine ⟨m', F.ns, fun h'' hs'' => ?_⟩
  have sb : StaysBut [C] h h'' := fun b o nb e => hs''.extBut b o (by simpa using nb) e
  refine hQ D h'' tk ys (hJf [C] _ _ _ _ hJ (fun b hb' => ?_) sb) (fun b o e => sb b o (fun q => by rw [List.mem_singleton.mp q, hC0] at e; cases e) (F.keep b o e)) (sb _ _ (by simpa using hDC) hD) hD0
  rcases List.mem_singleton.mp hb' with rfl
  obtain ⟨o, es, ep, eo, ed, _⟩ := F.ns
  exact ⟨notTup_of eo (.inr fun vs n => by rw [ed]; simp), hC0⟩
end
end
section
set_option maxRecDepth 100000
theorem InstAt.but {h g : Heap} {x l dx C : Addr} {es : List DictEntry} {n nl : Nat} {vs : List Value} (I : InstAt h x (instObj C dx) C (some (dictOf es n))) (e : h.get? l = some (lstObj vs nl)) (sb : StaysBut [l] h g) : InstAt g x (instObj C dx) C (some (dictOf es n)) := by
  have e1 := I.at_
  have e2 : h.get? dx = some (dictOf es n) := I.dict
  have n1 : x ∉ [l] := fun q => by
    rw [List.mem_singleton.mp q, e] at e1
    have := congrArg Obj.cls (Option.some.inj e1)
    cases this
  have n2 : dx ∉ [l] := fun q => by
    rw [List.mem_singleton.mp q, e] at e2
    have := congrArg Obj.data (Option.some.inj e2)
    cases this
  exact ⟨sb _ _ n1 e1, I.cls, I.no, sb _ _ n2 e2⟩
theorem PairAt.but {h g : Heap} {l a : Addr} {nl : Nat} {vs : List Value} {p : Str × Str} (I : PairAt h a p) (e : h.get? l = some (lstObj vs nl)) (sb : StaysBut [l] h g) : PairAt g a p := by
  obtain ⟨t1, t2, n, e1⟩ := I
  refine ⟨t1, t2, n, sb _ _ (fun q => ?_) e1⟩
  rw [List.mem_singleton.mp q, e] at e1
  have := congrArg Obj.cls (Option.some.inj e1)
  revert this
  simp
theorem PairsAt.but {h g : Heap} {l : Addr} {nl : Nat} {vs : List Value} (e : h.get? l = some (lstObj vs nl)) (sb : StaysBut [l] h g) : ∀ {as ps}, PairsAt h as ps → PairsAt g as ps
  | _, _, .nil => .nil
  | _, _, .cons p r => .cons (PairAt.but p e sb) (r.but e sb)

section
variable {w : World} {A : Around} {s : Shared} {mean : ExcName → Option Value} {mg mb : Str → Option Value} {hG : Heap}
  {name qual : Str} {params : Arguments} {body : List Stmt} {scope : Scope} {dV kV doc pm cdv ct oc : Value} {an od : Option Addr} {osl : Array (Option Value)} {f : Addr} {args : Args} {binds : List (Str × Value)}

/-- a call of a def with cells that may change the objects `own` -/
theorem enterC {R : Result → Shared → Prop} {n : Nat} (own : List (Addr × Obj)) (G : Ok w mean mg mb hG s.heap) (Rm : Room A (n + 1)) (hown : ∀ p ∈ own, s.heap.get? p.1 = some p.2 ∧ hG.get? p.1 = none)
    (ho : (hd.heap_39 w.params).lookup f = some ⟨oc, od, .func (fnOf name qual params body scope dV kV doc pm an cdv ct), osl⟩) (hcd : codeIn (hd.heap_39 w.params) cdv qual = true)
    (hbind : BindsTo s (fnOf name qual params body scope dV kV doc pm an cdv ct) args binds)
    (hkind : (binds.all fun y => scope.names.lookup y.1 == some .local || scope.names.lookup y.1 == some .cell) = true)
    (hnd : ((cellsFrom 0 scope.names []).map (·.1)).Nodup)
    (hco : scope.isCoroutine = false) (hgen : scope.isGenerator = false) (hk : scope.kind = .function)
    (h : ∀ g L' h₁ A' tk cells, Room A' n → Fr g L' h₁ (bindL (envOfC qual scope L' f cdv).kindOf binds fun _ => none) → News g L' h₁ (cells ++ own) →
      CellsAre (bindC (envOfC qual scope L' f cdv).kindOf binds fun _ => none) (cellsFrom (L' + 1) scope.names []) cells →
      (hd.heap_39 w.params).In g → Top hd.view_39 LL mean mg mb g → Ok w mean mg mb hG g → StaysBut (own.map (·.1)) s.heap g → (∀ b o, g.get? b = some o → s.heap.get? b = some o) → (∀ p ∈ own, p.1 < L') → (∀ b o, s.heap.get? b = some o → b < L') →
      wpAny (model Challenge.rw_qj0003_01.row.prog w) A' (execs body (envOfC qual scope L' f cdv))
        (fun fl s' => R (.ok (.ret (match fl with | .ret v => v | _ => .none))) s') (fun _ _ => False)
        { s with heap := h₁, toks := tk }) :
    codeAny (model Challenge.rw_qj0003_01.row.prog w) A (.call (.ref f) args) R s := by
  have X := G.here
  have T := G.top
  have st : hG.StaysIn (hideAll s.heap (own.map (·.1))) := fun b o e => hideAll_get _ (G.st b o e) (fun q => by
    obtain ⟨p, hp, rfl⟩ := List.mem_map.mp q
    rw [(hown p hp).2] at e; cases e)
  have G' : Ok w mean mg mb hG (hideAll s.heap (own.map (·.1))) := ⟨G.K, G.T, st⟩
  refine codeAny_call_function (by have := Rm.depth; simp only [recursionLimit]; omega) (X _ _ ho) (fd := fnOf name qual params body scope dV kV doc pm an cdv ct) rfl hco hgen rfl (codeRec_of X hcd) (hbind _ _ _ _ ?_)
  refine wpAny_newFunctionEnv_cells hk (kindsX hkind _) fun env' he s' x => ?_
  subst he
  refine ⟨T.nolimit.keeps x.toInCall.keep, codeAny_func ?_⟩
  obtain ⟨h₁, tk, rfl, _⟩ := x.done
  have hk₁ := x.toInCall.keep
  obtain ⟨cells, NC, Y⟩ := Cl.news (h₀ := s.heap) (Nat.le_refl _) fun n c hm => ⟨x.cell n c (lookup_of_mem_nodup (cellsFrom_names scope.names 0 (s.heap.objs.size + 1) [] [] rfl ▸ hnd) hm), x.above n c hm⟩
  refine wpAny_mono (h (hideAll s.heap (own.map (·.1))) s.heap.objs.size h₁ _ tk cells Rm.deeper ⟨x.toInCall.ns, fun b o e => hk₁ b o (of_hideAll _ e), Nat.le_of_eq (hideAll_size _ _)⟩ (fun p hp => ?_) Y G'.here G'.top G' (fun b o n e => hideAll_get _ e n) (fun b o e => of_hideAll _ e) (fun p hp => Heap.lt_size (hown p hp).1) (fun b o e => Heap.lt_size e)) (fun fl s' hl => hl) fun _ _ y => y.elim
  rcases List.mem_append.mp hp with hp | hp
  · refine ⟨(NC p hp).1, (NC p hp).2.1, ?_⟩
    cases q : (hideAll s.heap (own.map (·.1))).get? p.1 with
    | none => rfl
    | some o => have := of_hideAll _ q; rw [(NC p hp).2.2] at this; cases this
  · exact ⟨hk₁ _ _ (hown p hp).1, Nat.ne_of_lt (Heap.lt_size (hown p hp).1), hideAll_none _ (List.mem_map_of_mem hp)⟩
end
end
section
set_option maxRecDepth 100000
section
variable {M : Model} {A : Around} {E : Value → Shared → Prop} {s : Shared} {K : Frag} {h₀ : Heap} {L : Addr} {m mg mb : Str → Option Value} {p : Program} {loose : List Str} {env : Env}
  {x : Str} {pos : Pos} {v : Value} {Q : Value → Shared → Prop} {news : List (Addr × Obj)} {c : Addr} {o : Obj}
theorem nameE_K (F : Fr h₀ L s.heap m) (X : K.In h₀) (T : TopRead p loose mg mb h₀) (e : nsIn K mainGlobals x = some (some v)) (h : Q v s) (hg : env.globals = mainGlobals)
    (hk : env.scope.kind = .function) (hx : env.kindOf x = some .globalImplicit) (hd : (x == ("__debug__" : Str)) = false := by decide) :
    wpAny M A (eval (.Name x pos) env) Q E s := Name_function_global hk hx (loadGlobal_global (env := env) (hg ▸ T.g.keeps F.keep) (mg_of X T.g e) h) hd
theorem nameE_B (F : Fr h₀ L s.heap m) (X : K.In h₀) (T : TopRead p loose mg mb h₀) (e : nsIn K mainGlobals x = some none) (hv : bootBuiltins x = some v) (hn : x ≠ "__name__") (h : Q v s) (hg : env.globals = mainGlobals) (hb : env.builtins = builtinsNs)
    (hk : env.scope.kind = .function) (hx : env.kindOf x = some .globalImplicit) (hd : (x == ("__debug__" : Str)) = false := by decide) :
    wpAny M A (eval (.Name x pos) env) Q E s :=
  Name_function_global hk hx (loadGlobal_builtin (env := env) (hg ▸ T.g.keeps F.keep) (mg_none_of X T.g e) (hb ▸ T.b.keeps F.keep) ((T.builtins x hn).trans hv) h) hd
theorem nameE_L (F : Fr h₀ L s.heap m) (hL : env.locals = L) (hv : m x = some v) (h : Q v s)
    (hk : env.scope.kind = .function) (hx : env.kindOf x = some .local) (hd : (x == ("__debug__" : Str)) = false := by decide) :
    wpAny M A (eval (.Name x pos) env) Q E s := wpAny_Name (wpAny_loadName_local hk hx (hL ▸ F.ns) hv h) hd
theorem nameE_C (F : Fr h₀ L s.heap m) (hc : env.cells.lookup x = some c) (hm : h₀.get? c = some o) (hd : o.data = .cell (some v)) (h : Q v s)
    (hk : env.scope.kind = .function) (hx : env.kindOf x = some .cell) (hb : (x == ("__debug__" : Str)) = false := by decide) :
    wpAny M A (eval (.Name x pos) env) Q E s := wpAny_Name (wpAny_loadName_cell hk hx hc ⟨o, F.keep _ _ hm, hd⟩ h) hb
theorem storeE_L {Q : Unit → Shared → Prop} (F : Fr h₀ L s.heap m) (N : News h₀ L s.heap news) (hL : env.locals = L)
    (h : ∀ h', Fr h₀ L h' (fun y => if y = x then some v else m y) → News h₀ L h' news → Q () { s with heap := h', toks := s.toks + 1 })
    (hk : env.scope.kind = .function) (hx : env.kindOf x = some .local) : wpAny M A (storeName env x v) Q E s := by
  subst hL
  exact wpAny_storeName_local hx F.ns (fun h' hn hs => h h' (F.set hn hs) (N.set hs)) (by rw [hk]; rfl)
end
end
section
set_option maxRecDepth 100000
abbrev slcObj : Obj := { cls := .type "slice", data := .fields #[.none, .none, .none] }
section
variable {prog : Program} {w : World} {A : Around} {E : Value → Shared → Prop} {s : Shared} {h₀ : Heap} {L : Addr} {m : Str → Option Value} {news : List (Addr × Obj)} {env : Env}
theorem slice_none {pos : Pos} {Q : Value → Shared → Prop} (F : Fr h₀ L s.heap m) (N : News h₀ L s.heap news)
    (h : ∀ S h', Fr h₀ L h' m → News h₀ L h' ((S, slcObj) :: news) → s.heap.StaysIn h' → (∀ p ∈ news, p.1 ≠ S) → Q (.ref S) { s with heap := h' }) : wpAny (model prog w) A (eval (.Slice none none none pos) env) Q E s := by
  show wpAny _ _ (do
    let l ← valueOrNone (evalOpt none env)
    let u ← holding [l] (valueOrNone (evalOpt none env))
    let s ← holding [l, u] (valueOrNone (evalOpt none env))
    newFields "slice" [l, u, s]) _ _ _
  refine wpAny_bind (wpAny_pure (wpAny_bind (wpAny_holding (wpAny_pure (wpAny_bind (wpAny_holding (wpAny_pure ?_)))))))
  exact wpAny_newObj_type (h _ _ (F.push _) (N.push F _) (fun b o e => Heap.get?_push_of_some _ e) (fun p hp => Nat.ne_of_lt (Heap.lt_size (N p hp).1)))
theorem slot_none_slice : typeLookup (.type "slice") "__index__" = pure none := by rw [typeLookup_type, builtinLookup_eq_fast]; kernel_rfl
theorem setItem_all {l S D : Addr} {xs ys : List Value} {n k : Nat} {Q : Unit → Shared → Prop} (hl : s.heap.get? l = some (lstObj xs n)) (hS : s.heap.get? S = some slcObj) (hD : s.heap.get? D = some (lstObj ys k)) (hne : l ≠ D)
    (hsz : xs.length + ys.length ≤ sizeLine) (h : ∀ h' n', Heap.SameBut l s.heap h' → h'.get? l = some (lstObj ys n') → Q () { s with heap := h' }) :
    wpAny (model prog w) A (setItem (.ref l) (.ref S) (.ref D)) Q E s := by
  have hT : s.TypeIs (.ref l) "list" := ⟨_, hl, rfl⟩
  have hTS : s.TypeIs (.ref S) "slice" := ⟨_, hS, rfl⟩
  have hTD : s.TypeIs (.ref D) "list" := ⟨_, hD, rfl⟩
  unfold setItem
  refine wpAny_holding ?_
  refine wpAny_bind (wpAny_sequenceKey hT (by decide) ?_)
  refine wpAny_bind (wpAny_callSpecial?_slot (name := Str.ofString "__setitem__") hT slot_list_setitem
    (wpAny_call_entry slot_list_setitem hT entry_list_setitem ?_ (args_list_setitem _ _ _)))
  show wpAny _ _ (Builtin.List.listSubscript? (.ref S) >>= _) _ _ s
  refine wpAny_bind ?_
  unfold Builtin.List.listSubscript?
  refine wpAny_bind (wpAny_specialOf hTS slot_none_slice ?_)
  refine wpAny_pure ?_
  dsimp only
  refine wpAny_bind (wpAny_typeOf hTS ?_)
  rw [if_neg (by simp)]
  refine wpAny_bind ?_
  unfold Builtin.List.listSliceParts
  refine wpAny_bind (wpAny_field hS rfl (i := 2) (x := .none) rfl ?_)
  refine wpAny_bind (wpAny_pure ?_)
  refine wpAny_bind (wpAny_field hS rfl (i := 0) (x := .none) rfl ?_)
  refine wpAny_bind (wpAny_pure ?_)
  refine wpAny_bind (wpAny_field hS rfl (i := 1) (x := .none) rfl ?_)
  refine wpAny_bind (wpAny_pure ?_)
  refine wpAny_pure ?_
  dsimp only
  rw [if_neg (by simp [Builtin.List.listSameRef, hne])]
  refine wpAny_bind ?_
  unfold Builtin.List.listAllItems
  refine wpAny_bind (wpAny_typeOf hTD ?_)
  rw [if_pos (by simp)]
  refine wpAny_bind (wpAny_seqItems hD rfl (wpAny_pure ?_))
  refine wpAny_bind (wpAny_bind (wpAny_seqItems hl rfl (wpAny_pure ?_)))
  rw [show sliceIndices Value.none Value.none Value.none xs.toArray.size = pure (0, (xs.toArray.size : Int), 1) from rfl]
  refine wpAny_bind (wpAny_pure ?_)
  dsimp only
  rw [if_pos (by decide)]
  refine wpAny_bind (wpAny_rule ?_)
  rw [if_neg (by simp [Builtin.List.listTooLong]; exact hsz)]
  refine wpAny_bind ?_
  show wpAny _ _ (updateSeq l _) _ _ s
  have hm : (max 0 (xs.toArray.size : Int)).toNat = xs.toArray.size := by
    rw [Int.max_eq_right (by omega)]; simp
  have hf : ∀ zs : Array Value, zs.size = xs.toArray.size → zs.extract 0 (0 : Int).toNat ++ ys.toArray ++ zs.extract (max 0 (xs.toArray.size : Int)).toNat zs.size = ys.toArray := by
    intro zs hz
    rw [hm, ← hz]
    simp
  obtain ⟨n', hd'⟩ := Obj.data_mapSeq (o := lstObj xs n) (xs := xs.toArray) (n := n) rfl (fun xs_1 => xs_1.extract 0 (0 : Int).toNat ++ ys.toArray ++ xs_1.extract (max 0 (xs.toArray.size : Int)).toNat xs_1.size)
  refine wpAny_updateSeq hl rfl ?_ (by rw [List.size_toArray]; omega) (by rw [hf _ rfl, List.size_toArray]; omega)
  refine wpAny_bind (wpAny_letGo (wpAny_pure ⟨.none, rfl, wpAny_pure (h _ n' (Heap.SameBut.update ..) ?_)⟩))
  rw [Heap.get?_update_self _ hl (Obj.isFreed_of_seq hd')]
  rw [hf _ rfl] at hd'
  revert hd'
  simp only [Obj.mapSeq]
  intro hd'
  simp only [Data.seq.injEq] at hd'
  rw [hd'.2, hd'.1]
end
end
local macro_rules | `(tactic| walk_at "eval Name") => `(tactic| ((with_reducible show wpAny _ _ (eval (Expr.Name _ _) (compEnvC _ _ _ _)) _ _ _); k_dflt (first
  | (refine' nameE_L ?F ?l ?v ?_ ?a ?b; (case l => rfl); (case a => rfl); (case b => rfl); (case F => k_asm); (case v => rfl); k_whole)
  | (refine' nameE_C ?F ?c ?m ?d ?_ ?a ?b; (case a => rfl); (case b => rfl); (case F => k_asm); (case c => rfl); (case m => assumption); (case d => assumption); k_whole)
  | (refine' nameE_K ?F ?X ?T ?e ?_ ?g ?a ?b; (case g => rfl); (case a => rfl); (case b => rfl); (case F => k_asm); (case X => k_asm); (case T => k_asm); (case e => k_is); k_whole)
  | (refine' nameE_B ?F ?X ?T ?e ?v ?n ?_ ?g ?gb ?a ?b; (case g => rfl); (case gb => rfl); (case a => rfl); (case b => rfl); (case F => k_asm); (case X => k_asm); (case T => k_asm); (case e => k_is); (case v => boot_by_name); (case n => decide); k_whole))))
local macro_rules | `(tactic| walk_at "storeName") => `(tactic| ((with_reducible show wpAny _ _ (storeName (compEnvC _ _ _ _) _ _) _ _ _); k_dflt (refine' storeE_L ?F ?N ?l ?_ ?a ?b; (case l => rfl); (case a => rfl); (case b => rfl); (case F => k_asm); (case N => k_asm); k_whole); intro h' F' N'; (try k_sweep)))
local macro_rules | `(tactic| walk_at "subscriptTail") => `(tactic| ((with_reducible show wpAny _ _ (subscriptTail _ _ (Value.ref _) (Value.int _ _)) _ _ _); k_dflt (refine' item_tupleT ?t ?a ?b ?c ?d ?_; (case t => exact IsTup.keeps (by assumption) (Fr.keep (by k_asm))); (case a => decide); (case b => decide); (case c => rfl); (case d => rfl); k_whole)))
section
open Rx
local macro_rules | `(tactic| walk_at "eval Slice") => `(tactic| (refine slice_none (by k_asm) (by k_asm) ?_; intro S' h' F' N' st' nS'; k_sweep))
set_option maxRecDepth 100000 in
set_option maxHeartbeats 2000000 in
theorem del_spec {w : World} {A : Around} {E Q : Value → Shared → Prop} {s : Shared} {mean : ExcName → Option Value} {mg mb : Str → Option Value} {hG : Heap} {l x : Addr} {nm : Str} {t : Tok} {as : List Addr} {ps : List (Str × Str)} {nl : Nat}
   (G : Ok w mean mg mb hG s.heap) (R : Room A 6) (H : HdAt s.heap x l) (HL : s.heap.get? l = some (lstObj (as.map .ref) nl)) (hGl : hG.get? l = none) (HP : PairsAt s.heap as ps) (hn : NmOk nm) (hps : ∀ p ∈ ps, p.1.length ≤ 100) (hsz : ps.length + ps.length ≤ sizeLine)
   (h : ∀ as' nl' h' tk', StaysBut [l] s.heap h' → h'.get? l = some (lstObj (as'.map .ref) nl') → (∀ hz, PairsAt hz as ps → PairsAt hz as' (ps.filter fun p => Txt.lower p.1 != Txt.lower nm)) → Q .none { s with heap := h', toks := tk' }) :
   wpAny (model Challenge.rw_qj0003_01.row.prog w) A (call (.ref 102) [.ref x, .str nm t]) Q E s := by
  obtain ⟨dx, hs, tkx, n, I⟩ := H
  refine wpAny_call (enterC (n := 5) [(l, lstObj (as.map .ref) nl)] (binds := [(Str.ofString "self", .ref x), (Str.ofString "name", .str nm t)]) G R ?own (by k_is) (by k_is) ?bind rfl (by decide +kernel) rfl rfl rfl ?_)
  case own =>
    intro p hp
    rcases List.mem_singleton.mp hp with rfl
    exact ⟨HL, hGl⟩
  case bind => first | exact BindsTo.of_eq rfl | exact binds_K G.here rfl (by k_is) rfl rfl rfl
  intro g L h₁ A' tk cells R' F N Y X T G' sb gs ltL lt2
  k_cells Y
  rename Obj => co
  rename co.data = _ => hco
  have hco : co.data = .cell (some (.str nm t)) := hco
  have F : Fr g L h₁ (fun y => if y = Str.ofString "self" then some (.ref x) else none) := F
  have N : News g L h₁ [(L + 1, co), (l, lstObj (List.map Value.ref as) nl)] := N
  have hlL : l < L := ltL _ (.head _)
  have hA := R'.handled
  have I' := InstAt.but I HL sb
  have HP' := PairsAt.but HL sb HP
  clear I
  (repeat' ((fail_if_success (with_reducible show wpAny _ _ (exec (Stmt.For _ _ _ _ _) _) _ _ _)); (fail_if_success (with_reducible show wpAny _ _ (eval (Expr.ListComp _ _ _ _) _) _ _ _)); (fail_if_success (with_reducible show wpAny _ _ (eval (Expr.DictComp _ _ _ _ _) _) _ _ _)); (fail_if_success (with_reducible show wpAny _ _ (pyIter _) _ _ _)); (first | (k_unfold; (try dsimp only)) | walk1 | (dsimp only; walk1))))
  refine comp_eval (cl := [(Str.ofString "name", L + 1)]) rfl (by decide) rfl (by decide) ?_
  (repeat' ((fail_if_success (with_reducible show wpAny _ _ (exec (Stmt.For _ _ _ _ _) _) _ _ _)); (fail_if_success (with_reducible show wpAny _ _ (eval (Expr.ListComp _ _ _ _) _) _ _ _)); (fail_if_success (with_reducible show wpAny _ _ (eval (Expr.DictComp _ _ _ _ _) _) _ _ _)); (fail_if_success (with_reducible show wpAny _ _ (pyIter _) _ _ _)); (first | (k_unfold; (try dsimp only)) | walk1 | (dsimp only; walk1))))
  rename Fr g L _ _ => F2
  rename News g L _ _ => N2
  have hl2 := (N2 _ (.tail _ (.head _))).1
  have hcl := (N2 _ (.head _)).1
  dsimp only at hl2 hcl
  rename _ = Data.cell (some (Value.str (Txt.lower nm) _)) => hcd
  have X2 := X.keeps F2.keep
  have T2 := T.keeps F2.keep
  have hlt := HP.length
  refine comp_list hA ⟨_, hl2, rfl, _, rfl⟩ ?sz (fun i ys _ => ∃ as', ys = as'.map Value.ref ∧ ∀ hz, PairsAt hz as ps → PairsAt hz as' ((ps.take i).filter fun p => Txt.lower p.1 != Txt.lower nm)) ?jf ?jl ?j0 ?turn ?fin
  case sz => rw [List.length_map, hlt]; omega
  case jf => exact fun _ _ _ _ _ j _ _ => j
  case jl =>
    rintro i ys _ ⟨as', rfl, hp⟩
    rw [List.length_map, (hp _ HP).length]
    exact Nat.le_trans (List.length_filter_le _ _) (by rw [List.length_take]; exact Nat.min_le_left _ _)
  case j0 => exact fun hh st => ⟨[], rfl, by simp; exact fun _ _ => .nil⟩
  case turn =>
    intro C D I io i v m₂ ys hh tk hv hJ hDI F3 N3
    dsimp only at F3 N3
    rw [List.getElem?_map] at hv
    obtain ⟨a, ha, rfl⟩ := Option.map_eq_some_iff.mp hv
    obtain ⟨p, hp, t1, t2, np, hpa⟩ := HP'.get i ha
    have hpa' : IsTup _ a #[Value.str p.fst t1, Value.str p.snd t2] := ⟨_, F2.keep _ _ hpa, rfl, _, rfl⟩
    have hpl : p.1.length ≤ 5592405 := Nat.le_trans (hps p (List.mem_of_getElem? hp)) (by decide)
    obtain ⟨as', rfl, hp'⟩ := hJ
    (repeat' ((fail_if_success (with_reducible show wpAny _ _ (exec (Stmt.For _ _ _ _ _) _) _ _ _)); (fail_if_success (with_reducible show wpAny _ _ (eval (Expr.ListComp _ _ _ _) _) _ _ _)); (fail_if_success (with_reducible show wpAny _ _ (eval (Expr.DictComp _ _ _ _ _) _) _ _ _)); (fail_if_success (with_reducible show wpAny _ _ (pyIter _) _ _ _)); (first | (k_unfold; (try dsimp only)) | walk1 | (dsimp only; walk1))))
    · rename _ = true => hc
      refine ⟨_, _, _, rfl, by k_asm, by k_asm, as' ++ [a], by simp, ?_⟩
      rw [List.take_add_one, hp, List.filter_append]
      have : ([p].filter fun p => Txt.lower p.1 != Txt.lower nm) = [p] := by simp [hc]
      simp only [Option.toList_some]
      rw [this]
      intro hz HZ
      obtain ⟨q, hq, hqa⟩ := HZ.get i ha
      rw [hp] at hq; cases hq
      exact (hp' hz HZ).snoc hqa
    · rename _ = false => hc
      refine ⟨_, _, _, rfl, by k_asm, by k_asm, as', rfl, ?_⟩
      rw [List.take_add_one, hp, List.filter_append]
      have : ([p].filter fun p => Txt.lower p.1 != Txt.lower nm) = [] := by simp [hc]
      simp only [Option.toList_some]
      rw [this, List.append_nil]
      exact hp'
  case fin =>
    rintro h2 D hh tk ys ⟨as', rfl, hp'⟩ st hD hD0
    dsimp only at st hD0 ⊢
    have F3 := Fr.on F2 st
    have hDL : D ≠ L := fun q => by
      obtain ⟨o, _, _, e, _⟩ := F2.ns
      rw [q, e] at hD0; cases hD0
    have hDg : g.get? D = none := by
      cases q : g.get? D with
      | none => rfl
      | some o => rw [F2.keep _ _ q] at hD0; cases hD0
    have hDl : l ≠ D := fun q => by rw [← q, hl2] at hD0; cases hD0
    have N3 := News.cons (News.on N2 st) hD hDL hDg
    clear F2 N2
    (repeat' ((fail_if_success (with_reducible show wpAny _ _ (exec (Stmt.For _ _ _ _ _) _) _ _ _)); (fail_if_success (with_reducible show wpAny _ _ (eval (Expr.ListComp _ _ _ _) _) _ _ _)); (fail_if_success (with_reducible show wpAny _ _ (eval (Expr.DictComp _ _ _ _ _) _) _ _ _)); (fail_if_success (with_reducible show wpAny _ _ (pyIter _) _ _ _)); (first | (k_unfold; (try dsimp only)) | walk1 | (dsimp only; walk1))))
    rename Fr g L _ _ => F4
    rename News g L _ _ => N4
    have e1 := (N4 _ (.head _)).1
    have e2 := (N4 _ (.tail _ (.head _))).1
    have e3 := (N4 _ (.tail _ (.tail _ (.tail _ (.head _))))).1
    have hpl := (hp' _ HP).length
    have hle : (List.map Value.ref as).length + (List.map Value.ref as').length ≤ sizeLine := by
      rw [List.length_map, List.length_map, hlt, hpl]
      have := List.length_filter_le (fun p : Str × Str => Txt.lower p.1 != Txt.lower nm) (List.take (List.map Value.ref as).length ps)
      rw [List.length_take, List.length_map, hlt] at this
      have : (List.filter (fun p : Str × Str => Txt.lower p.1 != Txt.lower nm) (List.take (List.map Value.ref as).length ps)).length ≤ ps.length := by
        rw [List.length_map, hlt]; omega
      omega
    refine setItem_all e3 e1 e2 hDl hle ?_
    intro h5 n5 sb5 e5
    (repeat' ((fail_if_success (with_reducible show wpAny _ _ (exec (Stmt.For _ _ _ _ _) _) _ _ _)); (fail_if_success (with_reducible show wpAny _ _ (eval (Expr.ListComp _ _ _ _) _) _ _ _)); (fail_if_success (with_reducible show wpAny _ _ (eval (Expr.DictComp _ _ _ _ _) _) _ _ _)); (fail_if_success (with_reducible show wpAny _ _ (pyIter _) _ _ _)); (first | (k_unfold; (try dsimp only)) | walk1 | (dsimp only; walk1))))
    dsimp only
    have hgl : g.get? l = none := (N4 _ (.tail _ (.tail _ (.tail _ (.head _))))).2.2
    have st5 : g.StaysIn h5 := fun b o e => sb5.extBut b o (fun q => by rw [q, hgl] at e; cases e) (F4.keep _ _ e)
    refine h as' n5 h5 _ (fun b o nb e => st5 _ _ (sb b o nb e)) e5 ?_
    rw [List.length_map, hlt, List.take_length] at hp'
    exact hp'
end
section
set_option maxRecDepth 100000
theorem lo_of {a : Addr} (h : 3 < a) : (a == sysModules) = false := by
  have : a ≠ 1 := Nat.ne_of_gt (Nat.lt_trans (by decide) h)
  simpa [sysModules] using this

section
variable {w : World} {A : Around} {s : Shared} {mean : ExcName → Option Value} {mg mb : Str → Option Value} {hG : Heap}
  {name qual : Str} {params : Arguments} {body : List Stmt} {scope : Scope} {dV kV doc pm cdv ct oc : Value} {an od : Option Addr} {osl : Array (Option Value)} {f : Addr} {args : Args}

/-- a call of a def whose binding makes one object (a rest tuple, a dict of the other keywords) and that may change the objects `own` -/
theorem enterV {R : Result → Shared → Prop} {n : Nat} (own : List (Addr × Obj)) (ob : Obj) (binds : Addr → List (Str × Value)) (G : Ok w mean mg mb hG s.heap) (Rm : Room A (n + 1)) (hown : ∀ p ∈ own, s.heap.get? p.1 = some p.2 ∧ hG.get? p.1 = none)
    (ho : (hd.heap_39 w.params).lookup f = some ⟨oc, od, .func (fnOf name qual params body scope dV kV doc pm an cdv ct), osl⟩) (hcd : codeIn (hd.heap_39 w.params) cdv qual = true)
    (hbind : ∀ (M : Model) (A : Around) (E : Value → Shared → Prop) (Q : List (Str × Value) → Shared → Prop), Q (binds s.heap.objs.size) { s with heap := s.heap.push ob } → wpAny M A (bindArgs (fnOf name qual params body scope dV kV doc pm an cdv ct) args) Q E s)
    (hfree : ob.isFreed = false)
    (hloc : ∀ a, ∀ y ∈ binds a, scope.names.lookup y.1 = some .local)
    (hco : scope.isCoroutine = false) (hgen : scope.isGenerator = false) (hk : scope.kind = .function) (hcell : ∀ x ∈ scope.names, x.2 ≠ .cell)
    (h : ∀ g P L' h₁ A' tk, Room A' n → Fr g L' h₁ (fun y => (binds P).reverse.lookup y) → News g L' h₁ ((P, ob) :: own) → (hd.heap_39 w.params).In g → Top hd.view_39 LL mean mg mb g → Ok w mean mg mb hG g → StaysBut (own.map (·.1)) s.heap g → (∀ b o, g.get? b = some o → s.heap.get? b = some o) → (∀ p ∈ own, p.1 < P) → P < L' → (∀ b o, s.heap.get? b = some o → b < P) →
      wpAny (model Challenge.rw_qj0003_01.row.prog w) A' (execs body (envOf qual scope L' f cdv))
        (fun fl s' => R (.ok (.ret (match fl with | .ret v => v | _ => .none))) s') (fun _ _ => False)
        { s with heap := h₁, toks := tk }) :
    codeAny (model Challenge.rw_qj0003_01.row.prog w) A (.call (.ref f) args) R s := by
  have X := G.here
  have T := G.top
  have st : hG.StaysIn (hideAll s.heap (own.map (·.1))) := fun b o e => hideAll_get _ (G.st b o e) (fun q => by
    obtain ⟨p, hp, rfl⟩ := List.mem_map.mp q
    rw [(hown p hp).2] at e; cases e)
  have G' : Ok w mean mg mb hG (hideAll s.heap (own.map (·.1))) := ⟨G.K, G.T, st⟩
  refine codeAny_call_function (by have := Rm.depth; simp only [recursionLimit]; omega) (X _ _ ho) (fd := fnOf name qual params body scope dV kV doc pm an cdv ct) rfl hco hgen rfl (codeRec_of X hcd) (hbind _ _ _ _ ?_)
  have kp : ∀ b o, s.heap.get? b = some o → (s.heap.push ob).get? b = some o := fun b o e => Heap.get?_push_of_some _ e
  refine wpAny_newFunctionEnv hcell (hloc _) (fun h₁ hns hsb => ⟨(T.nolimit.keeps kp).fresh _ hsb, codeAny_func ?_⟩) hk
  have hk₁ : ∀ b o, (s.heap.push ob).get? b = some o → h₁.get? b = some o := fun b o e => hsb.extBut b o (Nat.ne_of_lt (Heap.lt_size e)) (Heap.get?_push_of_some _ e)
  have hsz : (s.heap.push ob).objs.size = s.heap.objs.size + 1 := Heap.size_push _ _
  refine wpAny_mono (h (hideAll s.heap (own.map (·.1))) s.heap.objs.size (s.heap.push ob).objs.size h₁ _ _ Rm.deeper ⟨hns, fun b o e => hk₁ b o (kp b o (of_hideAll _ e)), by rw [hideAll_size, hsz]; exact Nat.le_succ _⟩
    (fun p hp => ?_) G'.here G'.top G' (fun b o n e => hideAll_get _ e n) (fun b o e => of_hideAll _ e) (fun p hp => Heap.lt_size (hown p hp).1) (by rw [hsz]; exact Nat.lt_succ_self _) (fun b o e => Heap.lt_size e)) (fun fl s' hl => hl) fun _ _ y => y.elim
  rcases List.mem_cons.mp hp with rfl | hp
  · refine ⟨hk₁ _ _ (Heap.get?_push_size _ hfree), by show s.heap.objs.size ≠ (s.heap.push ob).objs.size; rw [hsz]; exact Nat.ne_of_lt (Nat.lt_succ_self _), ?_⟩
    exact Heap.get?_none_of_le (by rw [hideAll_size]; exact Nat.le_refl _)
  · exact ⟨hk₁ _ _ (kp _ _ (hown p hp).1), Nat.ne_of_lt (by rw [hsz]; exact Nat.lt_succ_of_lt (Heap.lt_size (hown p hp).1)), hideAll_none _ (List.mem_map_of_mem hp)⟩
end
end
section
set_option maxRecDepth 100000
section
variable {prog : Program} {w : World} {K : Type} [DecidableEq K] {knd : KeyKind prog w K} {A : Around}

theorem entry_itemiter_iter : entryFor table "dict_itemiterator.__iter__" = some Builtin.«dict_keyiterator.__iter__» :=
  entryFor_alias (id' := "dict_keyiterator.__iter__") (by kernel_rfl) rfl (by decide +kernel) (by kernel_rfl)
theorem pyIter_itemiter {s : Shared} {E : Value → Shared → Prop} {it d : Addr} {i n ep : Nat} {ok ov : Value} {Q : Value → Shared → Prop} (hit : IsItemIter s.heap it d i n ep ok ov) (h : Q (.ref it) s) : wpAny (model prog w) A (pyIter (.ref it)) Q E s := by
  have hT : s.TypeIs (.ref it) "dict_itemiterator" := ⟨_, hit, rfl⟩
  refine wpAny_pyIter_slot hT F.slot_dict_itemiterator_iter (wpAny_call_entry F.slot_dict_itemiterator_iter hT entry_itemiter_iter ?_ (F.args_dict_itemiterator_iter_1 _))
  show wpAny _ _ (ret (.ref it)) _ _ s
  exact wpAny_pure ⟨_, rfl, "dict_itemiterator", _, hT, F.slot_dict_itemiterator_next.lookup, h⟩

/-- the items of a dict, unpacked -/
theorem It.items (hh : A.handled = none) {I d : Addr} {hb : Heap} {kvs : List (K × Value)} {ep : Nat} {elts : List Expr} {x1 : Nat} {pos : Pos} (hd : hb.DictAt knd d kvs ep) (hI : hb.get? I = none) :
    It prog w A (.Tuple elts x1 pos) I hb kvs.length (fun i v h => ∃ k vv key a, kvs[i]? = some (k, vv) ∧ knd.is k key = true ∧ v = .ref a ∧ h.get? a = some (tupObj [key, vv] 0))
      (fun i h => (∃ ok ov, IsItemIter h I d i kvs.length ep ok ov) ∧ h.DictAt knd d kvs ep) [I] where
  mem := by simp
  frame := fun i h h' st hk hw => by
    obtain ⟨⟨ok, ov, e⟩, _⟩ := st
    exact ⟨⟨ok, ov, hw I (by simp) _ e⟩, hd.keep hk⟩
  here := fun i h st b hb' => by
    rcases List.mem_singleton.mp hb' with rfl
    obtain ⟨⟨ok, ov, e⟩, _⟩ := st
    exact ⟨_, e, by simp, by simp, fun es n => by simp⟩
  item := fun i s Q hi st hQ => by
    obtain ⟨⟨ok, ov, e⟩, hm⟩ := st
    have hne : d ≠ I := by
      obtain ⟨o, es, e', _⟩ := hd
      rintro rfl; rw [hI] at e'; cases e'
    obtain ⟨⟨k, x⟩, hx⟩ : ∃ p, kvs[i]? = some p := ⟨kvs[i], by simp [hi]⟩
    have hIlt : I < s.heap.objs.size := Heap.lt_size e
    refine wpAny_pyNext_items_item e hm hx fun key h' hkey hout hT hsz hk => ⟨_, rfl, ?_⟩
    refine wpAny_letOwnedTupleGo_items hout fun h₂ he₂ hs₂ => ?_
    have hne' : s.heap.objs.size ≠ I := Nat.ne_of_gt hIlt
    refine hQ _ h₂ _ ⟨k, x, key, _, hx, hkey, rfl, hs₂.extBut _ _ hne' hT⟩ ⟨⟨_, _, he₂⟩, hm.at' fun o e'' => hs₂.extBut _ _ hne (hk _ _ hne e'')⟩ fun b o nb e'' => ?_
    have nb' : b ≠ I := by simpa using nb
    exact hs₂.extBut _ _ nb' (hk _ _ nb' e'')
  done := fun s Q st hQ => by
    obtain ⟨⟨ok, ov, e⟩, hm⟩ := st
    exact wpAny_pyNext_items_end hh e hm (by simp) fun h' he' => hQ h' s.toks fun b o nb e'' => he' b o (by simpa using nb) e''
  self := fun i s Q st hQ => by
    obtain ⟨⟨ok, ov, e⟩, hm⟩ := st
    exact pyIter_itemiter e hQ

theorem letGo_other {E : Value → Shared → Prop} {s : Shared} {x : Str} {pos : Pos} {I : Addr} {v : Value} {Q : Unit → Shared → Prop} (h : Q () s) : wpAny (model prog w) A (letOwnedTupleGo (.Name x pos) (.ref I) v) Q E s := wpAny_pure h

/-- the keys of a dict -/
theorem It.keys (hh : A.handled = none) {I d : Addr} {hb : Heap} {kvs : List (K × Value)} {ep : Nat} {x : Str} {pos : Pos} (hd : hb.DictAt knd d kvs ep) (hI : hb.get? I = none) :
    It prog w A (.Name x pos) I hb kvs.length (fun i v _ => ∃ k vv, kvs[i]? = some (k, vv) ∧ knd.is k v = true)
      (fun i h => h.IsKeyIter I d i kvs.length ep ∧ h.DictAt knd d kvs ep) [I] where
  mem := by simp
  frame := fun i h h' st hk hw => ⟨st.1.at fun o e => hw I (by simp) o e, hd.keep hk⟩
  here := fun i h st b hb' => by
    rcases List.mem_singleton.mp hb' with rfl
    obtain ⟨o, e, c, dd⟩ := st.1
    exact ⟨o, e, (by rw [c]; simp), (by rw [c]; simp), fun es n => by rw [dd]; simp⟩
  item := fun i s Q hi st hQ => by
    have hne : d ≠ I := by
      obtain ⟨o, es, e', _⟩ := hd
      rintro rfl; rw [hI] at e'; cases e'
    obtain ⟨⟨k, x⟩, hx⟩ : ∃ p, kvs[i]? = some p := ⟨kvs[i], by simp [hi]⟩
    refine wpAny_pyNext_dict_item st.1 st.2 hx fun key h' hkey hit' hs' => ⟨_, rfl, letGo_other ?_⟩
    exact hQ key h' s.toks ⟨k, x, hx, hkey⟩ ⟨hit', st.2.extBut hs'.extBut hne⟩ fun b o nb e => hs'.extBut b o (by simpa using nb) e
  done := fun s Q st hQ => wpAny_pyNext_dict_end hh st.1 st.2 (by simp) fun h' he' => hQ h' s.toks fun b o nb e => he' b o (by simpa using nb) e
  self := fun _ _ _ st hQ => wpAny_pyIter_keyiter st.1 hQ

/-- the values of a dict -/
theorem It.values (hh : A.handled = none) {I d : Addr} {hb : Heap} {kvs : List (K × Value)} {ep : Nat} {x : Str} {pos : Pos} (hd : hb.DictAt knd d kvs ep) (hI : hb.get? I = none) :
    It prog w A (.Name x pos) I hb kvs.length (fun i v _ => ∃ k, kvs[i]? = some (k, v))
      (fun i h => h.IsValIter I d i kvs.length ep ∧ h.DictAt knd d kvs ep) [I] where
  mem := by simp
  frame := fun i h h' st hk hw => ⟨st.1.at fun o e => hw I (by simp) o e, hd.keep hk⟩
  here := fun i h st b hb' => by
    rcases List.mem_singleton.mp hb' with rfl
    obtain ⟨o, e, c, dd⟩ := st.1
    exact ⟨o, e, (by rw [c]; simp), (by rw [c]; simp), fun es n => by rw [dd]; simp⟩
  item := fun i s Q hi st hQ => by
    have hne : d ≠ I := by
      obtain ⟨o, es, e', _⟩ := hd
      rintro rfl; rw [hI] at e'; cases e'
    obtain ⟨⟨k, x⟩, hx⟩ : ∃ p, kvs[i]? = some p := ⟨kvs[i], by simp [hi]⟩
    refine wpAny_pyNext_values_item st.1 st.2 hx fun h' hit' hs' => ⟨_, rfl, letGo_other ?_⟩
    exact hQ x h' s.toks ⟨k, hx⟩ ⟨hit', st.2.extBut hs'.extBut hne⟩ fun b o nb e => hs'.extBut b o (by simpa using nb) e
  done := fun s Q st hQ => wpAny_pyNext_values_end hh st.1 st.2 (by simp) fun h' he' => hQ h' s.toks fun b o nb e => he' b o (by simpa using nb) e
  self := fun _ _ _ st hQ => wpAny_pyIter_valiter st.1 hQ
end
end
section
set_option maxRecDepth 100000
section
variable {prog : Program} {w : World} {A : Around} {E : Value → Shared → Prop} {s : Shared} {env : Env} {h₀ : Heap} {target : Expr} {body : List Stmt} {Q : Flow → Shared → Prop}

theorem hideAll_stays {h h' : Heap} {adr : List Addr} (sb : StaysBut adr h h') : (hideAll h adr).StaysIn h' := fun b o e => sb b o (fun q => by rw [hideAll_none _ q] at e; cases e) (of_hideAll _ e)

/-- a for over an iterator that was made after hs; the places adr may be changed -/
theorem loop_gen {I : Addr} {hs : Heap} {n : Nat} {P : Nat → Value → Heap → Prop} {St : Nat → Heap → Prop} {wr : List Addr} (adr : List Addr) (W : It prog w A target I (hideAll hs adr) n P St wr)
    {m₀ : Str → Option Value} {L : Addr} (hL : env.locals = L) (J : Nat → (Str → Option Value) → Heap → Prop)
    (hst : St 0 s.heap) (hss : hs.StaysIn s.heap) (hwr : ∀ b ∈ wr, hs.get? b = none) (F : Fr h₀ L hs m₀)
    (hJf : ∀ i m h h', J i m h → (∀ b ∈ wr, NotTup h b ∧ hs.get? b = none) → StaysBut wr h h' → J i m h')
    (hj : J 0 m₀ s.heap)
    (turn : ∀ i v m₁ h tk ino, i < n → P i v h → J i m₁ h → StaysBut adr hs h → ino.map (·.1) = wr → Fr h₀ L h m₁ → News h₀ L h ino →
      wpAny (model prog w) A (assign target env v) (fun _ s₂ => wpAny (model prog w) A (execs body env) (FEnd h₀ L s ino (fun m' h' => J (i + 1) m' h' ∧ StaysBut adr hs h') Q) (fun _ _ => False) s₂) (fun _ _ => False) { s with heap := h, toks := tk })
    (fin : ∀ m₁ h tk, J n m₁ h → StaysBut adr hs h → Fr h₀ L h m₁ → Q .next { s with heap := h, toks := tk })
    (hE : PassesOwn (model prog w) A env E) :
    codeAny (model prog w) A (.forLoop target (.ref I) body [] env) (fun r s' => match r with | .ok f => Q f s' | .error e => cameBackBy (model prog w) A env E e s') s := by
  have hwL : ∀ b ∈ wr, b ≠ L ∧ h₀.get? b = none := fun b hb' => by
    have hn := hwr b hb'
    refine ⟨fun q => ?_, ?_⟩
    · obtain ⟨o, _, _, e, _⟩ := F.ns
      rw [← q, hn] at e; cases e
    · cases q : h₀.get? b with
      | none => rfl
      | some o => rw [F.keep _ _ q] at hn; cases hn
  refine loop_it W hL (fun i m h => J i m h ∧ StaysBut adr hs h) hst (Fr.on F hss) hwL ?_ ?_ ⟨hj, StaysBut.of hss⟩ ?_ ?_ hE
  · exact fun i m h j _ => hideAll_stays j.2
  · rintro i m h h' ⟨j, sb⟩ nt sw
    refine ⟨hJf i m h h' j (fun b hb' => ⟨(nt b hb').1, hwr b hb'⟩) sw, fun b o nb e => sw b o (fun q => ?_) (sb b o nb e)⟩
    rw [hwr b q] at e; cases e
  · rintro i v m₁ h tk ino hi hP ⟨j, sb⟩ hino F' N'
    exact turn i v m₁ h tk ino hi hP j sb hino F' N'
  · rintro m₁ h tk ⟨j, sb⟩ F'
    exact fin m₁ h tk j sb F'
end

section
variable {prog : Program} {w : World} {K : Type} [DecidableEq K] {knd : KeyKind prog w K} {A : Around} {E : Value → Shared → Prop} {s : Shared} {env : Env} {h₀ : Heap} {L : Addr} {m : Str → Option Value} {news : List (Addr × Obj)} {body : List Stmt} {d : Addr} {kvs : List (K × Value)}
theorem getM_dict {name : Str} {id : String} {pl : Sem Bool} {Q : Value × List Value → Shared → Prop} (slot : Slot "dict" name id) (hty : typeOf (.builtin id) = pure (.type "method_descriptor")) (hm : s.heap.DictOf knd d kvs) (h : Q (.builtin id, [.ref d]) s) :
    wpAny (model prog w) A (getMethod (.ref d) name pl) Q E s := by
  obtain ⟨o, es, ep, e, hx, _⟩ := hm
  exact getMethod_builtin ⟨_, e, hx.1⟩ PySem.F.plainAttrs_dict slot hty (fun b hb => by cases hb; exact ⟨_, e, hx.2.1⟩) h
theorem items_call {Q : Value → Shared → Prop} (lo : (d == sysModules) = false) (F : Fr h₀ L s.heap m) (N : News h₀ L s.heap news) (hm : s.heap.DictOf knd d kvs)
    (h : ∀ V h', Fr h₀ L h' m → News h₀ L h' ((V, { cls := .type "dict_items", data := .fields #[.ref d] }) :: news) → s.heap.StaysIn h' → Q (.ref V) { s with heap := h' }) : wpAny (model prog w) A (call (.builtin "dict.items") [.ref d]) Q E s :=
  call_meetsIn PySem.F.slot_dict_items hm.typeIs PySem.F.entry_dict_items (PySem.F.args_dict_items_1 _) (meets_dict_items knd d lo) ⟨⟨kvs, hm⟩, h _ _ (F.push _) (N.push F _) fun b o e => Heap.get?_push_of_some _ e⟩
theorem values_call {Q : Value → Shared → Prop} (lo : (d == sysModules) = false) (F : Fr h₀ L s.heap m) (N : News h₀ L s.heap news) (hm : s.heap.DictOf knd d kvs)
    (h : ∀ V h', Fr h₀ L h' m → News h₀ L h' ((V, { cls := .type "dict_values", data := .fields #[.ref d] }) :: news) → s.heap.StaysIn h' → Q (.ref V) { s with heap := h' }) : wpAny (model prog w) A (call (.builtin "dict.values") [.ref d]) Q E s :=
  call_meetsIn PySem.F.slot_dict_values hm.typeIs PySem.F.entry_dict_values (PySem.F.args_dict_values_1 _) (meets_dict_values knd d lo) ⟨⟨kvs, hm⟩, h _ _ (F.push _) (N.push F _) fun b o e => Heap.get?_push_of_some _ e⟩

/-- for .. in d.items() -/
theorem loop_items {Q : Flow → Shared → Prop} {V : Addr} {ep : Nat} {elts : List Expr} {x1 : Nat} {pos : Pos} (adr : List Addr) (hda : d ∉ adr) (hh : A.handled = none) (hv : s.heap.IsItemsView V d) (hm : s.heap.DictAt knd d kvs ep) (hL : env.locals = L) (F : Fr h₀ L s.heap m)
    (J : Nat → (Str → Option Value) → Heap → Prop) (hJf : ∀ wr i m h h', J i m h → (∀ b ∈ wr, NotTup h b ∧ s.heap.get? b = none) → StaysBut wr h h' → J i m h') (hj : ∀ h, s.heap.StaysIn h → J 0 m h)
    (turn : ∀ i k vv key a I io m₁ h tk, kvs[i]? = some (k, vv) → knd.is k key = true → h.get? a = some (tupObj [key, vv] 0) → J i m₁ h → StaysBut adr s.heap h → Fr h₀ L h m₁ → News h₀ L h [(I, io)] →
      wpAny (model prog w) A (assign (.Tuple elts x1 pos) env (.ref a)) (fun _ s₂ => wpAny (model prog w) A (execs body env) (FEnd h₀ L s [(I, io)] (fun m' h' => J (i + 1) m' h' ∧ StaysBut adr s.heap h') Q) (fun _ _ => False) s₂) (fun _ _ => False) { s with heap := h, toks := tk })
    (fin : ∀ m₁ h tk, J kvs.length m₁ h → StaysBut adr s.heap h → Fr h₀ L h m₁ → Q .next { s with heap := h, toks := tk })
    (hE : PassesOwn (model prog w) A env E) :
    wpAny (model prog w) A (pyIter (.ref V)) (fun it s₂ => codeAny (model prog w) A (.forLoop (.Tuple elts x1 pos) it body [] env) (fun r s' => match r with | .ok f => Q f s' | .error e => cameBackBy (model prog w) A env E e s') s₂) E s := by
  have hI : s.heap.get? s.heap.objs.size = none := Heap.get?_none_of_le (Nat.le_refl _)
  have hd' : (hideAll s.heap adr).DictAt knd d kvs ep := by
    obtain ⟨o, es, e, r⟩ := hm
    exact ⟨o, es, hideAll_get _ e hda, r⟩
  have hI' : (hideAll s.heap adr).get? s.heap.objs.size = none := by
    cases q : (hideAll s.heap adr).get? s.heap.objs.size with
    | none => rfl
    | some o => rw [of_hideAll _ q] at hI; cases hI
  have st : s.heap.StaysIn (s.heap.push { cls := .type "dict_itemiterator", data := .fields #[.none, .bool false, .ref d, .int 0 0, .int kvs.length 0, .int ep 0, .none, .none] }) := fun b o e => Heap.get?_push_of_some _ e
  refine wpAny_pyIter_items hv hm ?_
  refine loop_gen adr (It.items (knd := knd) hh hd' hI') hL J ⟨⟨.none, .none, Heap.get?_push_size _ rfl⟩, hm.push _⟩ st (fun b hb' => by rw [List.mem_singleton.mp hb']; exact hI) F (fun i m h h' j nt sb => hJf _ i m h h' j nt sb) (hj _ st) ?_ (fun m₁ h tk j sb F' => fin m₁ h tk j sb F') hE
  intro i v m₁ h tk ino hi hP j sb hino F' N'
  obtain ⟨⟨I, io⟩, rfl, hI2⟩ := List.map_eq_singleton_iff.mp hino
  obtain ⟨k, vv, key, a, hx, hkey, rfl, ha⟩ := hP
  exact turn i k vv key a I io m₁ h tk hx hkey ha j sb F' N'
end
end
section
set_option maxRecDepth 100000
theorem ne_cls {h : Heap} {a b : Addr} {oa ob : Obj} (ea : h.get? a = some oa) (eb : h.get? b = some ob) (hc : oa.cls ≠ ob.cls) : a ≠ b := fun q => by
  rw [q, eb] at ea; exact hc (congrArg Obj.cls (Option.some.inj ea)).symm
theorem glued_one (sep x : Str) : Builtin.Str.glued sep [x] = x := by simp [Builtin.Str.glued]
section
variable {prog : Program} {w : World} {A : Around} {E : Value → Shared → Prop} {s : Shared} {Q : Value → Shared → Prop}
theorem strs_sum (sep : Str) : ∀ (l : List Str) (n : Nat), l.toArray.foldl (· + ·.length + sep.length) n = n + (l.map fun x => x.length + sep.length).sum := by
  intro l
  induction l with
  | nil => intro n; simp
  | cons x r ih =>
    intro n
    have := ih (n + x.length + sep.length)
    simp only [List.foldl_toArray, List.foldl_cons, List.map_cons, List.sum_cons] at this ⊢
    rw [this]; omega
/-- sep.join(a list of texts) -/
theorem join_rule {sep : Str} {t : Tok} {a : Addr} {l : List (Str × Tok)} (hl : s.heap.IsList a (strValues l).toArray) (hsz : (l.map fun p => p.1.length + sep.length).sum ≤ sizeLine)
    (h : ∀ t' tk', Q (.str (Builtin.Str.glued sep (l.map (·.1))) t') { s with toks := tk' }) : wpAny (model prog w) A (call (.builtin "str.join") [.str sep t, .ref a]) Q E s := by
  refine call_meets PySem.F.slot_str_join rfl PySem.F.entry_str_join (PySem.F.args_str_join_2 _ _) (meets_str_join_list sep t a l ?_) ⟨hl, ?_⟩
  · rw [strs_sum, List.map_map]
    have : (List.map ((fun x : Str => x.length + sep.length) ∘ fun x => x.1) l).sum ≤ sizeLine := hsz
    simp only [Builtin.Str.tooLong, decide_eq_false_iff_not]
    omega
  · have hg : (Builtin.Str.glued sep (l.map (·.1))).length ≤ sizeLine := by
      rw [size_glued]
      have e : (l.map fun p => p.1.length + sep.length).sum = ((l.map (·.1)).map (·.length)).sum + l.length * sep.length := by
        clear hsz hl h
        induction l with
        | nil => simp
        | cons p r ih => simp only [List.map_cons, List.sum_cons, List.length_cons, ih, Nat.add_mul, Nat.one_mul]; omega
      rw [e] at hsz
      rw [List.length_map]
      have : (l.length - 1) * sep.length ≤ l.length * sep.length := Nat.mul_le_mul_right _ (Nat.sub_le _ _)
      omega
    match l, hg with
    | [], hg => exact ⟨hg, h _ _⟩
    | [p], _ =>
      have := h p.2 s.toks
      have e : Builtin.Str.glued sep ([p].map (·.1)) = p.1 := by simp [Builtin.Str.glued]
      rw [e] at this
      exact this
    | p :: q :: r, hg => exact ⟨hg, h _ _⟩
end
end
section
open Rx
theorem empty_dict {prog : Program} {w : World} {h : Heap} {d : Addr} (e : h.get? d = some emptyDict) : h.DictAt (strKind prog w) d [] 0 :=
  ⟨_, #[], e, ⟨rfl, rfl, rfl⟩, rfl, fun e he => by simp at he, .nil, .nil⟩
set_option maxRecDepth 100000 in
set_option maxHeartbeats 2000000 in
theorem addh_spec {w : World} {A : Around} {E Q : Value → Shared → Prop} {s : Shared} {mean : ExcName → Option Value} {mg mb : Str → Option Value} {hG : Heap} {l x : Addr} {nm vl : Str} {t tv : Tok} {as : List Addr} {nl : Nat}
   (G : Ok w mean mg mb hG s.heap) (R : Room A 6) (H : HdAt s.heap x l) (HL : s.heap.get? l = some (lstObj (as.map .ref) nl)) (hGl : hG.get? l = none) (hn : TxOk nm) (hv : TxOk vl) (hsz : as.length < sizeLine)
   (h : ∀ a nl' h' tk', StaysBut [l] s.heap h' → h'.get? l = some (lstObj ((as ++ [a]).map .ref) nl') → PairAt h' a (nm, vl) → Q .none { s with heap := h', toks := tk' }) :
   wpAny (model Challenge.rw_qj0003_01.row.prog w) A (call (.ref 181) [.ref x, .str nm t, .str vl tv]) Q E s := by
  obtain ⟨dx, hs, tkx, n, I⟩ := H
  refine wpAny_call (enterV (n := 5) [(l, lstObj (as.map .ref) nl)] emptyDict (fun P => [(Str.ofString "self", .ref x), (Str.ofString "_name", .str nm t), (Str.ofString "_value", .str vl tv), (Str.ofString "_params", .ref P)]) G R ?own (by k_is) (by k_is) ?bind rfl (fun a => locs rfl) rfl rfl rfl (by decide) ?_)
  case own =>
    intro p hp
    rcases List.mem_singleton.mp hp with rfl
    exact ⟨HL, hGl⟩
  case bind =>
    intro M A E Q hq
    with_unfolding_all exact wpAny_bind (m := alloc emptyDict) (f := fun P => (pure [(Str.ofString "self", Value.ref x), (Str.ofString "_name", .str nm t), (Str.ofString "_value", .str vl tv), (Str.ofString "_params", .ref P)] : Sem _)) (wpAny_alloc (wpAny_pure hq))
  intro g P L h₁ A' tk R' F N X T G' sb gs ltl ltP lt2
  have hP3 : 3 < P := lt2 3 _ (gs _ _ (X _ _ (by k_is)))
  have hA := R'.handled
  have I' := InstAt.but I HL sb
  have hlP : l < P := ltl _ (.head _)
  clear I
  (repeat' ((fail_if_success (with_reducible show wpAny _ _ (exec (Stmt.For _ _ _ _ _) _) _ _ _)); (fail_if_success (with_reducible show wpAny _ _ (eval (Expr.ListComp _ _ _ _) _) _ _ _)); (fail_if_success (with_reducible show wpAny _ _ (eval (Expr.DictComp _ _ _ _ _) _) _ _ _)); (fail_if_success (with_reducible show wpAny _ _ (pyIter _) _ _ _)); (first | (k_unfold; (try dsimp only)) | walk1 | (dsimp only; walk1))))
  refine wpAny_For ?_
  (repeat' ((fail_if_success (with_reducible show wpAny _ _ (exec (Stmt.For _ _ _ _ _) _) _ _ _)); (fail_if_success (with_reducible show wpAny _ _ (eval (Expr.ListComp _ _ _ _) _) _ _ _)); (fail_if_success (with_reducible show wpAny _ _ (eval (Expr.DictComp _ _ _ _ _) _) _ _ _)); (fail_if_success (with_reducible show wpAny _ _ (pyIter _) _ _ _)); (first | (k_unfold; (try dsimp only)) | walk1 | (dsimp only; walk1))))
  rename Fr g L _ _ => F2
  rename News g L _ _ => N2
  have hPd := (N2 _ (.tail _ (.head _))).1
  dsimp only at hPd
  refine getM_dict (knd := strKind _ _) PySem.F.slot_dict_items PySem.F.type_dict_items (empty_dict hPd).dictOf ?_
  (repeat' ((fail_if_success (with_reducible show wpAny _ _ (exec (Stmt.For _ _ _ _ _) _) _ _ _)); (fail_if_success (with_reducible show wpAny _ _ (eval (Expr.ListComp _ _ _ _) _) _ _ _)); (fail_if_success (with_reducible show wpAny _ _ (eval (Expr.DictComp _ _ _ _ _) _) _ _ _)); (fail_if_success (with_reducible show wpAny _ _ (pyIter _) _ _ _)); (first | (k_unfold; (try dsimp only)) | walk1 | (dsimp only; walk1))))
  dsimp only
  refine items_call (knd := strKind _ _) (lo_of hP3) F2 N2 (empty_dict hPd).dictOf ?_
  intro V h3 F3 N3 st3
  clear F2 N2
  have hPd3 := (N3 _ (.tail _ (.tail _ (.head _)))).1
  have hV3 := (N3 _ (.head _)).1
  refine loop_items (knd := strKind _ _) [] (by simp) hA ⟨_, hV3, rfl, rfl⟩ (empty_dict hPd3) (L := L) rfl F3 (fun _ m _ => m = _) (fun _ _ _ _ _ j _ _ => j) (fun _ _ => rfl) ?turn ?fin PassesOwn.never
  case turn => intro i k vv key a I io m₁ h tk hx; simp at hx
  case fin =>
    rintro m₁ h4 tk rfl sb4 F4
    have st4 := sb4.nil
    have N4 := News.on N3 st4
    clear F3 N3
    (repeat' ((fail_if_success (with_reducible show wpAny _ _ (exec (Stmt.For _ _ _ _ _) _) _ _ _)); (fail_if_success (with_reducible show wpAny _ _ (eval (Expr.ListComp _ _ _ _) _) _ _ _)); (fail_if_success (with_reducible show wpAny _ _ (eval (Expr.DictComp _ _ _ _ _) _) _ _ _)); (fail_if_success (with_reducible show wpAny _ _ (pyIter _) _ _ _)); (first | (k_unfold; (try dsimp only)) | walk1 | (dsimp only; walk1))))
    rename Fr g L _ _ => F5
    rename News g L _ _ => N5
    have hparts := (N5 _ (.tail _ (.head _))).1
    refine join_rule (l := [(vl, tv)]) ⟨_, hparts, rfl, _, rfl⟩ ?_ ?_
    · have := hv.len
      simp only [List.map_cons, List.map_nil, List.sum_cons, List.sum_nil, Nat.add_zero]
      rw [show (Str.ofString "; ").length = 2 from rfl, sizeLine_eq]
      omega
    intro t6 tk6
    rw [show List.map (fun x : Str × Tok => x.fst) [(vl, tv)] = [vl] from rfl, glued_one]
    (repeat' ((fail_if_success (with_reducible show wpAny _ _ (exec (Stmt.For _ _ _ _ _) _) _ _ _)); (fail_if_success (with_reducible show wpAny _ _ (eval (Expr.ListComp _ _ _ _) _) _ _ _)); (fail_if_success (with_reducible show wpAny _ _ (eval (Expr.DictComp _ _ _ _ _) _) _ _ _)); (fail_if_success (with_reducible show wpAny _ _ (pyIter _) _ _ _)); (first | (k_unfold; (try dsimp only)) | walk1 | (dsimp only; walk1))))
    rename Fr g L _ _ => F7
    rename News g L _ _ => N7
    have el := (N7 _ (.tail _ (.tail _ (.tail _ (.tail _ (.head _)))))).1
    have hgl : g.get? l = none := (N7 _ (.tail _ (.tail _ (.tail _ (.tail _ (.head _)))))).2.2
    have ed := (N7 _ (.head _)).1
    have ned := ne_cls ed el (by simp)
    refine append_at el ?_ (by rw [List.size_toArray, List.length_map]; exact Nat.le_of_lt hsz)
    intro h8 sb8 e8
    (repeat' ((fail_if_success (with_reducible show wpAny _ _ (exec (Stmt.For _ _ _ _ _) _) _ _ _)); (fail_if_success (with_reducible show wpAny _ _ (eval (Expr.ListComp _ _ _ _) _) _ _ _)); (fail_if_success (with_reducible show wpAny _ _ (eval (Expr.DictComp _ _ _ _ _) _) _ _ _)); (fail_if_success (with_reducible show wpAny _ _ (pyIter _) _ _ _)); (first | (k_unfold; (try dsimp only)) | walk1 | (dsimp only; walk1))))
    dsimp only
    have st8 : g.StaysIn h8 := fun b o e => sb8.extBut b o (fun q => by rw [q, hgl] at e; cases e) (F7.keep _ _ e)
    refine h _ (nl + 1) h8 _ (fun b o nb e => st8 _ _ (sb b o nb e)) (e8.trans ?_) ⟨_, _, _, sb8.extBut _ _ ned ed⟩
    rw [List.map_append, List.map_cons, List.map_nil, List.push_toArray]
end
section
set_option maxRecDepth 100000
section
variable {M : Model} {A : Around} {E : Value → Shared → Prop} {s : Shared} {K : Frag} {x C L f : Addr} {h₀ : Heap} {m : Str → Option Value} {ox : Obj} {od : Option Obj} {v i : Value}
theorem delItem_own {Q : Unit → Shared → Prop} (F : Fr h₀ L s.heap m) (X₀ : K.In h₀) (I : InstAt s.heap x ox C od) (hq : noSeq K C = true) (hs : findIn K (.ref C) "__delitem__" = some (some (.ref f))) (hf : isFn K (.ref f) = true)
    (h : wpAny M A (call (.ref f) [.ref x, v]) (fun _ s' => Q () s') E s) : wpAny M A (delItem (.ref x) v) Q E s := by
  have X := X₀.keeps F.keep
  unfold delItem sequenceKey
  refine wpAny_holding (wpAny_bind (wpAny_bind (I.type.here ?_)))
  refine wpAny_bind ((anyM_none X hq).here ?_)
  rw [if_pos (show (!false) = true from rfl)]
  exact wpAny_pure (wpAny_bind (special_fn X I hs (beq_iff_eq.mp hf) (wpAny_mono h (fun _ _ z => wpAny_pure z) fun _ _ z => z)))
theorem setItem_own {Q : Unit → Shared → Prop} (F : Fr h₀ L s.heap m) (X₀ : K.In h₀) (I : InstAt s.heap x ox C od) (hq : noSeq K C = true) (hs : findIn K (.ref C) "__setitem__" = some (some (.ref f))) (hf : isFn K (.ref f) = true)
    (h : wpAny M A (call (.ref f) [.ref x, i, v]) (fun _ s' => Q () s') E s) : wpAny M A (setItem (.ref x) i v) Q E s := by
  have X := X₀.keeps F.keep
  unfold setItem sequenceKey
  refine wpAny_holding (wpAny_bind (wpAny_bind (I.type.here ?_)))
  refine wpAny_bind ((anyM_none X hq).here ?_)
  rw [if_pos (show (!false) = true from rfl)]
  exact wpAny_pure (wpAny_bind (special_fn X I hs (beq_iff_eq.mp hf) (wpAny_mono h (fun _ _ z => wpAny_pure z) fun _ _ z => z)))
end
end
local macro_rules | `(tactic| walk_at "delItem ref") => `(tactic| (k_here; k_dflt (refine' delItem_own ?k1 ?k2 ?k3 ?k4 ?k5 ?k6 ?_; (case k1 => k_asm); (case k2 => k_asm); (case k3 => k_inst); (case k4 => k_is); (case k5 => k_is); (case k6 => k_is); k_whole)))
local macro_rules | `(tactic| walk_at "setItem ref") => `(tactic| (k_here; k_dflt (refine' setItem_own ?k1 ?k2 ?k3 ?k4 ?k5 ?k6 ?_; (case k1 => k_asm); (case k2 => k_asm); (case k3 => k_inst); (case k4 => k_is); (case k5 => k_is); (case k6 => k_is); k_whole)))
section
open Rx
set_option maxRecDepth 100000 in
set_option maxHeartbeats 2000000 in
theorem set_spec {w : World} {A : Around} {E Q : Value → Shared → Prop} {s : Shared} {mean : ExcName → Option Value} {mg mb : Str → Option Value} {hG : Heap} {l x : Addr} {nm vl : Str} {t tv : Tok} {as : List Addr} {ps : List (Str × Str)} {nl : Nat}
   (G : Ok w mean mg mb hG s.heap) (R : Room A 9) (H : HdAt s.heap x l) (HL : s.heap.get? l = some (lstObj (as.map .ref) nl)) (hGl : hG.get? l = none) (HP : PairsAt s.heap as ps) (hn : NmOk nm) (hv : TxOk vl) (hps : ∀ p ∈ ps, p.1.length ≤ 100) (hsz : ps.length + ps.length < sizeLine)
   (h : ∀ as' nl' h' tk', StaysBut [l] s.heap h' → h'.get? l = some (lstObj (as'.map .ref) nl') → PairsAt h' as' ((ps.filter fun p => Txt.lower p.1 != Txt.lower nm) ++ [(nm, vl)]) → Q .none { s with heap := h', toks := tk' }) :
   wpAny (model Challenge.rw_qj0003_01.row.prog w) A (call (.ref 97) [.ref x, .str nm t, .str vl tv]) Q E s := by
  obtain ⟨dx, hs, tkx, n, I⟩ := H
  refine wpAny_call (enterN (n := 8) [(l, lstObj (as.map .ref) nl)] (binds := [(Str.ofString "self", .ref x), (Str.ofString "name", .str nm t), (Str.ofString "val", .str vl tv)]) G R ?own (by k_is) (by k_is) ?bind (locs rfl) rfl rfl rfl (by decide) ?_)
  case own =>
    intro p hp
    rcases List.mem_singleton.mp hp with rfl
    exact ⟨HL, hGl⟩
  case bind => exact BindsTo.of_eq rfl
  intro g L h₁ A' R' F N X T G' sb gs ltl
  have hA := R'.handled
  have I' := InstAt.but I HL sb
  have HP' := PairsAt.but HL sb HP
  have hlL : l < L := ltl _ (.head _)
  clear I
  (repeat' ((fail_if_success (with_reducible show wpAny _ _ (exec (Stmt.For _ _ _ _ _) _) _ _ _)); (fail_if_success (with_reducible show wpAny _ _ (eval (Expr.ListComp _ _ _ _) _) _ _ _)); (fail_if_success (with_reducible show wpAny _ _ (eval (Expr.DictComp _ _ _ _ _) _) _ _ _)); (fail_if_success (with_reducible show wpAny _ _ (pyIter _) _ _ _)); (first | (k_unfold; (try dsimp only)) | walk1 | (dsimp only; walk1))))
  have hll := (N _ (.head _)).1
  refine del_spec (G'.keep F.keep) (R'.le (by decide)) ⟨_, _, _, _, InstAt.on I' F.keep⟩ hll hGl (HP'.on F.keep) hn hps (Nat.le_of_lt hsz) ?_
  intro as2 nl2 h2 tk2 sb2 e2 HP2
  dsimp only at sb2
  have hlL' : l ≠ L := Nat.ne_of_lt hlL
  have hgl := (N _ (.head _)).2.2
  have F2 := Fr.onBut F (adr := [l]) (fun a ha => by rw [List.mem_singleton.mp ha]; exact ⟨hlL', hgl⟩) sb2
  have N2 : News g L h2 [(l, lstObj (List.map Value.ref as2) nl2)] := News.cons News.nil e2 hlL' hgl
  clear F N
  (repeat' ((fail_if_success (with_reducible show wpAny _ _ (exec (Stmt.For _ _ _ _ _) _) _ _ _)); (fail_if_success (with_reducible show wpAny _ _ (eval (Expr.ListComp _ _ _ _) _) _ _ _)); (fail_if_success (with_reducible show wpAny _ _ (eval (Expr.DictComp _ _ _ _ _) _) _ _ _)); (fail_if_success (with_reducible show wpAny _ _ (pyIter _) _ _ _)); (first | (k_unfold; (try dsimp only)) | walk1 | (dsimp only; walk1))))
  rename Fr g L _ _ => F7
  rename News g L _ _ => N7
  have el := (N7 _ (.tail _ (.head _))).1
  have ed := (N7 _ (.head _)).1
  have ned := ne_cls ed el (by simp)
  have hl2 := (HP2 _ HP).length
  refine append_at el ?_ ?_
  rotate_left
  · rw [List.size_toArray, List.length_map, hl2]
    have := List.length_filter_le (fun p : Str × Str => Txt.lower p.1 != Txt.lower nm) ps
    omega
  intro h8 sb8 e8
  (repeat' ((fail_if_success (with_reducible show wpAny _ _ (exec (Stmt.For _ _ _ _ _) _) _ _ _)); (fail_if_success (with_reducible show wpAny _ _ (eval (Expr.ListComp _ _ _ _) _) _ _ _)); (fail_if_success (with_reducible show wpAny _ _ (eval (Expr.DictComp _ _ _ _ _) _) _ _ _)); (fail_if_success (with_reducible show wpAny _ _ (pyIter _) _ _ _)); (first | (k_unfold; (try dsimp only)) | walk1 | (dsimp only; walk1))))
  dsimp only
  have st8 : g.StaysIn h8 := fun b o e => sb8.extBut b o (fun q => by rw [q, hgl] at e; cases e) (F7.keep _ _ e)
  refine h (as2 ++ [_]) (nl2 + 1) h8 _ (fun b o nb e => st8 _ _ (sb b o nb e)) (e8.trans ?_) (((HP2 _ HP').on st8).snoc ⟨_, _, _, sb8.extBut _ _ ned ed⟩)
  rw [List.map_append, List.map_cons, List.map_nil, List.push_toArray]
end
section
set_option maxRecDepth 100000
theorem strValues_snoc (l : List (Str × Tok)) (x : Str) (t : Tok) : strValues l ++ [.str x t] = strValues (l ++ [(x, t)]) := by simp [strValues]
set_option maxHeartbeats 2000000 in
theorem fmt_meets (x y : Str) (t t1 t2 : Tok) (b : Addr) (hx : x.length ≤ 1000000) (hy : y.length ≤ 1000000) :
    Meets (Builtin.«str.__mod__» ⟨[.str ⟨#[37, 115, 58, 32, 37, 115]⟩ t, .ref b], []⟩) (fun _ R s => IsTup s.heap b #[.str x t1, .str y t2] ∧ ∀ t' k, R (.ok (.ret (.str ((x ++ Str.ofString ": ") ++ y) t'))) { s with toks := k }) := by
  kpt_run
theorem fmt_rule {prog : Program} {w : World} {A : Around} {E : Value → Shared → Prop} {s : Shared} {x y : Str} {t t1 t2 : Tok} {b : Addr} {Q : Value → Shared → Prop} (ht : IsTup s.heap b #[.str x t1, .str y t2]) (hx : x.length ≤ 1000000) (hy : y.length ≤ 1000000)
    (h : ∀ t' k, Q (.str ((x ++ Str.ofString ": ") ++ y) t') { s with toks := k }) : wpAny (model prog w) A (binaryOp .Mod (.str (Str.ofString "%s: %s") t) (.ref b)) Q E s := by
  have hT : s.TypeIs (.ref b) "tuple" := by
    obtain ⟨o, ho, hc, _⟩ := ht
    exact ⟨o, ho, hc⟩
  exact KPt.bin_left (T := "str") (U := "tuple") (op := .Mod) (by decide) (typeIs_str s _ t) hT PySem.F.fills_str_mod KPt.fills_tuple PySem.F.slot_str_mod
    (call_meets PySem.F.slot_str_mod (typeIs_str s _ t) PySem.F.entry_str_mod (PySem.F.args_str_mod_2 _ _) (fmt_meets x y t t1 t2 b hx hy) ⟨ht, fun t' k => ⟨(fun e => nomatch e), h t' k⟩⟩)
end
section
open Rx
set_option maxRecDepth 100000 in
set_option maxHeartbeats 2000000 in
theorem items_spec {w : World} {A : Around} {E Q : Value → Shared → Prop} {s : Shared} {mean : ExcName → Option Value} {mg mb : Str → Option Value} {hG : Heap} {l x : Addr} {as : List Addr}
   (G : Ok w mean mg mb hG s.heap) (R : Room A 3) (H : HdAt s.heap x l) (HL : RefsAt s.heap l as) (hsz : as.length ≤ sizeLine)
   (h : ∀ l2 h' tk', s.heap.StaysIn h' → s.heap.get? l2 = none → RefsAt h' l2 as → Q (.ref l2) { s with heap := h', toks := tk' }) :
   wpAny (model Challenge.rw_qj0003_01.row.prog w) A (call (.ref 148) [.ref x]) Q E s := by
  obtain ⟨dx, hs, tkx, n, I⟩ := H
  refine wpAny_call (enter0 (n := 2) (binds := [(Str.ofString "self", .ref x)]) G R (by k_is) (by k_is) (BindsTo.of_eq rfl) (locs rfl) rfl rfl rfl (by decide) ?_)
  intro L h₁ A' R' F N X T
  have hA := R'.handled
  have hls : s.heap.IsList l (as.map Value.ref).toArray := HL.isList
  (repeat' ((fail_if_success (with_reducible show wpAny _ _ (exec (Stmt.For _ _ _ _ _) _) _ _ _)); (fail_if_success (with_reducible show wpAny _ _ (eval (Expr.ListComp _ _ _ _) _) _ _ _)); (fail_if_success (with_reducible show wpAny _ _ (eval (Expr.DictComp _ _ _ _ _) _) _ _ _)); (fail_if_success (with_reducible show wpAny _ _ (pyIter _) _ _ _)); (first | (k_unfold; (try dsimp only)) | walk1 | (dsimp only; walk1))))
  rename News s.heap L _ _ => N2
  have e2 := N2 _ (.head _)
  rw [slicePick_all] at e2
  exact h _ _ _ (Fr.keep (by k_asm)) e2.2.2 ⟨_, e2.1⟩
/-- a row of the page; the page -/
def rowOf (p : Str × Str) : Str := (p.1 ++ Str.ofString ": ") ++ p.2
def pageOf (ps : List (Str × Str)) : Str := Builtin.Str.glued (Str.ofString "\r\n") (ps.map rowOf ++ [Str.ofString "", Str.ofString ""])
local macro_rules | `(tactic| walk_at "binaryOp Mod") => `(tactic| (refine fmt_rule (IsTup.keeps (by assumption) (Fr.keep (by k_asm))) (by assumption) (by assumption) ?_; intro t' k'))
set_option maxRecDepth 100000 in
set_option maxHeartbeats 2000000 in
theorem str_spec {w : World} {A : Around} {E Q : Value → Shared → Prop} {s : Shared} {mean : ExcName → Option Value} {mg mb : Str → Option Value} {hG : Heap} {l x : Addr} {as : List Addr} {ps : List (Str × Str)}
   (G : Ok w mean mg mb hG s.heap) (R : Room A 3) (H : HdAt s.heap x l) (HL : RefsAt s.heap l as) (HP : PairsAt s.heap as ps) (hps : ∀ p ∈ ps, p.1.length ≤ 100 ∧ p.2.length ≤ 1000) (hsz : ps.length ≤ 100)
   (h : ∀ h' t' tk', s.heap.StaysIn h' → Q (.str (pageOf ps) t') { s with heap := h', toks := tk' }) :
   wpAny (model Challenge.rw_qj0003_01.row.prog w) A (call (.ref 160) [.ref x]) Q E s := by
  obtain ⟨dx, hs, tkx, n, I⟩ := H
  refine wpAny_call (enter0 (n := 2) (binds := [(Str.ofString "self", .ref x)]) G R (by k_is) (by k_is) (BindsTo.of_eq rfl) (locs rfl) rfl rfl rfl (by decide) ?_)
  intro L h₁ A' R' F N X T
  have hA := R'.handled
  have hls : s.heap.IsList l (as.map Value.ref).toArray := HL.isList
  (repeat' ((fail_if_success (with_reducible show wpAny _ _ (exec (Stmt.For _ _ _ _ _) _) _ _ _)); (fail_if_success (with_reducible show wpAny _ _ (eval (Expr.ListComp _ _ _ _) _) _ _ _)); (fail_if_success (with_reducible show wpAny _ _ (eval (Expr.DictComp _ _ _ _ _) _) _ _ _)); (fail_if_success (with_reducible show wpAny _ _ (pyIter _) _ _ _)); (first | (k_unfold; (try dsimp only)) | walk1 | (dsimp only; walk1))))
  refine comp_eval (cl := []) rfl (by decide) rfl (by decide) ?_
  (repeat' ((fail_if_success (with_reducible show wpAny _ _ (exec (Stmt.For _ _ _ _ _) _) _ _ _)); (fail_if_success (with_reducible show wpAny _ _ (eval (Expr.ListComp _ _ _ _) _) _ _ _)); (fail_if_success (with_reducible show wpAny _ _ (eval (Expr.DictComp _ _ _ _ _) _) _ _ _)); (fail_if_success (with_reducible show wpAny _ _ (pyIter _) _ _ _)); (first | (k_unfold; (try dsimp only)) | walk1 | (dsimp only; walk1))))
  rename Fr s.heap L _ _ => F2
  rename News s.heap L _ _ => N2
  have hlt := HP.length
  have X2 := X.keeps F2.keep
  have T2 := T.keeps F2.keep
  refine comp_list hA (hls.at fun o e => F2.keep _ _ e) ?sz (fun i ys _ => ∃ l : List (Str × Tok), ys = strValues l ∧ l.map (·.1) = (ps.take i).map rowOf) ?jf ?jl ?j0 ?turn ?fin
  case sz => rw [List.length_map, hlt, sizeLine_eq]; omega
  case jf => exact fun _ _ _ _ _ j _ _ => j
  case jl =>
    rintro i ys _ ⟨l, rfl, hl⟩
    have := congrArg List.length hl
    rw [List.length_map, List.length_map, List.length_take] at this
    simp only [strValues, List.length_map]
    omega
  case j0 => exact fun hh st => ⟨[], rfl, by simp⟩
  case turn =>
    intro C D I' io i v m₂ ys hh tk hv hJ hDI F3 N3
    dsimp only at F3 N3
    rw [List.getElem?_map] at hv
    obtain ⟨a, ha, rfl⟩ := Option.map_eq_some_iff.mp hv
    obtain ⟨p, hp, t1, t2, np, hpa⟩ := HP.get i ha
    have hpa' : IsTup _ a #[Value.str p.fst t1, Value.str p.snd t2] := ⟨_, F2.keep _ _ hpa, rfl, _, rfl⟩
    have hp1 : p.1.length ≤ 1000000 := Nat.le_trans (hps p (List.mem_of_getElem? hp)).1 (by decide)
    have hp2 : p.2.length ≤ 1000000 := Nat.le_trans (hps p (List.mem_of_getElem? hp)).2 (by decide)
    obtain ⟨lz, rfl, hlz⟩ := hJ
    clear F2 N2
    (repeat' ((fail_if_success (with_reducible show wpAny _ _ (exec (Stmt.For _ _ _ _ _) _) _ _ _)); (fail_if_success (with_reducible show wpAny _ _ (eval (Expr.ListComp _ _ _ _) _) _ _ _)); (fail_if_success (with_reducible show wpAny _ _ (eval (Expr.DictComp _ _ _ _ _) _) _ _ _)); (fail_if_success (with_reducible show wpAny _ _ (pyIter _) _ _ _)); (first | (k_unfold; (try dsimp only)) | walk1 | (dsimp only; walk1))))
    refine ⟨_, _, _, rfl, by k_asm, by k_asm, lz ++ [(rowOf p, _)], strValues_snoc _ _ _, ?_⟩
    rw [List.take_add_one, hp, List.map_append, List.map_append, hlz]
    rfl
  case fin =>
    rintro h2 D hh tk ys ⟨lz, rfl, hlz⟩ st hD hD0
    dsimp only at st hD0 ⊢
    have F3 := Fr.on F2 st
    have hDL : D ≠ L := fun q => by
      obtain ⟨o, _, _, e, _⟩ := F2.ns
      rw [q, e] at hD0; cases hD0
    have hDg : s.heap.get? D = none := by
      cases q : s.heap.get? D with
      | none => rfl
      | some o => rw [F2.keep _ _ q] at hD0; cases hD0
    have N3 := News.cons (News.on N2 st) hD hDL hDg
    clear F2 N2
    (repeat' ((fail_if_success (with_reducible show wpAny _ _ (exec (Stmt.For _ _ _ _ _) _) _ _ _)); (fail_if_success (with_reducible show wpAny _ _ (eval (Expr.ListComp _ _ _ _) _) _ _ _)); (fail_if_success (with_reducible show wpAny _ _ (eval (Expr.DictComp _ _ _ _ _) _) _ _ _)); (fail_if_success (with_reducible show wpAny _ _ (pyIter _) _ _ _)); (first | (k_unfold; (try dsimp only)) | walk1 | (dsimp only; walk1))))
    rename Fr s.heap L _ _ => F4
    rename News s.heap L _ _ => N4
    have e1 := (N4 _ (.head _)).1
    have e2 := (N4 _ (.tail _ (.head _))).1
    have hlen : lz.length = ps.length := by
      have := congrArg List.length hlz
      rw [List.length_map, List.length_map, List.length_take, List.length_map, hlt, Nat.min_self] at this
      exact this
    refine add_arrays F4 N4 ⟨_, e2, rfl, _, rfl⟩ ⟨_, e1, rfl, _, rfl⟩ ?_ (by
      simp only [strValues, List.size_toArray, List.length_map, List.length_cons, List.length_nil]
      rw [hlen, sizeLine_eq]; omega)
    intro h5 F5 N5
    have e5 := (N5 _ (.head _)).1
    clear F4 N4
    (repeat' ((fail_if_success (with_reducible show wpAny _ _ (exec (Stmt.For _ _ _ _ _) _) _ _ _)); (fail_if_success (with_reducible show wpAny _ _ (eval (Expr.ListComp _ _ _ _) _) _ _ _)); (fail_if_success (with_reducible show wpAny _ _ (eval (Expr.DictComp _ _ _ _ _) _) _ _ _)); (fail_if_success (with_reducible show wpAny _ _ (pyIter _) _ _ _)); (first | (k_unfold; (try dsimp only)) | walk1 | (dsimp only; walk1))))
    refine join_rule (l := lz ++ [(Str.ofString "", tk), (Str.ofString "", tk + 1)]) ⟨_, e5, rfl, 0, ?_⟩ ?_ ?_
    · simp [strValues]
    · have hb : ∀ p ∈ lz, p.1.length ≤ 1102 := by
        intro p hp
        have hm : p.1 ∈ List.map rowOf (List.take (List.map Value.ref as).length ps) := hlz ▸ List.mem_map_of_mem hp
        obtain ⟨q, hq, hqe⟩ := List.mem_map.mp hm
        have := hps q (List.mem_of_mem_take hq)
        rw [← hqe]
        show ((q.1 ++ Str.ofString ": ") ++ q.2).length ≤ 1102
        rw [Str.length_append, Str.length_append, show (Str.ofString ": ").length = 2 from rfl]
        omega
      rw [List.map_append, List.sum_append, show (Str.ofString "\r\n").length = 2 from rfl]
      have hs1 : ∀ zs : List (Str × Tok), (∀ p ∈ zs, p.1.length ≤ 1102) → (zs.map fun p => p.1.length + 2).sum ≤ zs.length * 1104 := by
        intro zs
        induction zs with
        | nil => intro _; simp
        | cons z r ih =>
          intro hz
          have := ih fun p hp => hz p (.tail _ hp)
          have := hz z (.head _)
          simp only [List.map_cons, List.sum_cons, List.length_cons, Nat.add_mul, Nat.one_mul]
          omega
      have := hs1 lz hb
      rw [sizeLine_eq]
      simp only [List.map_cons, List.map_nil, List.sum_cons, List.sum_nil, show (Str.ofString "").length = 0 from rfl]
      rw [hlen] at this
      omega
    intro t6 tk6
    rw [List.map_append, hlz, List.length_map, hlt, List.take_length]
    exact h _ _ _ F5.keep
end
section
set_option maxRecDepth 100000
theorem split_sum (x y : Str) (hy : 1 ≤ y.length) (k : Nat) : ((Txt.split x y).map fun p => p.length + k).sum ≤ (x.length + 1) * (k + 1) := by
  have h := split_weight x y hy
  have e : ∀ l : List Str, (l.map fun p => p.length + k).sum = (l.map (·.length)).sum + l.length * k := by
    intro l
    induction l with
    | nil => simp
    | cons a r ih => simp only [List.map_cons, List.sum_cons, List.length_cons, ih, Nat.add_mul, Nat.one_mul]; omega
  rw [e, Nat.mul_add, Nat.mul_one]
  have : (Txt.split x y).length * k ≤ (x.length + 1) * k := Nat.mul_le_mul_right _ (by omega)
  omega
theorem glued_len (sep : Str) (l : List Str) : (Builtin.Str.glued sep l).length ≤ (l.map fun p => p.length + sep.length).sum := by
  rw [size_glued]
  have e : (l.map fun p => p.length + sep.length).sum = (l.map (·.length)).sum + l.length * sep.length := by
    induction l with
    | nil => simp
    | cons a r ih => simp only [List.map_cons, List.sum_cons, List.length_cons, ih, Nat.add_mul, Nat.one_mul]; omega
  rw [e]
  have : (l.length - 1) * sep.length ≤ l.length * sep.length := Nat.mul_le_mul_right _ (Nat.sub_le _ _)
  omega
theorem split_sum2 (x y sep : Str) (hy : 1 ≤ y.length) (hs : sep.length ≤ 2) : ((Txt.split x y).map fun p => p.length + sep.length).sum ≤ (x.length + 1) * 3 :=
  Nat.le_trans (split_sum x y hy sep.length) (Nat.mul_le_mul_left _ (by omega))
theorem glued_len2 (x y sep : Str) (hy : 1 ≤ y.length) (hs : sep.length ≤ 2) : (Builtin.Str.glued sep (Txt.split x y)).length ≤ (x.length + 1) * 3 :=
  Nat.le_trans (glued_len _ _) (split_sum2 x y sep hy hs)
theorem sum_drop (l : List Nat) : ∀ k, (l.drop k).sum ≤ l.sum := by
  induction l with
  | nil => intro k; simp
  | cons a r ih =>
    intro k
    cases k with
    | zero => simp
    | succ k => rw [List.drop_succ_cons, List.sum_cons]; have := ih k; omega
section
variable {prog : Program} {w : World} {A : Around} {E : Value → Shared → Prop} {s : Shared} {Q : Value → Shared → Prop}
/-- sep.join(x.split(y)) -/
theorem join_split_rule {x y sep : Str} {t : Tok} {a : Addr} {l : List (Str × Tok)} (hl : s.heap.IsList a (strValues l).toArray) (e : l.map (·.1) = Txt.split x y) (hy : 1 ≤ y.length) (hs : sep.length ≤ 2) (hx : x.length ≤ 1000000)
    (h : ∀ t' tk', Q (.str (Builtin.Str.glued sep (Txt.split x y)) t') { s with toks := tk' }) : wpAny (model prog w) A (call (.builtin "str.join") [.str sep t, .ref a]) Q E s := by
  refine join_rule hl ?_ (fun t' tk' => by rw [e]; exact h t' tk')
  have e2 : (l.map fun p => p.1.length + sep.length) = (Txt.split x y).map fun p => p.length + sep.length := by rw [← e, List.map_map]; rfl
  rw [e2]
  refine Nat.le_trans (split_sum2 x y sep hy hs) ?_
  rw [sizeLine_eq]; omega
end
end
section
open Rx
def replOf (x a b c d : Str) : Str := Builtin.Str.glued d (Txt.split (Builtin.Str.glued b (Txt.split x a)) c)
set_option maxRecDepth 100000 in
set_option maxHeartbeats 2000000 in
theorem repl_spec {w : World} {A : Around} {E Q : Value → Shared → Prop} {s : Shared} {mean : ExcName → Option Value} {mg mb : Str → Option Value} {hG : Heap} {x a b c d : Str} {tx ta tb tc td : Tok}
   (G : Ok w mean mg mb hG s.heap) (R : Room A 3) (hx : x.length ≤ 100000) (ha : 1 ≤ a.length) (hb : b.length ≤ 2) (hc : 1 ≤ c.length) (hd : d.length ≤ 2)
   (h : ∀ h' t' tk', s.heap.StaysIn h' → Q (.str (replOf x a b c d) t') { s with heap := h', toks := tk' }) :
   wpAny (model Challenge.rw_qj0003_01.row.prog w) A (call (.ref 216) [.str x tx, .str a ta, .str b tb, .str c tc, .str d td]) Q E s := by
  refine wpAny_call (enterV (n := 2) [] (tupObj [.str a ta, .str b tb, .str c tc, .str d td] 0) (fun P => [(Str.ofString "text", .str x tx), (Str.ofString "pairs", .ref P)]) G R (by simp) (by k_is) (by k_is) ?bind rfl (fun a => locs rfl) rfl rfl rfl (by decide) ?_)
  case bind =>
    intro M A E Q hq
    with_unfolding_all exact wpAny_bind (m := alloc (tupObj [.str a ta, .str b tb, .str c tc, .str d td] 0)) (f := fun P => (pure [(Str.ofString "text", Value.str x tx), (Str.ofString "pairs", .ref P)] : Sem _)) (wpAny_alloc (wpAny_pure hq))
  intro g P L h₁ A' tk R' F N X T G' sb gs ltl ltP lt2
  have hA := R'.handled
  have st0 : s.heap.StaysIn g := sb.nil
  have hy : ∀ z : Str, 1 ≤ z.length → (z.length == 0) = false := fun z hz => by simp; omega
  have hl1 := glued_len2 x a b ha hb
  (repeat' ((fail_if_success (with_reducible show wpAny _ _ (exec (Stmt.For _ _ _ _ _) _) _ _ _)); (fail_if_success (with_reducible show wpAny _ _ (eval (Expr.ListComp _ _ _ _) _) _ _ _)); (fail_if_success (with_reducible show wpAny _ _ (eval (Expr.DictComp _ _ _ _ _) _) _ _ _)); (fail_if_success (with_reducible show wpAny _ _ (pyIter _) _ _ _)); (first | (k_unfold; (try dsimp only)) | walk1 | (dsimp only; walk1))))
  refine splitN1A (by k_asm) (by k_asm) (hy a ha) ?_ (by rw [sizeLine_eq]; omega)
  intro l1 h1 k1 e1 _ _ i1 F1 N1
  clear F N
  (repeat' ((fail_if_success (with_reducible show wpAny _ _ (exec (Stmt.For _ _ _ _ _) _) _ _ _)); (fail_if_success (with_reducible show wpAny _ _ (eval (Expr.ListComp _ _ _ _) _) _ _ _)); (fail_if_success (with_reducible show wpAny _ _ (eval (Expr.DictComp _ _ _ _ _) _) _ _ _)); (fail_if_success (with_reducible show wpAny _ _ (pyIter _) _ _ _)); (first | (k_unfold; (try dsimp only)) | walk1 | (dsimp only; walk1))))
  refine join_split_rule i1 e1 ha hb (by omega) ?_
  intro t2 k2
  (repeat' ((fail_if_success (with_reducible show wpAny _ _ (exec (Stmt.For _ _ _ _ _) _) _ _ _)); (fail_if_success (with_reducible show wpAny _ _ (eval (Expr.ListComp _ _ _ _) _) _ _ _)); (fail_if_success (with_reducible show wpAny _ _ (eval (Expr.DictComp _ _ _ _ _) _) _ _ _)); (fail_if_success (with_reducible show wpAny _ _ (pyIter _) _ _ _)); (first | (k_unfold; (try dsimp only)) | walk1 | (dsimp only; walk1))))
  with_unfolding_all refine slice_tuple_from (a := 2) (by assumption) (by assumption) (News.isTup (by assumption) (.tail _ (.head _))) (by decide) (by exact (show 2 ≤ 4 by decide)) ?_
  intro h9 F9 N9
  have N9 : News g L h9 ((_, tupObj [.str c tc, .str d td] 0) :: _) := N9
  k_sweep
  (repeat' ((fail_if_success (with_reducible show wpAny _ _ (exec (Stmt.For _ _ _ _ _) _) _ _ _)); (fail_if_success (with_reducible show wpAny _ _ (eval (Expr.ListComp _ _ _ _) _) _ _ _)); (fail_if_success (with_reducible show wpAny _ _ (eval (Expr.DictComp _ _ _ _ _) _) _ _ _)); (fail_if_success (with_reducible show wpAny _ _ (pyIter _) _ _ _)); (first | (k_unfold; (try dsimp only)) | walk1 | (dsimp only; walk1))))
  refine splitN1A (by k_asm) (by k_asm) (hy c hc) ?_ (by rw [sizeLine_eq]; omega)
  intro l3 h3 k3 e3 _ _ i3 F3 N3
  k_sweep
  (repeat' ((fail_if_success (with_reducible show wpAny _ _ (exec (Stmt.For _ _ _ _ _) _) _ _ _)); (fail_if_success (with_reducible show wpAny _ _ (eval (Expr.ListComp _ _ _ _) _) _ _ _)); (fail_if_success (with_reducible show wpAny _ _ (eval (Expr.DictComp _ _ _ _ _) _) _ _ _)); (fail_if_success (with_reducible show wpAny _ _ (pyIter _) _ _ _)); (first | (k_unfold; (try dsimp only)) | walk1 | (dsimp only; walk1))))
  refine join_split_rule i3 e3 hc hd (by omega) ?_
  intro t4 k4
  (repeat' ((fail_if_success (with_reducible show wpAny _ _ (exec (Stmt.For _ _ _ _ _) _) _ _ _)); (fail_if_success (with_reducible show wpAny _ _ (eval (Expr.ListComp _ _ _ _) _) _ _ _)); (fail_if_success (with_reducible show wpAny _ _ (eval (Expr.DictComp _ _ _ _ _) _) _ _ _)); (fail_if_success (with_reducible show wpAny _ _ (pyIter _) _ _ _)); (first | (k_unfold; (try dsimp only)) | walk1 | (dsimp only; walk1))))
  with_unfolding_all refine slice_tuple_from (a := 2) (by assumption) (by assumption) (News.isTup (by assumption) (.tail _ (.head _))) (by decide) (by exact (show 2 ≤ 2 by decide)) ?_
  intro h9 F9 N9
  have N9 : News g L h9 ((_, tupObj [] 0) :: _) := N9
  k_sweep
  (repeat' ((fail_if_success (with_reducible show wpAny _ _ (exec (Stmt.For _ _ _ _ _) _) _ _ _)); (fail_if_success (with_reducible show wpAny _ _ (eval (Expr.ListComp _ _ _ _) _) _ _ _)); (fail_if_success (with_reducible show wpAny _ _ (eval (Expr.DictComp _ _ _ _ _) _) _ _ _)); (fail_if_success (with_reducible show wpAny _ _ (pyIter _) _ _ _)); (first | (k_unfold; (try dsimp only)) | walk1 | (dsimp only; walk1))))
  exact h _ _ _ (fun b o e => Fr.keep (by k_asm) _ _ (st0 b o e))
end
section
open Rx
def SdIs (x y z : Str) : Prop := match Txt.split (Txt.strip x) (Str.ofString "\n") with
  | [a] => y = a ∧ z = Str.ofString ""
  | a :: _ :: r => y = a ∧ z = Builtin.Str.glued (Str.ofString "\n") r
  | [] => False
theorem rstrip_nil : Txt.rstrip (Str.ofString "") = Str.ofString "" := by decide +kernel
set_option maxRecDepth 100000 in
set_option maxHeartbeats 2000000 in
theorem sdoc_spec {w : World} {A : Around} {E Q : Value → Shared → Prop} {s : Shared} {mean : ExcName → Option Value} {mg mb : Str → Option Value} {hG : Heap} {x : Str} {tx : Tok}
   (G : Ok w mean mg mb hG s.heap) (R : Room A 3) (hx : x.length ≤ 1000000) (hb : ∀ y, (Txt.split (Txt.strip x) (Str.ofString "\n"))[1]? = some y → y = Str.ofString "") (hb0 : Txt.split (Txt.strip x) (Str.ofString "\n") ≠ [])
   (h : ∀ a h' t1 t2 tk' y z, SdIs x y z → s.heap.StaysIn h' → s.heap.get? a = none → h'.get? a = some (tupObj [.str y t1, .str z t2] 0) → Q (.ref a) { s with heap := h', toks := tk' }) :
   wpAny (model Challenge.rw_qj0003_01.row.prog w) A (call (.ref 209) [.str x tx]) Q E s := by
  refine wpAny_call (enter0 (n := 2) (binds := [(Str.ofString "doc", .str x tx)]) G R (by k_is) (by k_is) (BindsTo.of_eq rfl) (locs rfl) rfl rfl rfl (by decide) ?_)
  intro L h₁ A' R' F N X T
  have hA := R'.handled
  have hb1 : ∀ l : List (Str × Tok), l.map (·.1) = Txt.split (Txt.strip x) (Str.ofString "\n") → ∀ y, (l.map (·.1))[Int.toNat 1]? = some y → y = Str.ofString "" := fun l e y hy => hb y (e ▸ hy)
  have hne : ∀ l : List (Str × Tok), l.map (·.1) = Txt.split (Txt.strip x) (Str.ofString "\n") → l ≠ [] := fun l e q => hb0 (by rw [← e, q]; rfl)
  (repeat' ((fail_if_success (with_reducible show wpAny _ _ (exec (Stmt.For _ _ _ _ _) _) _ _ _)); (fail_if_success (with_reducible show wpAny _ _ (eval (Expr.ListComp _ _ _ _) _) _ _ _)); (fail_if_success (with_reducible show wpAny _ _ (eval (Expr.DictComp _ _ _ _ _) _) _ _ _)); (fail_if_success (with_reducible show wpAny _ _ (pyIter _) _ _ _)); (first | (k_unfold; (try dsimp only)) | walk1 | (dsimp only; walk1))))
  · rename List.map _ _ = Txt.split _ _ => he
    rename _[_]? = some _ => hy0
    rename News s.heap L _ _ => N3
    rename (_ : Int) = 1 => hl1
    rename List (Str × Tok) => l0
    have e3 := N3 _ (.head _)
    refine h _ _ _ _ _ _ _ ?_ (Fr.keep (by k_asm)) e3.2.2 e3.1
    unfold SdIs
    rw [← he]
    match l0, hl1, hy0 with
    | [p], _, hy0 => simp at hy0; exact ⟨hy0.symm, rfl⟩
    | [], hl1, _ => simp at hl1
    | _ :: _ :: _, hl1, _ => simp at hl1; omega
  · rename List.map _ _ = Txt.split _ _ => he
    rename _[_]? = some _ => hy1
    rename List (Str × Tok) => l0
    have he' : ∀ _ : Unit, l0.map (·.1) = Txt.split (Txt.strip x) (Str.ofString "\n") := fun _ => he
    have hy1' : ∀ _ : Unit, ∃ y, (l0.map (·.1))[Int.toNat 1]? = some y := fun _ => ⟨_, hy1⟩
    have hy9 := hb1 _ he _ hy1
    subst hy9
    refine SC.rstrip ?_ (by decide)
    intro t' k'
    rw [rstrip_nil]
    (repeat' ((fail_if_success (with_reducible show wpAny _ _ (exec (Stmt.For _ _ _ _ _) _) _ _ _)); (fail_if_success (with_reducible show wpAny _ _ (eval (Expr.ListComp _ _ _ _) _) _ _ _)); (fail_if_success (with_reducible show wpAny _ _ (eval (Expr.DictComp _ _ _ _ _) _) _ _ _)); (fail_if_success (with_reducible show wpAny _ _ (pyIter _) _ _ _)); (first | (k_unfold; (try dsimp only)) | walk1 | (dsimp only; walk1))))
    rename News s.heap L _ _ => N3
    rename _[Int.toNat 0]? = some _ => hy0
    have e3 := (N3 _ (.head _)).1
    have hsum := split_sum (Txt.strip x) (Str.ofString "\n") (by decide) 1
    have hss : (Txt.strip x).length ≤ x.length := by assumption
    refine join_rule (l := l0.drop 2) ⟨_, e3, rfl, 0, ?_⟩ ?_ ?_
    · rw [show slicePick (strValues l0).toArray (some 2) none none = _ from slicePick_from' _ 2]
      simp [strValues, List.map_drop]
    · rw [List.map_drop]
      refine Nat.le_trans (sum_drop _ 2) ?_
      have e2 : (l0.map fun p => p.1.length + (Str.ofString "\n").length) = (Txt.split (Txt.strip x) (Str.ofString "\n")).map fun p => p.length + 1 := by rw [← he' (), List.map_map]; rfl
      rw [e2, sizeLine_eq]
      omega
    intro t6 tk6
    (repeat' ((fail_if_success (with_reducible show wpAny _ _ (exec (Stmt.For _ _ _ _ _) _) _ _ _)); (fail_if_success (with_reducible show wpAny _ _ (eval (Expr.ListComp _ _ _ _) _) _ _ _)); (fail_if_success (with_reducible show wpAny _ _ (eval (Expr.DictComp _ _ _ _ _) _) _ _ _)); (fail_if_success (with_reducible show wpAny _ _ (pyIter _) _ _ _)); (first | (k_unfold; (try dsimp only)) | walk1 | (dsimp only; walk1))))
    rename News s.heap L _ _ => N4
    have e4 := N4 _ (.head _)
    refine h _ _ _ _ _ _ _ ?_ (Fr.keep (by k_asm)) e4.2.2 e4.1
    unfold SdIs
    rw [← he' ()]
    match l0, hy0, hy1' () with
    | p :: q :: r, hy0, _ => simp at hy0; exact ⟨hy0.symm, by simp⟩
    | [p], _, hy1 => simp at hy1
    | [], _, hy1 => simp at hy1
  · exfalso
    rename List.map _ _ = Txt.split _ _ => he
    rename List (Str × Tok) => l0
    have h0 := hne _ he
    have h1 : (l0.length : Int) ≠ 1 := by assumption
    have h2 : ¬ 2 ≤ (l0.length : Int) := by assumption
    have h3 : 0 < l0.length := List.length_pos_iff.mpr h0
    omega
end
section
set_option maxRecDepth 100000
open PySem.NumText PySem.W.KIN

/-- the text of an int -/
def tx (n : Int) : Str := Str.ofString (toString n)

theorem tx_nat (m : Nat) : (tx (m : Int)).cps.toList = (Nat.toDigits 10 m).map Char.toNat := signs_num m
theorem tx_neg (m : Nat) : (tx (-((m + 1 : Nat) : Int))).cps.toList = 45 :: (Nat.toDigits 10 (m + 1)).map Char.toNat := by
  unfold tx
  rw [signs_ofString]
  show (toString (Int.negSucc m)).toList.map Char.toNat = _
  show (("-" ++ Nat.repr (m + 1) : String)).toList.map Char.toNat = _
  rw [String.toList_append, Nat.toList_repr]
  rfl
theorem digs_all (m : Nat) : AllDigits ((Nat.toDigits 10 m).map Char.toNat) := by
  intro c hc
  obtain ⟨ch, hch, e⟩ := List.mem_map.mp hc
  have r := digit_range (Nat.isDigit_of_mem_toDigits (by decide) (by decide) hch)
  rw [← e]
  exact r
theorem digs_ne (m : Nat) : (Nat.toDigits 10 m).map Char.toNat ≠ [] := by
  intro e
  have h := toDigits_len_ge 10 m
  rw [List.map_eq_nil_iff.mp e] at h
  exact absurd h (by decide)
/-- the shape of an int's text -/
theorem tx_shape (n : Int) : ∃ cs, AllDigits cs ∧ cs ≠ [] ∧ (((tx n).cps.toList = cs ∧ n = ((digitsVal cs : Nat) : Int)) ∨ ((tx n).cps.toList = 45 :: cs ∧ n = -((digitsVal cs : Nat) : Int))) := by
  by_cases h : 0 ≤ n
  · obtain ⟨m, rfl⟩ := Int.eq_ofNat_of_zero_le h
    exact ⟨_, digs_all m, digs_ne m, .inl ⟨tx_nat m, by rw [val_back]⟩⟩
  · obtain ⟨m, rfl⟩ : ∃ m : Nat, n = -((m + 1 : Nat) : Int) := ⟨(-n).toNat - 1, by omega⟩
    exact ⟨_, digs_all (m + 1), digs_ne (m + 1), .inr ⟨tx_neg m, by rw [val_back]⟩⟩
theorem tx_signs (n : Int) : ∀ c ∈ (tx n).cps.toList, c = 45 ∨ (48 ≤ c ∧ c ≤ 57) := by
  obtain ⟨cs, hd, _, h⟩ := tx_shape n
  intro c hc
  rcases h with ⟨e, _⟩ | ⟨e, _⟩
  · rw [e] at hc; exact .inr (hd c hc)
  · rw [e] at hc
    rcases List.mem_cons.mp hc with q | q
    · exact .inl q
    · exact .inr (hd c q)
theorem tx_int {n : Int} (hl : (tx n).length ≤ 640) : PySem.intText? (tx n) = some n := by
  obtain ⟨cs, hd, hne, h⟩ := tx_shape n
  rcases h with ⟨e, en⟩ | ⟨e, en⟩
  · have := intText_digits (x := tx n) (by rw [e]; exact hd) (by rw [e]; exact hne) (Nat.le_trans hl (by decide))
    rw [this, e, ← en]
  · rw [intText_neg e hd hne (Nat.le_trans hl (by decide)), ← en]
/-- an int that is not too long -/
def Bd (n : Int) : Prop := n.natAbs < 10 ^ 100
theorem tx_len {n : Int} (h : Bd n) : (tx n).length ≤ 101 := by
  by_cases h0 : 0 ≤ n
  · exact Nat.le_trans (toString_length_le h0 (k := 100) (by decide) (by unfold Bd at h; omega)) (by decide)
  · obtain ⟨m, rfl⟩ : ∃ m : Nat, n = -((m + 1 : Nat) : Int) := ⟨(-n).toNat - 1, by omega⟩
    have h1 := toString_length_le (v := ((m + 1 : Nat) : Int)) (by omega) (k := 100) (by decide) (by unfold Bd at h; omega)
    have e1 : (tx ((m + 1 : Nat) : Int)).length = (Nat.toDigits 10 (m + 1)).length := by
      have := congrArg List.length (tx_nat (m + 1))
      rw [List.length_map] at this
      simpa [Str.length] using this
    have e2 : (tx (-((m + 1 : Nat) : Int))).length = (Nat.toDigits 10 (m + 1)).length + 1 := by
      have := congrArg List.length (tx_neg m)
      rw [List.length_cons, List.length_map] at this
      simpa [Str.length] using this
    have h1 : (tx ((m + 1 : Nat) : Int)).length ≤ 100 := h1
    omega
theorem Bd.log {n : Int} (h : Bd n) : n.natAbs.log2 < 1920 := shown (N := 10 ^ 100) (by unfold Bd at h; omega) (by unfold Bd at h; omega) (by decide +kernel)
theorem tx_plain (n : Int) : Rx.Plain (tx n) := fun c hc => by
  rcases tx_signs n c (Array.mem_toList_iff.mpr hc) with rfl | h
  · decide
  · omega
theorem tx_ok {n : Int} (h : Bd n) : Rx.TxOk (tx n) := ⟨tx_plain n, Nat.le_trans (tx_len h) (by decide)⟩
section
variable {prog : Program} {w : World} {A : Around} {E : Value → Shared → Prop} {s : Shared} {Q : Value → Shared → Prop} {t : Tok} {n : Int}
theorem int_call (h : Bd n) (hq : Q (.int n s.toks) { s with toks := s.toks + 1 }) : wpAny (model prog w) A (call (.type "int") [.str (tx n) t]) Q E s :=
  KIN.call_text (tx_int (Nat.le_trans (tx_len h) (by decide))) (Nat.le_trans (tx_len h) (by decide)) hq
theorem str_call (h : Bd n) (hq : Q (.str (tx n) s.toks) { s with toks := s.toks + 1 }) : wpAny (model prog w) A (call (.type "str") [.int n t]) Q E s :=
  P.str_of_int h.log hq
end
end
section
open Rx
/-- a list of names and worths, as it stands in the table -/
def txs (ps : List (Str × Int)) : List (Str × Str) := ps.map fun p => (p.1, tx p.2)
def same (nm : Str) (p : Str × Int) : Bool := Txt.lower p.1 == Txt.lower nm
def layOf (ps : List (Str × Int)) (nm : Str) (v : Int) : List (Str × Int) := match ps.find? (same nm) with
  | none => ps ++ [(nm, v)]
  | some p => (ps.filter fun q => !same nm q) ++ [(nm, (1 + p.2) * (1 + v) - 1)]
def Sm (n : Int) : Prop := n.natAbs < 10 ^ 45
theorem Sm.bd {n : Int} (h : Sm n) : Bd n := Nat.lt_trans h (by decide)
theorem Sm.mul {m n : Int} (h : Sm m) (k : Sm n) : ((1 + m) * (1 + n)).natAbs < 10 ^ 91 := by
  unfold Sm at h k
  rw [Int.natAbs_mul]
  have h1 : (1 + m).natAbs ≤ 10 ^ 45 := by omega
  have h2 : (1 + n).natAbs ≤ 10 ^ 45 := by omega
  exact Nat.lt_of_le_of_lt (Nat.mul_le_mul h1 h2) (by decide)
theorem Sm.bd2 {m n : Int} (h : Sm m) (k : Sm n) : Bd ((1 + m) * (1 + n) - 1) := by
  have := Sm.mul h k
  unfold Bd
  have e : (10:Nat) ^ 91 + 1 < 10 ^ 100 := by decide
  generalize (1 + m) * (1 + n) = z at *
  omega
theorem Bd.mulOk {m n : Int} (h : Bd m) (k : Bd n) : IntMulOk m n := by
  have h1 := h.log
  have h2 := k.log
  have b1 : Builtin.Int.intBits m ≤ 1920 := by unfold Builtin.Int.intBits; split <;> omega
  have b2 : Builtin.Int.intBits n ≤ 1920 := by unfold Builtin.Int.intBits; split <;> omega
  exact mulOk_of_bits b1 b2 (by decide)
theorem Sm.succ {m : Int} (h : Sm m) : Bd (1 + m) := by
  unfold Bd; unfold Sm at h
  have : (10 : Nat) ^ 45 + 1 < 10 ^ 100 := by decide
  omega
theorem getIs_txs {ps : List (Str × Int)} {nm : Str} {v : Value} (h : GetIs (txs ps) nm v) : (v = .none ∧ ps.find? (same nm) = none) ∨ ∃ p t, p ∈ ps ∧ ps.find? (same nm) = some p ∧ v = .str (tx p.2) t := by
  unfold GetIs txs at h
  rw [List.find?_map] at h
  have e : ((fun p : Str × Str => Txt.lower p.1 == Txt.lower nm) ∘ fun p : Str × Int => (p.1, tx p.2)) = same nm := rfl
  rw [e] at h
  cases hc : ps.find? (same nm) with
  | none => rw [hc] at h; exact .inl ⟨h, rfl⟩
  | some p => rw [hc] at h; exact .inr ⟨p, h.elim fun t e => ⟨t, List.mem_of_find?_eq_some hc, rfl, e⟩⟩
theorem txs_filter (ps : List (Str × Int)) (nm : Str) : (txs ps).filter (fun p => Txt.lower p.1 != Txt.lower nm) = txs (ps.filter fun q => !same nm q) := by
  unfold txs; rw [List.filter_map]; rfl
set_option maxRecDepth 100000 in
set_option maxHeartbeats 2000000 in
theorem lay_spec {w : World} {A : Around} {E Q : Value → Shared → Prop} {s : Shared} {mean : ExcName → Option Value} {mg mb : Str → Option Value} {hG : Heap} {l x : Addr} {nm : Str} {v : Int} {t tv : Tok} {as : List Addr} {ps : List (Str × Int)} {nl : Nat}
   (G : Ok w mean mg mb hG s.heap) (R : Room A 11) (H : HdAt s.heap x l) (HL : s.heap.get? l = some (lstObj (as.map .ref) nl)) (hGl : hG.get? l = none) (HP : PairsAt s.heap as (txs ps)) (hn : NmOk nm) (hv : Sm v) (hps : ∀ p ∈ ps, p.1.length ≤ 100 ∧ Sm p.2) (hsz : ps.length + ps.length < sizeLine)
   (h : ∀ as' nl' h' tk', StaysBut [l] s.heap h' → h'.get? l = some (lstObj (as'.map .ref) nl') → PairsAt h' as' (txs (layOf ps nm v)) → Q .none { s with heap := h', toks := tk' }) :
   wpAny (model Challenge.rw_qj0003_01.row.prog w) A (call (.ref 230) [.ref x, .str nm t, .int v tv]) Q E s := by
  obtain ⟨dx, hs, tkx, n, I⟩ := H
  refine wpAny_call (enterN (n := 10) [(l, lstObj (as.map .ref) nl)] (binds := [(Str.ofString "table", .ref x), (Str.ofString "name", .str nm t), (Str.ofString "v", .int v tv)]) G R ?own (by k_is) (by k_is) ?bind (locs rfl) rfl rfl rfl (by decide) ?_)
  case own =>
    intro p hp
    rcases List.mem_singleton.mp hp with rfl
    exact ⟨HL, hGl⟩
  case bind => exact BindsTo.of_eq rfl
  intro g L h₁ A' R' F N X T G' sb gs ltl
  have hA := R'.handled
  have I' := InstAt.but I HL sb
  have HP' := PairsAt.but HL sb HP
  have hlL : l < L := ltl _ (.head _)
  have hps2 : ∀ p ∈ txs ps, p.1.length ≤ 100 := by
    intro p hp
    obtain ⟨q, hq, rfl⟩ := List.mem_map.mp hp
    exact (hps q hq).1
  have hlen : (txs ps).length = ps.length := List.length_map _
  clear I
  (repeat' ((fail_if_success (with_reducible show wpAny _ _ (exec (Stmt.For _ _ _ _ _) _) _ _ _)); (fail_if_success (with_reducible show wpAny _ _ (eval (Expr.ListComp _ _ _ _) _) _ _ _)); (fail_if_success (with_reducible show wpAny _ _ (eval (Expr.DictComp _ _ _ _ _) _) _ _ _)); (fail_if_success (with_reducible show wpAny _ _ (pyIter _) _ _ _)); (first | (k_unfold; (try dsimp only)) | walk1 | (dsimp only; walk1))))
  have hll := (N _ (.head _)).1
  refine get_spec (G'.keep F.keep) (R'.le (by decide)) ⟨_, _, _, _, InstAt.on I' F.keep⟩ ⟨_, hll⟩ (HP'.on F.keep) hn hps2 ?_
  intro old h2 tk2 st2 hold
  have F2 := Fr.on F st2
  have N2 := News.on N st2
  clear F N
  rcases getIs_txs hold with ⟨rfl, hf⟩ | ⟨p, t2, hpm, hf, rfl⟩
  · (repeat' ((fail_if_success (with_reducible show wpAny _ _ (exec (Stmt.For _ _ _ _ _) _) _ _ _)); (fail_if_success (with_reducible show wpAny _ _ (eval (Expr.ListComp _ _ _ _) _) _ _ _)); (fail_if_success (with_reducible show wpAny _ _ (eval (Expr.DictComp _ _ _ _ _) _) _ _ _)); (fail_if_success (with_reducible show wpAny _ _ (pyIter _) _ _ _)); (first | (k_unfold; (try dsimp only)) | walk1 | (dsimp only; walk1))))
    refine str_call hv.bd ?_
    (repeat' ((fail_if_success (with_reducible show wpAny _ _ (exec (Stmt.For _ _ _ _ _) _) _ _ _)); (fail_if_success (with_reducible show wpAny _ _ (eval (Expr.ListComp _ _ _ _) _) _ _ _)); (fail_if_success (with_reducible show wpAny _ _ (eval (Expr.DictComp _ _ _ _ _) _) _ _ _)); (fail_if_success (with_reducible show wpAny _ _ (pyIter _) _ _ _)); (first | (k_unfold; (try dsimp only)) | walk1 | (dsimp only; walk1))))
    rename Fr g L _ _ => F3
    rename News g L _ _ => N3
    have hll := (N3 _ (.head _)).1
    refine addh_spec (G'.keep F3.keep) (R'.le (by decide)) ⟨_, _, _, _, InstAt.on I' F3.keep⟩ hll hGl hn.self (tx_ok hv.bd) (by have := HP.length; omega) ?_
    intro a nl4 h4 tk4 sb4 e4 hpa
    dsimp only at sb4
    have hlL' : l ≠ L := Nat.ne_of_lt hlL
    have hgl := (N3 _ (.head _)).2.2
    have F4 := Fr.onBut F3 (adr := [l]) (fun a ha => by rw [List.mem_singleton.mp ha]; exact ⟨hlL', hgl⟩) sb4
    have N4 : News g L h4 [(l, lstObj (List.map Value.ref (as ++ [a])) nl4)] := News.cons News.nil e4 hlL' hgl
    clear F3 N3
    (repeat' ((fail_if_success (with_reducible show wpAny _ _ (exec (Stmt.For _ _ _ _ _) _) _ _ _)); (fail_if_success (with_reducible show wpAny _ _ (eval (Expr.ListComp _ _ _ _) _) _ _ _)); (fail_if_success (with_reducible show wpAny _ _ (eval (Expr.DictComp _ _ _ _ _) _) _ _ _)); (fail_if_success (with_reducible show wpAny _ _ (pyIter _) _ _ _)); (first | (k_unfold; (try dsimp only)) | walk1 | (dsimp only; walk1))))
    refine h _ nl4 h4 _ (fun b o nb e => F4.keep _ _ (sb b o nb e)) e4 ?_
    unfold layOf; rw [hf]; unfold txs; rw [List.map_append]
    exact (HP'.on F4.keep).snoc hpa
  · have hpz := (hps p hpm).2
    (repeat' ((fail_if_success (with_reducible show wpAny _ _ (exec (Stmt.For _ _ _ _ _) _) _ _ _)); (fail_if_success (with_reducible show wpAny _ _ (eval (Expr.ListComp _ _ _ _) _) _ _ _)); (fail_if_success (with_reducible show wpAny _ _ (eval (Expr.DictComp _ _ _ _ _) _) _ _ _)); (fail_if_success (with_reducible show wpAny _ _ (pyIter _) _ _ _)); (first | (k_unfold; (try dsimp only)) | walk1 | (dsimp only; walk1))))
    refine int_call hpz.bd ?_
    (repeat' ((fail_if_success (with_reducible show wpAny _ _ (exec (Stmt.For _ _ _ _ _) _) _ _ _)); (fail_if_success (with_reducible show wpAny _ _ (eval (Expr.ListComp _ _ _ _) _) _ _ _)); (fail_if_success (with_reducible show wpAny _ _ (eval (Expr.DictComp _ _ _ _ _) _) _ _ _)); (fail_if_success (with_reducible show wpAny _ _ (pyIter _) _ _ _)); (first | (k_unfold; (try dsimp only)) | walk1 | (dsimp only; walk1))))
    refine PyProof.Rows.mul_int ?_ ?_
    rotate_left
    · exact Bd.mulOk hpz.succ hv.succ
    (repeat' ((fail_if_success (with_reducible show wpAny _ _ (exec (Stmt.For _ _ _ _ _) _) _ _ _)); (fail_if_success (with_reducible show wpAny _ _ (eval (Expr.ListComp _ _ _ _) _) _ _ _)); (fail_if_success (with_reducible show wpAny _ _ (eval (Expr.DictComp _ _ _ _ _) _) _ _ _)); (fail_if_success (with_reducible show wpAny _ _ (pyIter _) _ _ _)); (first | (k_unfold; (try dsimp only)) | walk1 | (dsimp only; walk1))))
    refine str_call (Sm.bd2 hpz hv) ?_
    (repeat' ((fail_if_success (with_reducible show wpAny _ _ (exec (Stmt.For _ _ _ _ _) _) _ _ _)); (fail_if_success (with_reducible show wpAny _ _ (eval (Expr.ListComp _ _ _ _) _) _ _ _)); (fail_if_success (with_reducible show wpAny _ _ (eval (Expr.DictComp _ _ _ _ _) _) _ _ _)); (fail_if_success (with_reducible show wpAny _ _ (pyIter _) _ _ _)); (first | (k_unfold; (try dsimp only)) | walk1 | (dsimp only; walk1))))
    rename Fr g L _ _ => F3
    rename News g L _ _ => N3
    have hll := (N3 _ (.head _)).1
    refine set_spec (G'.keep F3.keep) (R'.le (by decide)) ⟨_, _, _, _, InstAt.on I' F3.keep⟩ hll hGl (HP'.on F3.keep) hn (tx_ok (Sm.bd2 hpz hv)) hps2 (by rw [hlen]; exact hsz) ?_
    intro as4 nl4 h4 tk4 sb4 e4 hp4
    dsimp only at sb4
    have hlL' : l ≠ L := Nat.ne_of_lt hlL
    have hgl := (N3 _ (.head _)).2.2
    have F4 := Fr.onBut F3 (adr := [l]) (fun a ha => by rw [List.mem_singleton.mp ha]; exact ⟨hlL', hgl⟩) sb4
    have N4 : News g L h4 [(l, lstObj (List.map Value.ref as4) nl4)] := News.cons News.nil e4 hlL' hgl
    clear F3 N3
    (repeat' ((fail_if_success (with_reducible show wpAny _ _ (exec (Stmt.For _ _ _ _ _) _) _ _ _)); (fail_if_success (with_reducible show wpAny _ _ (eval (Expr.ListComp _ _ _ _) _) _ _ _)); (fail_if_success (with_reducible show wpAny _ _ (eval (Expr.DictComp _ _ _ _ _) _) _ _ _)); (fail_if_success (with_reducible show wpAny _ _ (pyIter _) _ _ _)); (first | (k_unfold; (try dsimp only)) | walk1 | (dsimp only; walk1))))
    refine h _ nl4 h4 _ (fun b o nb e => F4.keep _ _ (sb b o nb e)) e4 ?_
    rw [txs_filter] at hp4
    unfold layOf; rw [hf]; unfold txs at hp4 ⊢; rw [List.map_append]
    exact hp4
end
section
set_option maxRecDepth 100000
theorem intKey {prog : Program} {w : World} {k : Int} {key : Value} (h : (intKind prog w).is k key = true) : ∃ t, key = .int k t := by
  cases key <;> simp [intKind, Value.isInt] at h
  exact ⟨_, by rw [h]⟩
/-- pairs of a number of places and a count -/
inductive CntIs : List (Int × Value) → List (Int × Int) → Prop
  | nil : CntIs [] []
  | cons {k c t kvs cs} : CntIs kvs cs → CntIs ((k, .int c t) :: kvs) ((k, c) :: cs)
theorem CntIs.keys : ∀ {kvs cs}, CntIs kvs cs → kvs.map (·.1) = cs.map (·.1)
  | _, _, .nil => rfl
  | _, _, .cons r => by simp [r.keys]
theorem CntIs.length : ∀ {kvs cs}, CntIs kvs cs → kvs.length = cs.length
  | _, _, .nil => rfl
  | _, _, .cons r => by simp [r.length]
theorem CntIs.get : ∀ {kvs cs} (i : Nat) {k v}, CntIs kvs cs → kvs[i]? = some (k, v) → ∃ c t, v = .int c t ∧ cs[i]? = some (k, c)
  | _, _, 0, _, _, .cons r, h => by
    simp at h
    obtain ⟨rfl, rfl⟩ := h
    exact ⟨_, _, rfl, rfl⟩
  | _, _, i + 1, _, _, .cons r, h => r.get i (by simpa using h)
/-- the count of so many places -/
def cntAt (cs : List (Int × Int)) (k : Int) : Option Int := (cs.find? fun kv => kv.1 = k).map (·.2)
def putC (cs : List (Int × Int)) (k c : Int) : List (Int × Int) := if cs.any (fun kv => kv.1 = k) then cs.map (fun kv => if kv.1 = k then (kv.1, c) else kv) else cs ++ [(k, c)]
theorem CntIs.at : ∀ {kvs cs} (k : Int), CntIs kvs cs → (cntAt cs k = none ∧ valueAt kvs k = none) ∨ ∃ c t, cntAt cs k = some c ∧ valueAt kvs k = some (.int c t)
  | _, _, _, .nil => .inl ⟨rfl, rfl⟩
  | _, _, k, .cons (k := k') (c := c) (t := t) r => by
    unfold cntAt valueAt
    by_cases e : k' = k
    · exact .inr ⟨c, t, by simp [e], by simp [e]⟩
    · rcases r.at k with ⟨a, b⟩ | ⟨c', t', a, b⟩
      · refine .inl ⟨?_, ?_⟩
        · rw [List.find?_cons_of_neg (by simpa using e)]; exact a
        · rw [List.find?_cons_of_neg (by simpa using e)]; exact b
      · refine .inr ⟨c', t', ?_, ?_⟩
        · rw [List.find?_cons_of_neg (by simpa using e)]; exact a
        · rw [List.find?_cons_of_neg (by simpa using e)]; exact b
theorem CntIs.snoc : ∀ {kvs cs} {k c t}, CntIs kvs cs → CntIs (kvs ++ [(k, .int c t)]) (cs ++ [(k, c)])
  | _, _, _, _, _, .nil => .cons .nil
  | _, _, _, _, _, .cons r => .cons r.snoc
theorem CntIs.any : ∀ {kvs cs} (k : Int), CntIs kvs cs → kvs.any (fun kv => kv.1 = k) = cs.any (fun kv => kv.1 = k)
  | _, _, _, .nil => rfl
  | _, _, k, .cons r => by simp only [List.any_cons, r.any k]
theorem CntIs.over : ∀ {kvs cs} {k c t}, CntIs kvs cs → CntIs (kvs.map (fun kv => if kv.1 = k then (kv.1, .int c t) else kv)) (cs.map (fun kv => if kv.1 = k then (kv.1, c) else kv))
  | _, _, _, _, _, .nil => .nil
  | _, _, k, c, t, .cons (k := k') r => by
    simp only [List.map_cons]
    by_cases e : k' = k
    · simp only [e, if_true]; exact .cons r.over
    · simp only [e, if_false]; exact .cons r.over
theorem CntIs.put {kvs cs} {k c t} (r : CntIs kvs cs) : CntIs (stored kvs k (.int c t)) (putC cs k c) := by
  unfold stored putC
  rw [r.any k]
  split
  · exact r.over
  · exact r.snoc
def bump (cs : List (Int × Int)) (p : Int × Int) : List (Int × Int) := match cntAt cs p.1 with
  | none => putC cs p.1 p.2
  | some z => putC cs p.1 (z + p.2)
def addOf (t s : List (Int × Int)) : List (Int × Int) := s.foldl bump t
/-- a dict of counts stands at d -/
def CntAt (prog : Program) (w : World) (h : Heap) (d : Addr) (cs : List (Int × Int)) : Prop := ∃ kvs, h.DictOf (intKind prog w) d kvs ∧ CntIs kvs cs
theorem CntAt.keep {prog : Program} {w : World} {h h' : Heap} {d : Addr} {cs : List (Int × Int)} (H : CntAt prog w h d cs) (st : h.StaysIn h') : CntAt prog w h' d cs := by
  obtain ⟨kvs, D, C⟩ := H
  obtain ⟨ep, D'⟩ := D.dictAt
  exact ⟨kvs, (D'.keep st).dictOf, C⟩
end
section
set_option maxRecDepth 100000
theorem lookup_ne {y x : Str} {v : Value} {r : List (Str × Value)} (h : ¬y = x) : List.lookup y ((x, v) :: r) = List.lookup y r := by
  rw [List.lookup_cons, beq_eq_false_iff_ne.mpr h]
theorem lookup_no {y : Str} : List.lookup y ([] : List (Str × Value)) = none := rfl
def EqOn (m m' : Str → Option Value) : List Str → Prop
  | [] => True
  | x :: xs => m x = m' x ∧ EqOn m m' xs
theorem EqOn.mem {m m' : Str → Option Value} : ∀ {xs : List Str} {x : Str}, EqOn m m' xs → x ∈ xs → m x = m' x
  | _ :: _, _, ⟨e, r⟩, hx => by
    rcases List.mem_cons.mp hx with rfl | hx
    · exact e
    · exact r.mem hx
/-- two maps of names are one -/
theorem names_ext {m m' : Str → Option Value} (xs : List Str) (h : EqOn m m' xs) (hn : ∀ y, xs.contains y = false → m y = m' y) : m = m' := by
  funext y
  cases q : xs.contains y with
  | false => exact hn y q
  | true => exact h.mem (by simpa using q)
section
variable {prog : Program} {w : World} {K : Type} [DecidableEq K] {knd : KeyKind prog w K} {A : Around} {E : Value → Shared → Prop} {s : Shared} {env : Env} {h₀ : Heap} {L : Addr} {m : Str → Option Value} {news : List (Addr × Obj)} {body : List Stmt} {d : Addr} {kvs : List (K × Value)}
theorem new_at {I : Addr} (F : Fr h₀ L s.heap m) (hI : s.heap.get? I = none) : I ≠ L ∧ h₀.get? I = none := by
  refine ⟨fun q => ?_, ?_⟩
  · obtain ⟨o, _, _, e, _⟩ := F.ns
    rw [← q, hI] at e; cases e
  · cases q : h₀.get? I with
    | none => rfl
    | some o => rw [F.keep _ _ q] at hI; cases hI
/-- for .. in d.items(), d below the frame -/
theorem loop_items0 {Q : Flow → Shared → Prop} {V : Addr} {ep : Nat} {elts : List Expr} {x1 : Nat} {pos : Pos} (hh : A.handled = none) (hv : s.heap.IsItemsView V d) (hm : h₀.DictAt knd d kvs ep) (hL : env.locals = L) (F : Fr h₀ L s.heap m)
    (J : Nat → (Str → Option Value) → Heap → Prop) (hJf : ∀ wr i m h h', J i m h → (∀ b ∈ wr, s.heap.get? b = none) → StaysBut wr h h' → J i m h') (hj : ∀ h, s.heap.StaysIn h → J 0 m h)
    (turn : ∀ i k vv key a I io m₁ h tk, kvs[i]? = some (k, vv) → knd.is k key = true → h.get? a = some (tupObj [key, vv] 0) → J i m₁ h → s.heap.get? I = none → Fr h₀ L h m₁ → News h₀ L h [(I, io)] →
      wpAny (model prog w) A (assign (.Tuple elts x1 pos) env (.ref a)) (fun _ s₂ => wpAny (model prog w) A (execs body env) (FEnd h₀ L s [(I, io)] (J (i + 1)) Q) (fun _ _ => False) s₂) (fun _ _ => False) { s with heap := h, toks := tk })
    (fin : ∀ m₁ h tk, J kvs.length m₁ h → Fr h₀ L h m₁ → Q .next { s with heap := h, toks := tk })
    (hE : PassesOwn (model prog w) A env E) :
    wpAny (model prog w) A (pyIter (.ref V)) (fun it s₂ => codeAny (model prog w) A (.forLoop (.Tuple elts x1 pos) it body [] env) (fun r s' => match r with | .ok f => Q f s' | .error e => cameBackBy (model prog w) A env E e s') s₂) E s := by
  have hI : s.heap.get? s.heap.objs.size = none := Heap.get?_none_of_le (Nat.le_refl _)
  have hn := new_at F hI
  have hms := hm.keep F.keep
  refine wpAny_pyIter_items hv hms ?_
  have st : ∀ o : Obj, s.heap.StaysIn (s.heap.push o) := fun o b o' e => Heap.get?_push_of_some _ e
  refine loop_it (It.items (knd := knd) hh hm hn.2) hL J ⟨⟨.none, .none, Heap.get?_push_size _ rfl⟩, hms.push _⟩ (Fr.on F (st _)) (fun b hb' => by rw [List.mem_singleton.mp hb']; exact hn) (fun _ _ _ _ x => x) (fun i m h h' j nt sb => hJf _ i m h h' j (fun b hb' => by rw [List.mem_singleton.mp hb']; exact hI) sb) (hj _ (st _)) ?_ (fun m₁ h tk j F' => fin m₁ h tk j F') hE
  intro i v m₁ h tk ino hi hP j hino F' N'
  obtain ⟨⟨I, io⟩, rfl, hI2⟩ := List.map_eq_singleton_iff.mp hino
  obtain ⟨k, vv, key, a, hx, hkey, rfl, ha⟩ := hP
  exact turn i k vv key a I io m₁ h tk hx hkey ha j (by rw [show I = _ from hI2]; exact hI) F' N'
/-- for .. in d.values(), d below the frame -/
theorem loop_values0 {Q : Flow → Shared → Prop} {V : Addr} {ep : Nat} {x : Str} {pos : Pos} (hh : A.handled = none) (hv : s.heap.IsValuesView V d) (hm : h₀.DictAt knd d kvs ep) (hL : env.locals = L) (F : Fr h₀ L s.heap m)
    (J : Nat → (Str → Option Value) → Heap → Prop) (hJf : ∀ wr i m h h', J i m h → (∀ b ∈ wr, s.heap.get? b = none) → StaysBut wr h h' → J i m h') (hj : ∀ h, s.heap.StaysIn h → J 0 m h)
    (turn : ∀ i k vv I io m₁ h tk, kvs[i]? = some (k, vv) → J i m₁ h → s.heap.get? I = none → Fr h₀ L h m₁ → News h₀ L h [(I, io)] →
      wpAny (model prog w) A (assign (.Name x pos) env vv) (fun _ s₂ => wpAny (model prog w) A (execs body env) (FEnd h₀ L s [(I, io)] (J (i + 1)) Q) (fun _ _ => False) s₂) (fun _ _ => False) { s with heap := h, toks := tk })
    (fin : ∀ m₁ h tk, J kvs.length m₁ h → Fr h₀ L h m₁ → Q .next { s with heap := h, toks := tk })
    (hE : PassesOwn (model prog w) A env E) :
    wpAny (model prog w) A (pyIter (.ref V)) (fun it s₂ => codeAny (model prog w) A (.forLoop (.Name x pos) it body [] env) (fun r s' => match r with | .ok f => Q f s' | .error e => cameBackBy (model prog w) A env E e s') s₂) E s := by
  have hI : s.heap.get? s.heap.objs.size = none := Heap.get?_none_of_le (Nat.le_refl _)
  have hn := new_at F hI
  have hms := hm.keep F.keep
  refine wpAny_pyIter_values hv hms ?_
  have st : ∀ o : Obj, s.heap.StaysIn (s.heap.push o) := fun o b o' e => Heap.get?_push_of_some _ e
  refine loop_it (It.values (knd := knd) hh hm hn.2) hL J ⟨⟨_, Heap.get?_push_size _ rfl, rfl, rfl⟩, hms.push _⟩ (Fr.on F (st _)) (fun b hb' => by rw [List.mem_singleton.mp hb']; exact hn) (fun _ _ _ _ x => x) (fun i m h h' j nt sb => hJf _ i m h h' j (fun b hb' => by rw [List.mem_singleton.mp hb']; exact hI) sb) (hj _ (st _)) ?_ (fun m₁ h tk j F' => fin m₁ h tk j F') hE
  intro i v m₁ h tk ino hi hP j hino F' N'
  obtain ⟨⟨I, io⟩, rfl, hI2⟩ := List.map_eq_singleton_iff.mp hino
  obtain ⟨k, hx⟩ := hP
  exact turn i k v I io m₁ h tk hx j (by rw [show I = _ from hI2]; exact hI) F' N'
end
end
section
open Rx
def sumC (cs : List (Int × Int)) : Int := (cs.map (·.2)).sum
theorem sumC_step {cs : List (Int × Int)} {i : Nat} {p : Int × Int} (h : cs[i]? = some p) : sumC (cs.take (i + 1)) = sumC (cs.take i) + p.2 := by
  unfold sumC
  rw [List.take_add_one, h]; simp
set_option maxRecDepth 100000 in
set_option maxHeartbeats 2000000 in
theorem count_spec {w : World} {A : Around} {E Q : Value → Shared → Prop} {s : Shared} {mean : ExcName → Option Value} {mg mb : Str → Option Value} {hG : Heap} {d : Addr} {cs : List (Int × Int)}
   (G : Ok w mean mg mb hG s.heap) (R : Room A 3) (D : CntAt Challenge.rw_qj0003_01.row.prog w s.heap d cs) (lo : (d == sysModules) = false)
   (h : ∀ h' t tk, s.heap.StaysIn h' → Q (.int (sumC cs) t) { s with heap := h', toks := tk }) :
   wpAny (model Challenge.rw_qj0003_01.row.prog w) A (call (.ref 202) [.ref d]) Q E s := by
  refine wpAny_call (enter0 (n := 2) (binds := [(Str.ofString "callers", .ref d)]) G R (by k_is) (by k_is) (BindsTo.of_eq rfl) (locs rfl) rfl rfl rfl (by decide) ?_)
  intro L h₁ A' R' F N X T
  have hA := R'.handled
  obtain ⟨kvs, D, C⟩ := D
  obtain ⟨ep, D⟩ := D.dictAt
  (repeat' ((fail_if_success (with_reducible show wpAny _ _ (exec (Stmt.For _ _ _ _ _) _) _ _ _)); (fail_if_success (with_reducible show wpAny _ _ (eval (Expr.ListComp _ _ _ _) _) _ _ _)); (fail_if_success (with_reducible show wpAny _ _ (eval (Expr.DictComp _ _ _ _ _) _) _ _ _)); (fail_if_success (with_reducible show wpAny _ _ (pyIter _) _ _ _)); (first | (k_unfold; (try dsimp only)) | walk1 | (dsimp only; walk1))))
  refine wpAny_For ?_
  (repeat' ((fail_if_success (with_reducible show wpAny _ _ (exec (Stmt.For _ _ _ _ _) _) _ _ _)); (fail_if_success (with_reducible show wpAny _ _ (eval (Expr.ListComp _ _ _ _) _) _ _ _)); (fail_if_success (with_reducible show wpAny _ _ (eval (Expr.DictComp _ _ _ _ _) _) _ _ _)); (fail_if_success (with_reducible show wpAny _ _ (pyIter _) _ _ _)); (first | (k_unfold; (try dsimp only)) | walk1 | (dsimp only; walk1))))
  rename Fr s.heap L _ _ => F2
  rename News s.heap L _ _ => N2
  have D2 := D.keep F2.keep
  refine getM_dict (knd := intKind _ _) PySem.F.slot_dict_values PySem.F.type_dict_values D2.dictOf ?_
  (repeat' ((fail_if_success (with_reducible show wpAny _ _ (exec (Stmt.For _ _ _ _ _) _) _ _ _)); (fail_if_success (with_reducible show wpAny _ _ (eval (Expr.ListComp _ _ _ _) _) _ _ _)); (fail_if_success (with_reducible show wpAny _ _ (eval (Expr.DictComp _ _ _ _ _) _) _ _ _)); (fail_if_success (with_reducible show wpAny _ _ (pyIter _) _ _ _)); (first | (k_unfold; (try dsimp only)) | walk1 | (dsimp only; walk1))))
  dsimp only
  refine values_call (knd := intKind _ _) lo F2 N2 D2.dictOf ?_
  intro V h3 F3 N3 st3
  clear F2 N2
  have hV3 := (N3 _ (.head _)).1
  refine loop_values0 (knd := intKind _ _) hA ⟨_, hV3, rfl, rfl⟩ D (L := L) rfl F3 (fun i m _ => ∃ t o, m = fun y => if y = Str.ofString "calls" then o else if y = Str.ofString "nc" then some (.int (sumC (cs.take i)) t) else if y = Str.ofString "callers" then some (.ref d) else none) (fun _ _ _ _ _ j _ _ => j) ?j0 ?turn ?fin PassesOwn.never
  case j0 => exact fun _ _ => ⟨_, none, names_ext [Str.ofString "calls", Str.ofString "nc", Str.ofString "callers"] (by (((repeat (refine And.intro rfl ?_)); exact trivial))) (by ((intro y hy; (simp only [List.contains_cons, List.contains_nil, Bool.or_false, Bool.or_eq_false_iff, beq_eq_false_iff_ne, ne_eq] at hy); simp [hy, lookup_ne, lookup_no])))⟩
  case turn =>
    rintro i k vv I io m₁ h tk hx ⟨t, o, rfl⟩ hI F4 N4
    obtain ⟨c, t2, rfl, hc⟩ := C.get i hx
    clear F3 N3
    (repeat' ((fail_if_success (with_reducible show wpAny _ _ (exec (Stmt.For _ _ _ _ _) _) _ _ _)); (fail_if_success (with_reducible show wpAny _ _ (eval (Expr.ListComp _ _ _ _) _) _ _ _)); (fail_if_success (with_reducible show wpAny _ _ (eval (Expr.DictComp _ _ _ _ _) _) _ _ _)); (fail_if_success (with_reducible show wpAny _ _ (pyIter _) _ _ _)); (first | (k_unfold; (try dsimp only)) | walk1 | (dsimp only; walk1))))
    exact ⟨_, _, _, rfl, by k_asm, by k_asm, _, _, by rw [sumC_step hc]; exact names_ext [Str.ofString "calls", Str.ofString "nc", Str.ofString "callers"] (by (((repeat (refine And.intro rfl ?_)); exact trivial))) (by ((intro y hy; (simp only [List.contains_cons, List.contains_nil, Bool.or_false, Bool.or_eq_false_iff, beq_eq_false_iff_ne, ne_eq] at hy); simp [hy, lookup_ne, lookup_no])))⟩
  case fin =>
    rintro m₁ h4 tk ⟨t, o, rfl⟩ F4
    have N4 := News.nil (h₀ := s.heap) (L := L) (h := h4)
    clear F3 N3
    (repeat' ((fail_if_success (with_reducible show wpAny _ _ (exec (Stmt.For _ _ _ _ _) _) _ _ _)); (fail_if_success (with_reducible show wpAny _ _ (eval (Expr.ListComp _ _ _ _) _) _ _ _)); (fail_if_success (with_reducible show wpAny _ _ (eval (Expr.DictComp _ _ _ _ _) _) _ _ _)); (fail_if_success (with_reducible show wpAny _ _ (pyIter _) _ _ _)); (first | (k_unfold; (try dsimp only)) | walk1 | (dsimp only; walk1))))
    rw [List.take_of_length_le (by rw [C.length]; exact Nat.le_refl _)]
    exact h _ _ _ (Fr.keep (by k_asm))
end
section
open Rx
theorem emptyIs {prog : Program} {w : World} : Obj.IsDictOf (intKind prog w) emptyDict [] := ⟨#[], 0, ⟨rfl, rfl, rfl⟩, rfl, fun e he => by simp at he, .nil, .nil⟩
theorem putC_take {c1 : List (Int × Int)} (hn : (c1.map (·.1)).Nodup) {i : Nat} {k c : Int} (h : c1[i]? = some (k, c)) : putC (c1.take i) k c = c1.take (i + 1) := by
  have hno : (c1.take i).any (fun kv => kv.1 = k) = false := by
    rw [List.any_eq_false]
    intro p hp
    simp only [decide_eq_true_eq]
    intro e
    obtain ⟨hl, e1⟩ := List.getElem?_eq_some_iff.mp h
    rw [← List.take_append_drop i c1, List.drop_eq_getElem_cons hl, e1, List.map_append, List.nodup_append] at hn
    exact hn.2.2 p.1 (List.mem_map_of_mem hp) k (by simp) e
  unfold putC
  rw [hno, List.take_add_one, h]
  simp
theorem putC_length (cs : List (Int × Int)) (k c : Int) : (putC cs k c).length ≤ cs.length + 1 := by
  unfold putC; split <;> simp
theorem bump_length (cs : List (Int × Int)) (p : Int × Int) : (bump cs p).length ≤ cs.length + 1 := by
  unfold bump; split <;> exact putC_length _ _ _
theorem addOf_length (a b : List (Int × Int)) : (addOf a b).length ≤ a.length + b.length := by
  unfold addOf
  induction b generalizing a with
  | nil => simp
  | cons p r ih =>
    have h1 := ih (bump a p)
    have h2 := bump_length a p
    simp only [List.foldl_cons, List.length_cons]
    omega
theorem addOf_step {a b : List (Int × Int)} {i : Nat} {p : Int × Int} (h : b[i]? = some p) : addOf a (b.take (i + 1)) = bump (addOf a (b.take i)) p := by
  unfold addOf
  rw [List.take_add_one, h, List.foldl_append]; rfl
/-- the names of add_callers -/
@[simp] def acN (d1 d2 nd : Addr) (u1 u2 : Option Value) (y : Str) : Option Value := if y = Str.ofString "caller" then u1 else if y = Str.ofString "func" then u2 else if y = Str.ofString "new_callers" then some (.ref nd) else if y = Str.ofString "source" then some (.ref d2) else if y = Str.ofString "target" then some (.ref d1) else none
abbrev acL : List Str := [Str.ofString "caller", Str.ofString "func", Str.ofString "new_callers", Str.ofString "source", Str.ofString "target"]
/-- the new dict of counts -/
def NewC (prog : Program) (w : World) (h₀ : Heap) (L : Addr) (h : Heap) (nd : Addr) (cs : List (Int × Int)) : Prop := ∃ o kvs, News h₀ L h [(nd, o)] ∧ o.IsDictOf (intKind prog w) kvs ∧ CntIs kvs cs
theorem NewC.but {prog : Program} {w : World} {h₀ : Heap} {L : Addr} {h h' : Heap} {nd : Addr} {cs : List (Int × Int)} {wr : List Addr} {hs : Heap} {o : Obj} (H : NewC prog w h₀ L h nd cs) (hn : hs.get? nd = some o) (hw : ∀ b ∈ wr, hs.get? b = none) (sb : StaysBut wr h h') : NewC prog w h₀ L h' nd cs := by
  obtain ⟨o', kvs, N, D, C⟩ := H
  refine ⟨o', kvs, News.onBut N (fun p hp q => ?_) sb, D, C⟩
  rw [List.mem_singleton.mp hp] at q
  rw [hw _ q] at hn; cases hn
set_option maxRecDepth 100000 in
set_option maxHeartbeats 2000000 in
theorem addc_spec {w : World} {A : Around} {E Q : Value → Shared → Prop} {s : Shared} {mean : ExcName → Option Value} {mg mb : Str → Option Value} {hG : Heap} {d1 d2 : Addr} {c1 c2 : List (Int × Int)}
   (G : Ok w mean mg mb hG s.heap) (R : Room A 3) (D1 : CntAt Challenge.rw_qj0003_01.row.prog w s.heap d1 c1) (lo1 : (d1 == sysModules) = false) (D2 : CntAt Challenge.rw_qj0003_01.row.prog w s.heap d2 c2) (lo2 : (d2 == sysModules) = false) (hsz : c1.length + c2.length ≤ sizeLine)
   (h : ∀ d h' tk, s.heap.StaysIn h' → s.heap.get? d = none → CntAt Challenge.rw_qj0003_01.row.prog w h' d (addOf c1 c2) → Q (.ref d) { s with heap := h', toks := tk }) :
   wpAny (model Challenge.rw_qj0003_01.row.prog w) A (call (.ref 195) [.ref d1, .ref d2]) Q E s := by
  refine wpAny_call (enter0 (n := 2) (binds := [(Str.ofString "target", .ref d1), (Str.ofString "source", .ref d2)]) G R (by k_is) (by k_is) (BindsTo.of_eq rfl) (locs rfl) rfl rfl rfl (by decide) ?_)
  intro L h₁ A' R' F N X T
  have hA := R'.handled
  obtain ⟨k1, D1, C1⟩ := D1
  obtain ⟨ep1, D1⟩ := D1.dictAt
  obtain ⟨k2, D2, C2⟩ := D2
  have n1 : (c1.map (·.1)).Nodup := by rw [← C1.keys]; exact D1.nodup
  obtain ⟨ep2, D2⟩ := D2.dictAt
  (repeat' ((fail_if_success (with_reducible show wpAny _ _ (exec (Stmt.For _ _ _ _ _) _) _ _ _)); (fail_if_success (with_reducible show wpAny _ _ (eval (Expr.ListComp _ _ _ _) _) _ _ _)); (fail_if_success (with_reducible show wpAny _ _ (eval (Expr.DictComp _ _ _ _ _) _) _ _ _)); (fail_if_success (with_reducible show wpAny _ _ (pyIter _) _ _ _)); (first | (k_unfold; (try dsimp only)) | walk1 | (dsimp only; walk1))))
  refine wpAny_For ?_
  (repeat' ((fail_if_success (with_reducible show wpAny _ _ (exec (Stmt.For _ _ _ _ _) _) _ _ _)); (fail_if_success (with_reducible show wpAny _ _ (eval (Expr.ListComp _ _ _ _) _) _ _ _)); (fail_if_success (with_reducible show wpAny _ _ (eval (Expr.DictComp _ _ _ _ _) _) _ _ _)); (fail_if_success (with_reducible show wpAny _ _ (pyIter _) _ _ _)); (first | (k_unfold; (try dsimp only)) | walk1 | (dsimp only; walk1))))
  rename_i nd hz0 o2 lond hs2 fs2 hi2 fi2 l12 hz F2 N2
  have hnew : s.heap.get? nd = none := (N2 _ (.head _)).2.2
  have ond : hz.get? nd = some o2 := (N2 _ (.head _)).1
  clear fs2 fi2 hs2
  refine getM_dict (knd := intKind _ _) PySem.F.slot_dict_items PySem.F.type_dict_items (D1.keep F2.keep).dictOf ?_
  (repeat' ((fail_if_success (with_reducible show wpAny _ _ (exec (Stmt.For _ _ _ _ _) _) _ _ _)); (fail_if_success (with_reducible show wpAny _ _ (eval (Expr.ListComp _ _ _ _) _) _ _ _)); (fail_if_success (with_reducible show wpAny _ _ (eval (Expr.DictComp _ _ _ _ _) _) _ _ _)); (fail_if_success (with_reducible show wpAny _ _ (pyIter _) _ _ _)); (first | (k_unfold; (try dsimp only)) | walk1 | (dsimp only; walk1))))
  dsimp only
  refine items_call (knd := intKind _ _) lo1 F2 N2 (D1.keep F2.keep).dictOf ?_
  intro V h3 F3 N3 st3
  clear F2 N2
  have hV3 := (N3 _ (.head _)).1
  have ond3 : h3.get? nd = some o2 := (N3 _ (.tail _ (.head _))).1
  refine loop_items0 (knd := intKind _ _) hA ⟨_, hV3, rfl, rfl⟩ D1 (L := L) rfl F3 (fun i m h => ∃ u1 u2, m = acN d1 d2 nd u1 u2 ∧ NewC Challenge.rw_qj0003_01.row.prog w s.heap L h nd (c1.take i)) ?jf ?j0 ?turn ?fin PassesOwn.never
  case jf =>
    rintro wr i m h h' ⟨u1, u2, e, H⟩ hw sb
    exact ⟨u1, u2, e, H.but ond3 hw sb⟩
  case j0 =>
    intro hh st
    refine ⟨none, none, names_ext acL (by (((repeat (refine And.intro rfl ?_)); exact trivial))) (by ((intro y hy; (simp only [List.contains_cons, List.contains_nil, Bool.or_false, Bool.or_eq_false_iff, beq_eq_false_iff_ne, ne_eq] at hy); simp [hy, lookup_ne, lookup_no]))), ⟨o2, [], ?_, hi2, .nil⟩⟩
    exact News.on (fun p hp => N3 p (.tail _ hp)) st
  case turn =>
    rintro i k vv key a I io m₁ h tk hx hkey ha ⟨u1, u2, rfl, o4, kv4, N4', hi4, C4⟩ hI F4 N4
    obtain ⟨c, t2, rfl, hc⟩ := C1.get i hx
    obtain ⟨tk2, rfl⟩ := intKey hkey
    have N5 := News.app N4 N4'
    have ne : I ≠ nd := by rintro rfl; rw [hI] at ond3; cases ond3
    have hz4 : kv4.length ≤ sizeLine := by rw [C4.length, List.length_take]; omega
    have hia : IsTup h a #[.int k tk2, .int c t2] := ⟨_, ha, rfl, _, rfl⟩
    clear F3 N3 N4 N4'
    unfold acN at F4
    dsimp only [List.append, List.cons_append, List.nil_append] at N5
    (repeat' ((fail_if_success (with_reducible show wpAny _ _ (exec (Stmt.For _ _ _ _ _) _) _ _ _)); (fail_if_success (with_reducible show wpAny _ _ (eval (Expr.ListComp _ _ _ _) _) _ _ _)); (fail_if_success (with_reducible show wpAny _ _ (eval (Expr.DictComp _ _ _ _ _) _) _ _ _)); (fail_if_success (with_reducible show wpAny _ _ (pyIter _) _ _ _)); (first | (k_unfold; (try dsimp only)) | walk1 | (dsimp only; walk1))))
    ((refine' kda_set (knd := PySem.intKind _ _) ?F ?N ?U ?d (intKind_is _ _ _ _) ?z ?_; (case F => k_asm); (case N => k_asm); (case U => (refine' UpdF.tail ?ua ?ub; (case ua => dsimp only; assumption); (case ub => refine' UpdF.head ?uc; (case uc => intro p hp; exact absurd hp List.not_mem_nil)))); (case d => assumption); (case z => assumption)); intro hs6 o6 F6 N6 hi6; (try dsimp only at N6); (try k_sweep))
    (repeat' ((fail_if_success (with_reducible show wpAny _ _ (exec (Stmt.For _ _ _ _ _) _) _ _ _)); (fail_if_success (with_reducible show wpAny _ _ (eval (Expr.ListComp _ _ _ _) _) _ _ _)); (fail_if_success (with_reducible show wpAny _ _ (eval (Expr.DictComp _ _ _ _ _) _) _ _ _)); (fail_if_success (with_reducible show wpAny _ _ (pyIter _) _ _ _)); (first | (k_unfold; (try dsimp only)) | walk1 | (dsimp only; walk1))))
    refine ⟨_, _, _, rfl, F6, News.sub N6 (by simp), _, _, names_ext acL (by (((repeat (refine And.intro rfl ?_)); exact trivial))) (by ((intro y hy; (simp only [List.contains_cons, List.contains_nil, Bool.or_false, Bool.or_eq_false_iff, beq_eq_false_iff_ne, ne_eq] at hy); simp [hy, lookup_ne, lookup_no]))), o6, _, News.sub N6 (by simp), hi6, ?_⟩
    rw [← putC_take n1 hc]
    exact C4.put
  case fin =>
    rintro m₁ h4 tk ⟨u1, u2, rfl, o4, kv4, N4, hi4, C4⟩ F4
    clear F3 N3
    rw [List.take_of_length_le (by rw [C1.length]; exact Nat.le_refl _)] at C4
    unfold acN at F4
    (repeat' ((fail_if_success (with_reducible show wpAny _ _ (exec (Stmt.For _ _ _ _ _) _) _ _ _)); (fail_if_success (with_reducible show wpAny _ _ (eval (Expr.ListComp _ _ _ _) _) _ _ _)); (fail_if_success (with_reducible show wpAny _ _ (eval (Expr.DictComp _ _ _ _ _) _) _ _ _)); (fail_if_success (with_reducible show wpAny _ _ (pyIter _) _ _ _)); (first | (k_unfold; (try dsimp only)) | walk1 | (dsimp only; walk1))))
    refine wpAny_For ?_
    (repeat' ((fail_if_success (with_reducible show wpAny _ _ (exec (Stmt.For _ _ _ _ _) _) _ _ _)); (fail_if_success (with_reducible show wpAny _ _ (eval (Expr.ListComp _ _ _ _) _) _ _ _)); (fail_if_success (with_reducible show wpAny _ _ (eval (Expr.DictComp _ _ _ _ _) _) _ _ _)); (fail_if_success (with_reducible show wpAny _ _ (pyIter _) _ _ _)); (first | (k_unfold; (try dsimp only)) | walk1 | (dsimp only; walk1))))
    refine getM_dict (knd := intKind _ _) PySem.F.slot_dict_items PySem.F.type_dict_items (D2.keep F4.keep).dictOf ?_
    (repeat' ((fail_if_success (with_reducible show wpAny _ _ (exec (Stmt.For _ _ _ _ _) _) _ _ _)); (fail_if_success (with_reducible show wpAny _ _ (eval (Expr.ListComp _ _ _ _) _) _ _ _)); (fail_if_success (with_reducible show wpAny _ _ (eval (Expr.DictComp _ _ _ _ _) _) _ _ _)); (fail_if_success (with_reducible show wpAny _ _ (pyIter _) _ _ _)); (first | (k_unfold; (try dsimp only)) | walk1 | (dsimp only; walk1))))
    dsimp only
    refine items_call (knd := intKind _ _) lo2 F4 N4 (D2.keep F4.keep).dictOf ?_
    intro V5 h5 F5 N5 st5
    clear F4 N4
    have hV5 := (N5 _ (.head _)).1
    have ond5 : h5.get? nd = some o4 := (N5 _ (.tail _ (.head _))).1
    refine loop_items0 (knd := intKind _ _) hA ⟨_, hV5, rfl, rfl⟩ D2 (L := L) rfl F5 (fun i m h => ∃ u1 u2, m = acN d1 d2 nd u1 u2 ∧ NewC Challenge.rw_qj0003_01.row.prog w s.heap L h nd (addOf c1 (c2.take i))) ?jf ?j0 ?turn ?fin PassesOwn.never
    case jf =>
      rintro wr i m h h' ⟨u1, u2, e, H⟩ hw sb
      exact ⟨u1, u2, e, H.but ond5 hw sb⟩
    case j0 =>
      intro hh st
      refine ⟨u1, u2, names_ext acL (by (((repeat (refine And.intro rfl ?_)); exact trivial))) (by ((intro y hy; (simp only [List.contains_cons, List.contains_nil, Bool.or_false, Bool.or_eq_false_iff, beq_eq_false_iff_ne, ne_eq] at hy); simp [hy, lookup_ne, lookup_no]))), ⟨o4, kv4, ?_, hi4, C4⟩⟩
      exact News.on (fun p hp => N5 p (.tail _ hp)) st
    case turn =>
      clear hi4 C4
      rintro i k vv key a I io m₁ h tk hx hkey ha ⟨u1, u2, rfl, o4, kv4, N4', hi4, C4⟩ hI F4 N4
      obtain ⟨c, t2, rfl, hc⟩ := C2.get i hx
      obtain ⟨tk2, rfl⟩ := intKey hkey
      have N6 := News.app N4 N4'
      have ne : I ≠ nd := by rintro rfl; rw [hI] at ond5; cases ond5
      have hz4 : kv4.length ≤ sizeLine := by
        have := addOf_length c1 (c2.take i)
        rw [List.length_take] at this
        rw [C4.length]; omega
      have hia : IsTup h a #[.int k tk2, .int c t2] := ⟨_, ha, rfl, _, rfl⟩
      clear F5 N5 N4 N4'
      unfold acN at F4
      dsimp only [List.append, List.cons_append, List.nil_append] at N6
      (repeat' ((fail_if_success (with_reducible show wpAny _ _ (exec (Stmt.For _ _ _ _ _) _) _ _ _)); (fail_if_success (with_reducible show wpAny _ _ (eval (Expr.ListComp _ _ _ _) _) _ _ _)); (fail_if_success (with_reducible show wpAny _ _ (eval (Expr.DictComp _ _ _ _ _) _) _ _ _)); (fail_if_success (with_reducible show wpAny _ _ (pyIter _) _ _ _)); (first | (k_unfold; (try dsimp only)) | walk1 | (dsimp only; walk1))))
      rcases C4.at k with ⟨e1, e2⟩ | ⟨c', t', e1, e2⟩
      · have hb : (valueAt kv4 k).isSome = false := by rw [e2]; rfl
        (((refine' kda_in (knd := PySem.intKind _ _) ?N ?m ?d ?l (intKind_is _ _ _ _) _ ?b ?_; (case N => k_asm); (case m => k_mem); (case d => assumption); (case l => assumption); (case b => assumption))))
        (repeat' ((fail_if_success (with_reducible show wpAny _ _ (exec (Stmt.For _ _ _ _ _) _) _ _ _)); (fail_if_success (with_reducible show wpAny _ _ (eval (Expr.ListComp _ _ _ _) _) _ _ _)); (fail_if_success (with_reducible show wpAny _ _ (eval (Expr.DictComp _ _ _ _ _) _) _ _ _)); (fail_if_success (with_reducible show wpAny _ _ (pyIter _) _ _ _)); (first | (k_unfold; (try dsimp only)) | walk1 | (dsimp only; walk1))))
        ((refine' kda_set (knd := PySem.intKind _ _) ?F ?N ?U ?d (intKind_is _ _ _ _) ?z ?_; (case F => k_asm); (case N => k_asm); (case U => (refine' UpdF.tail ?ua ?ub; (case ua => dsimp only; assumption); (case ub => refine' UpdF.head ?uc; (case uc => intro p hp; exact absurd hp List.not_mem_nil)))); (case d => assumption); (case z => assumption)); intro hs6 o6 F6 N6 hi6; (try dsimp only at N6); (try k_sweep))
        (repeat' ((fail_if_success (with_reducible show wpAny _ _ (exec (Stmt.For _ _ _ _ _) _) _ _ _)); (fail_if_success (with_reducible show wpAny _ _ (eval (Expr.ListComp _ _ _ _) _) _ _ _)); (fail_if_success (with_reducible show wpAny _ _ (eval (Expr.DictComp _ _ _ _ _) _) _ _ _)); (fail_if_success (with_reducible show wpAny _ _ (pyIter _) _ _ _)); (first | (k_unfold; (try dsimp only)) | walk1 | (dsimp only; walk1))))
        refine ⟨_, _, _, rfl, F6, News.sub N6 (by simp), _, _, names_ext acL (by (((repeat (refine And.intro rfl ?_)); exact trivial))) (by ((intro y hy; (simp only [List.contains_cons, List.contains_nil, Bool.or_false, Bool.or_eq_false_iff, beq_eq_false_iff_ne, ne_eq] at hy); simp [hy, lookup_ne, lookup_no]))), o6, _, News.sub N6 (by simp), hi6, ?_⟩
        rw [addOf_step hc]
        unfold bump
        rw [e1]
        exact C4.put
      · have hb : (valueAt kv4 k).isSome = true := by rw [e2]; rfl
        (((refine' kda_in (knd := PySem.intKind _ _) ?N ?m ?d ?l (intKind_is _ _ _ _) _ ?b ?_; (case N => k_asm); (case m => k_mem); (case d => assumption); (case l => assumption); (case b => assumption))))
        (repeat' ((fail_if_success (with_reducible show wpAny _ _ (exec (Stmt.For _ _ _ _ _) _) _ _ _)); (fail_if_success (with_reducible show wpAny _ _ (eval (Expr.ListComp _ _ _ _) _) _ _ _)); (fail_if_success (with_reducible show wpAny _ _ (eval (Expr.DictComp _ _ _ _ _) _) _ _ _)); (fail_if_success (with_reducible show wpAny _ _ (pyIter _) _ _ _)); (first | (k_unfold; (try dsimp only)) | walk1 | (dsimp only; walk1))))
        (((refine' kdt_getItem (knd := PySem.intKind _ _) ?N ?m ?d (intKind_is _ _ _ _) ?b ?_; (case N => k_asm); (case m => k_mem); (case d => assumption); (case b => assumption))))
        (repeat' ((fail_if_success (with_reducible show wpAny _ _ (exec (Stmt.For _ _ _ _ _) _) _ _ _)); (fail_if_success (with_reducible show wpAny _ _ (eval (Expr.ListComp _ _ _ _) _) _ _ _)); (fail_if_success (with_reducible show wpAny _ _ (eval (Expr.DictComp _ _ _ _ _) _) _ _ _)); (fail_if_success (with_reducible show wpAny _ _ (pyIter _) _ _ _)); (first | (k_unfold; (try dsimp only)) | walk1 | (dsimp only; walk1))))
        ((refine' kda_set (knd := PySem.intKind _ _) ?F ?N ?U ?d (intKind_is _ _ _ _) ?z ?_; (case F => k_asm); (case N => k_asm); (case U => (refine' UpdF.tail ?ua ?ub; (case ua => dsimp only; assumption); (case ub => refine' UpdF.head ?uc; (case uc => intro p hp; exact absurd hp List.not_mem_nil)))); (case d => assumption); (case z => assumption)); intro hs6 o6 F6 N6 hi6; (try dsimp only at N6); (try k_sweep))
        (repeat' ((fail_if_success (with_reducible show wpAny _ _ (exec (Stmt.For _ _ _ _ _) _) _ _ _)); (fail_if_success (with_reducible show wpAny _ _ (eval (Expr.ListComp _ _ _ _) _) _ _ _)); (fail_if_success (with_reducible show wpAny _ _ (eval (Expr.DictComp _ _ _ _ _) _) _ _ _)); (fail_if_success (with_reducible show wpAny _ _ (pyIter _) _ _ _)); (first | (k_unfold; (try dsimp only)) | walk1 | (dsimp only; walk1))))
        refine ⟨_, _, _, rfl, F6, News.sub N6 (by simp), _, _, names_ext acL (by (((repeat (refine And.intro rfl ?_)); exact trivial))) (by ((intro y hy; (simp only [List.contains_cons, List.contains_nil, Bool.or_false, Bool.or_eq_false_iff, beq_eq_false_iff_ne, ne_eq] at hy); simp [hy, lookup_ne, lookup_no]))), o6, _, News.sub N6 (by simp), hi6, ?_⟩
        rw [addOf_step hc]
        unfold bump
        rw [e1]
        exact C4.put
    case fin =>
      rintro m₁ h6 tk ⟨u1, u2, rfl, o6, kv6, N6, hi6, C6⟩ F6
      clear F5 N5
      rw [List.take_of_length_le (by rw [C2.length]; exact Nat.le_refl _)] at C6
      unfold acN at F6
      (repeat' ((fail_if_success (with_reducible show wpAny _ _ (exec (Stmt.For _ _ _ _ _) _) _ _ _)); (fail_if_success (with_reducible show wpAny _ _ (eval (Expr.ListComp _ _ _ _) _) _ _ _)); (fail_if_success (with_reducible show wpAny _ _ (eval (Expr.DictComp _ _ _ _ _) _) _ _ _)); (fail_if_success (with_reducible show wpAny _ _ (pyIter _) _ _ _)); (first | (k_unfold; (try dsimp only)) | walk1 | (dsimp only; walk1))))
      exact h _ _ _ (Fr.keep (by k_asm)) hnew ⟨_, Heap.dictOf_iff.mpr ⟨_, (N6 _ (.head _)).1, hi6⟩, C6⟩
end
section
open Rx
/-- the tie of a number -/
def tieNames : List Str := [Str.ofString "ab", Str.ofString "ac", Str.ofString "ad", Str.ofString "bc", Str.ofString "bd", Str.ofString "cd"]
def tieNm (n : Int) : Str := tieNames.getD (n.fmod 6).toNat (Str.ofString "ab")
def tieGr (n : Int) : Bool := (n.fdiv 6).fmod 2 == 1
def tieV (n : Int) : Int := (n.fdiv 12 + 1000001).fmod 2000003 - 1000001
set_option maxRecDepth 100000 in
set_option maxHeartbeats 2000000 in
theorem tie_spec {w : World} {A : Around} {E Q : Value → Shared → Prop} {s : Shared} {mean : ExcName → Option Value} {mg mb : Str → Option Value} {hG : Heap} {n : Int} {t : Tok}
   (G : Ok w mean mg mb hG s.heap) (R : Room A 2)
   (h : ∀ tp h' tk t1 t2 np, s.heap.StaysIn h' → s.heap.get? tp = none → h'.get? tp = some (tupObj [.str (tieNm n) t1, .bool (tieGr n), .int (tieV n) t2] np) → Q (.ref tp) { s with heap := h', toks := tk }) :
   wpAny (model Challenge.rw_qj0003_01.row.prog w) A (call (.ref 223) [.int n t]) Q E s := by
  refine wpAny_call (enter0 (n := 1) (binds := [(Str.ofString "n", .int n t)]) G R (by k_is) (by k_is) (BindsTo.of_eq rfl) (locs rfl) rfl rfl rfl (by decide) ?_)
  intro L h₁ A' R' F N X T
  have hA := R'.handled
  (repeat' ((fail_if_success (with_reducible show wpAny _ _ (exec (Stmt.For _ _ _ _ _) _) _ _ _)); (fail_if_success (with_reducible show wpAny _ _ (eval (Expr.ListComp _ _ _ _) _) _ _ _)); (fail_if_success (with_reducible show wpAny _ _ (eval (Expr.DictComp _ _ _ _ _) _) _ _ _)); (fail_if_success (with_reducible show wpAny _ _ (pyIter _) _ _ _)); (first | (k_unfold; (try dsimp only)) | walk1 | (dsimp only; walk1))))
  all_goals
    rename Fr s.heap L _ _ => F9
    rename News s.heap L _ _ => N9
    have e9 := N9 _ (.head _)
    dsimp only at e9
    rename n.fmod 6 = _ => ke
    unfold tieNm at h
    rw [ke] at h
    exact h _ _ _ _ _ 0 F9.keep e9.2.2 e9.1
end
section
set_option maxRecDepth 100000
open StrLaws Builtin Builtin.Str
/-- the signs of a text -/
abbrev tl (x : Str) : List Nat := x.cps.toList
def jn (y : List Nat) : List (List Nat) → List Nat
  | [] => []
  | [p] => p
  | p :: q :: r => p ++ (y ++ jn y (q :: r))
theorem tl_ext {x y : Str} (h : tl x = tl y) : x = y := Str.ext' (Array.toList_inj.mp h)
theorem tl_app (x y : Str) : tl (x ++ y) = tl x ++ tl y := by simp only [tl, Str.cps_append, Array.toList_append]
theorem tl_join (y : Str) : ∀ rows : List Str, tl (Str.join y rows) = jn (tl y) (rows.map tl)
  | [] => rfl
  | [x] => rfl
  | x :: z :: r => by
    show tl (x ++ y ++ Str.join y (z :: r)) = tl x ++ (tl y ++ jn (tl y) (tl z :: r.map tl))
    rw [tl_app, tl_app, tl_join y (z :: r), List.append_assoc]; rfl
theorem tl_glued (y : Str) (rows : List Str) : tl (glued y rows) = jn (tl y) (rows.map tl) := by rw [glued_eq_join, tl_join]
theorem cut_inj {c : Nat} : ∀ {p q u v : List Nat}, c ∉ p → c ∉ q → p ++ c :: u = q ++ c :: v → p = q ∧ u = v
  | [], [], _, _, _, _, h => ⟨rfl, by simpa using h⟩
  | [], b :: q, _, _, _, hq, h => by simp at h; exact absurd (by rw [h.1]; simp) hq
  | a :: p, [], _, _, hp, _, h => by simp at h; exact absurd (by rw [h.1]; simp) hp
  | a :: p, b :: q, u, v, hp, hq, h => by
    simp only [List.cons_append, List.cons.injEq] at h
    obtain ⟨e1, e2⟩ := cut_inj (fun m => hp (.tail _ m)) (fun m => hq (.tail _ m)) h.2
    exact ⟨by rw [h.1, e1], e2⟩
theorem jn_inj (c : Nat) (y : List Nat) : ∀ ps qs : List (List Nat), ps ≠ [] → qs ≠ [] → (∀ p ∈ ps, c ∉ p) → (∀ q ∈ qs, c ∉ q) → jn (c :: y) ps = jn (c :: y) qs → ps = qs
  | [], _, h, _, _, _, _ => absurd rfl h
  | _, [], _, h, _, _, _ => absurd rfl h
  | [p], [q], _, _, _, _, h => by simpa [jn] using h
  | [p], q :: q' :: r, _, _, hp, _, h => by
    simp only [jn] at h
    exact absurd (by rw [h]; simp) (hp p (.head _))
  | p :: p' :: r, [q], _, _, _, hq, h => by
    simp only [jn] at h
    exact absurd (by rw [← h]; simp) (hq q (.head _))
  | p :: p' :: r, q :: q' :: r', _, _, hp, hq, h => by
    simp only [jn, List.cons_append] at h
    obtain ⟨e1, e2⟩ := cut_inj (hp p (.head _)) (hq q (.head _)) h
    have e3 := jn_inj c y (p' :: r) (q' :: r') (by simp) (by simp) (fun x m => hp x (.tail _ m)) (fun x m => hq x (.tail _ m)) (List.append_cancel_left e2)
    rw [e1, e3]
theorem split_ne (x y : Str) : Txt.split x y ≠ [] := by
  unfold Txt.split
  split
  · simp
  · split
    · simp
    · rw [partsBetween_eq]
      obtain ⟨p, r, e⟩ := partsFrom_ne x y.length 0 (occurrences x y 0 x.length (x.length + 1))
      rw [e]; simp
section
variable (x y : Str) (c : Nat) (hF : ∀ k, (tl x)[k]? = some c → At x y x.length k)
include hF
theorem part_freeG (a b : Nat) (hb : b ≤ x.length) (hn : ∀ k, a ≤ k → k < b → ¬ At x y x.length k) : c ∉ tl (strSub x a b) := by
  intro hm
  rw [tl, strSub_toList] at hm
  obtain ⟨j, hj⟩ := List.getElem?_of_mem hm
  have hlt : j < b - a := by
    have h1 : j < ((x.cps.toList.drop a).take (b - a)).length := (List.getElem?_eq_some_iff.mp hj).1
    simp at h1
    omega
  rw [List.getElem?_take_of_lt hlt, List.getElem?_drop] at hj
  exact hn (a + j) (by omega) (by omega) (hF _ hj)
theorem parts_freeG : ∀ (cuts : List Nat) (a f : Nat), ChainG x y x.length a cuts f → (∀ k, f ≤ k → ¬ At x y x.length k) → ∀ p ∈ partsFrom x y.length a cuts, c ∉ tl p
  | [], a, f, h, hn, p, hp => by
    have e : f = a := h
    subst e
    rw [List.mem_singleton.mp hp]
    exact part_freeG x y c hF f x.length (Nat.le_refl _) fun k h1 _ => hn k h1
  | d :: r, a, f, h, hn, p, hp => by
    rcases List.mem_cons.mp hp with rfl | hp'
    · exact part_freeG x y c hF a d (by have := h.2.1.1; omega) h.2.2.1
    · exact parts_freeG r _ f h.2.2.2 hn p hp'
theorem split_freeG (hw : 1 ≤ y.length) (hk : ¬ strKind x < strKind y) : ∀ p ∈ Txt.split x y, c ∉ tl p := by
  obtain ⟨f, hG, hn⟩ := occ_tight x y hw
  unfold Txt.split
  split
  · rename_i hc
    intro p hp
    rw [List.mem_singleton.mp hp]
    intro hm
    obtain ⟨j, hj⟩ := List.getElem?_of_mem hm
    have hA := hF j hj
    rw [Bool.or_eq_true, decide_eq_true_eq, decide_eq_true_eq] at hc
    rcases hc with h | h
    · have := hA.1; omega
    · exact absurd h hk
  · split
    · rename_i he
      intro p hp
      rw [List.mem_singleton.mp hp]
      have e0 : occurrences x y 0 x.length (x.length + 1) = [] := List.isEmpty_iff.mp he
      rw [e0] at hG
      have ef : f = 0 := hG
      subst ef
      rw [← sub_whole x]
      exact part_freeG x y c hF 0 x.length (Nat.le_refl _) fun k h1 _ => hn k h1
    · rw [partsBetween_eq]
      exact parts_freeG x y c hF _ 0 f hG hn
end
theorem kind_le {x y : Str} (hy : strKind y = 1) : ¬ strKind x < strKind y := by
  rw [hy]; unfold Builtin.Str.strKind; split
  · omega
  · split <;> omega
/-- what was joined is split again -/
theorem split_join {y : Str} {c : Nat} {yr : List Nat} (ey : tl y = c :: yr) (hy : strKind y = 1) (rows : List Str) (hne : rows ≠ []) (hr : ∀ p ∈ rows, c ∉ tl p) (hF : ∀ k, (tl (glued y rows))[k]? = some c → At (glued y rows) y (glued y rows).length k) :
    Txt.split (glued y rows) y = rows := by
  have hw : 1 ≤ y.length := by
    have := congrArg List.length ey
    simp [tl] at this
    show 1 ≤ y.cps.size
    omega
  have h1 := split_freeG _ y c hF hw (kind_le hy)
  have h2 : jn (c :: yr) ((Txt.split (glued y rows) y).map tl) = jn (c :: yr) (rows.map tl) := by
    rw [← ey, ← tl_join, ← tl_glued, join_split]
  have h3 := jn_inj c yr _ _ (by simp [split_ne]) (by simp [hne]) (by intro p hp; obtain ⟨q, hq, rfl⟩ := List.mem_map.mp hp; exact h1 q hq) (by intro p hp; obtain ⟨q, hq, rfl⟩ := List.mem_map.mp hp; exact hr q hq) h2
  exact (List.map_inj_right (fun a b e => tl_ext e)).mp h3
theorem at_one {x : Str} {c k : Nat} (h : (tl x)[k]? = some c) : At x ⟨#[c]⟩ x.length k := (subAt_one x c k).mpr h
/-- each c has d behind it -/
def Fol (c d : Nat) (x : List Nat) : Prop := ∀ k, x[k]? = some c → x[k + 1]? = some d
theorem fol_free {c d : Nat} {x : List Nat} (h : c ∉ x) : Fol c d x := fun k e => absurd (List.mem_of_getElem? e) h
theorem fol_app {c d : Nat} {p x : List Nat} (hp : c ∉ p) (hx : Fol c d x) : Fol c d (p ++ x) := by
  intro k e
  rw [List.getElem?_append] at e ⊢
  split at e
  · exact absurd (List.mem_of_getElem? e) hp
  · rename_i hk
    rw [if_neg (by omega)]
    have := hx _ e
    rw [show k + 1 - p.length = k - p.length + 1 by omega]; exact this
theorem fol_cons {c d : Nat} {x : List Nat} (hcd : c ≠ d) (hx : Fol c d x) : Fol c d (c :: d :: x) := by
  intro k e
  match k with
  | 0 => rfl
  | 1 => simp at e; exact absurd e.symm hcd
  | k + 2 => simpa using hx k (by simpa using e)
theorem fol_jn {c d : Nat} (hcd : c ≠ d) : ∀ rows : List (List Nat), (∀ p ∈ rows, c ∉ p) → Fol c d (jn [c, d] rows)
  | [], _ => fol_free (by simp [jn])
  | [p], h => fol_free (h p (.head _))
  | p :: q :: r, h => fol_app (h p (.head _)) (fol_cons hcd (fol_jn hcd (q :: r) fun x m => h x (.tail _ m)))
theorem at_two {x y : Str} {c d k : Nat} (ey : tl y = [c, d]) (h : Fol c d (tl x)) (e : (tl x)[k]? = some c) : At x y x.length k := by
  have e2 := h k e
  have hl : y.length = 2 := by
    have := congrArg List.length ey
    simpa [tl, Str.length] using this
  obtain ⟨h1, h1'⟩ := List.getElem?_eq_some_iff.mp e
  obtain ⟨h2, h2'⟩ := List.getElem?_eq_some_iff.mp e2
  have hn : (tl x).length = x.length := by simp [tl, Str.length]
  refine ⟨by omega, ?_⟩
  rw [subAt_eq, hl]
  show ((tl x).drop k).take 2 == tl y
  rw [ey, List.drop_eq_getElem_cons h1, List.drop_eq_getElem_cons h2, h1', h2']
  simp
theorem split_one {c : Nat} {y : Str} (ey : y = ⟨#[c]⟩) (hc : strKind y = 1) (rows : List Str) (hne : rows ≠ []) (hr : ∀ p ∈ rows, c ∉ tl p) : Txt.split (glued y rows) y = rows := by
  subst ey
  exact split_join (yr := []) rfl hc rows hne hr fun k h => at_one h
theorem split_two {c d : Nat} {y : Str} (ey : tl y = [c, d]) (hcd : c ≠ d) (hc : strKind y = 1) (rows : List Str) (hne : rows ≠ []) (hr : ∀ p ∈ rows, c ∉ tl p) : Txt.split (glued y rows) y = rows :=
  split_join ey hc rows hne hr fun k h => at_two ey (by rw [tl_glued, ey]; exact fol_jn hcd _ (by intro p hp; obtain ⟨q, hq, rfl⟩ := List.mem_map.mp hp; exact hr q hq)) h
end
section
set_option maxRecDepth 100000
open StrLaws Builtin Builtin.Str
theorem jn_map (f : Nat → Nat) (y : List Nat) : ∀ ps : List (List Nat), (jn y ps).map f = jn (y.map f) (ps.map (List.map f))
  | [] => rfl
  | [p] => rfl
  | p :: q :: r => by
    have ih := jn_map f y (q :: r)
    simp only [jn, List.map_append, List.map_cons] at ih ⊢
    rw [ih]
def subst1 (c d z : Nat) : Nat := if z = c then d else z
theorem map_free {c d : Nat} {p : List Nat} (h : c ∉ p) : p.map (subst1 c d) = p := by
  conv => rhs; rw [← List.map_id p]
  refine List.map_congr_left fun z hz => ?_
  unfold subst1
  rw [if_neg (by rintro rfl; exact h hz)]; rfl
/-- one sign for another -/
theorem repl_one (x : Str) (c d : Nat) : tl (glued ⟨#[d]⟩ (Txt.split x ⟨#[c]⟩)) = (tl x).map (subst1 c d) := by
  have h1 := split_free x c
  have h2 : tl x = jn [c] ((Txt.split x ⟨#[c]⟩).map tl) := by
    conv => lhs; rw [← join_split x ⟨#[c]⟩, tl_join]
  have h3 : ((Txt.split x ⟨#[c]⟩).map tl).map (List.map (subst1 c d)) = (Txt.split x ⟨#[c]⟩).map tl := by
    conv => rhs; rw [← List.map_id ((Txt.split x ⟨#[c]⟩).map tl)]
    refine List.map_congr_left fun p hp => ?_
    obtain ⟨q, hq, rfl⟩ := List.mem_map.mp hp
    exact map_free (h1 q hq)
  rw [h2, jn_map, tl_glued, h3]
  simp [subst1]
theorem tw_all {p : Nat → Bool} : ∀ (l : List Nat), (∀ c ∈ l, p c = true) → l.takeWhile p = l
  | [], _ => rfl
  | a :: r, h => by rw [List.takeWhile_cons, h a (.head _), tw_all r fun c m => h c (.tail _ m)]; rfl
theorem strip_all {x : Str} (h : ∀ c ∈ tl x, Unicode.isSpace c = true) : tl (Txt.strip x) = [] := by
  unfold Txt.strip
  rw [PyProof.Rows.stripBy_eq, tl, strSub_toList]
  have e : stripLo Unicode.isSpace true x = (tl x).length := by
    simp only [stripLo, if_true]
    rw [tw_all _ h]
  rw [e, List.drop_length, List.take_nil]
theorem strip_of {x : Str} {r w : List Nat} (e : tl x = r ++ w) (hw : ∀ c ∈ w, Unicode.isSpace c = true) (hr : r ≠ []) (h0 : ∀ c, r.head? = some c → Unicode.isSpace c = false) (h1 : ∀ c, r.getLast? = some c → Unicode.isSpace c = false) : tl (Txt.strip x) = r := by
  have hn : x.length = r.length + w.length := by
    have := congrArg List.length e
    simpa [tl, Str.length] using this
  unfold Txt.strip
  rw [PyProof.Rows.stripBy_eq, tl, strSub_toList]
  have e1 : stripLo Unicode.isSpace true x = 0 := by
    simp only [stripLo, if_true]
    rw [show x.cps.toList = r ++ w from e]
    match r, hr, h0 with
    | a :: r', _, h0 =>
      rw [List.cons_append, List.takeWhile_cons, h0 a rfl]; rfl
  have e2 : stripHi Unicode.isSpace true x 0 = r.length := by
    simp only [stripHi, if_true]
    rw [List.drop_zero, show x.cps.toList = r ++ w from e, List.reverse_append, List.takeWhile_append_of_pos (by intro c hc; exact hw c (by simpa using hc))]
    have : r.reverse.takeWhile Unicode.isSpace = [] := by
      cases q : r.reverse with
      | nil => rfl
      | cons a r' =>
        have : r.getLast? = some a := by rw [← List.head?_reverse, q]; rfl
        rw [List.takeWhile_cons, h1 a this]; rfl
    rw [this, List.append_nil, List.length_reverse]
    omega
  rw [e1, e2, List.drop_zero, Nat.sub_zero, show x.cps.toList = r ++ w from e]
  simp
/-- rows with an empty one between -/
def weave : List Str → List Str
  | [] => []
  | [p] => [p]
  | p :: q :: r => p :: Str.ofString "" :: weave (q :: r)
abbrev nl : Str := Str.ofString "\n"
abbrev nl2 : Str := Str.ofString "\n\n"
theorem weave_ne : ∀ {rs : List Str}, rs ≠ [] → weave rs ≠ []
  | [], h => absurd rfl h
  | [_], _ => by simp [weave]
  | _ :: _ :: _, _ => by simp [weave]
theorem weave_jn : ∀ rs : List Str, jn [10, 10] (rs.map tl) = jn [10] ((weave rs).map tl)
  | [] => rfl
  | [p] => rfl
  | p :: q :: r => by
    have ih := weave_jn (q :: r)
    show tl p ++ ([10, 10] ++ jn [10, 10] ((q :: r).map tl)) = _
    rw [ih]
    cases hq : weave (q :: r) with
    | nil => exact absurd hq (weave_ne (by simp))
    | cons a b =>
      show _ = jn [10] (tl p :: tl (Str.ofString "") :: ((weave (q :: r)).map tl))
      rw [hq]
      show _ = tl p ++ ([10] ++ ([] ++ ([10] ++ jn [10] ((a :: b).map tl))))
      simp
theorem weave_glued (rs : List Str) : glued nl2 rs = glued nl (weave rs) := tl_ext (by rw [tl_glued, tl_glued]; exact weave_jn rs)
theorem weave_free : ∀ {rs : List Str}, (∀ p ∈ rs, 10 ∉ tl p) → ∀ p ∈ weave rs, 10 ∉ tl p
  | [], _, p, hp => by simp [weave] at hp
  | [q], h, p, hp => h p hp
  | a :: q :: r, h, p, hp => by
    simp only [weave, List.mem_cons] at hp
    rcases hp with rfl | rfl | hp
    · exact h _ (.head _)
    · decide
    · exact weave_free (fun p m => h p (.tail _ m)) p hp
/-- a row of the page: no line end, no space at either end -/
structure RowOk (r : Str) : Prop where
  ne : tl r ≠ []
  free : 10 ∉ tl r
  first : ∀ c, (tl r).head? = some c → Unicode.isSpace c = false
  last : ∀ c, (tl r).getLast? = some c → Unicode.isSpace c = false
theorem jn_head {y : List Nat} : ∀ {p : List Nat} {r : List (List Nat)}, p ≠ [] → (jn y (p :: r)).head? = p.head?
  | _ :: _, [], _ => rfl
  | _ :: _, _ :: _, _ => rfl
  | [], _, h => absurd rfl h
theorem last_app {a b : List Nat} (h : b ≠ []) : (a ++ b).getLast? = b.getLast? := by
  rw [List.getLast?_append]
  cases q : b.getLast? with
  | none => exact absurd (List.getLast?_eq_none_iff.mp q) h
  | some z => rfl
theorem jn_last {y : List Nat} : ∀ {rs : List (List Nat)}, (∀ p ∈ rs, p ≠ []) → rs ≠ [] → ∃ p ∈ rs, (jn y rs).getLast? = p.getLast? ∧ jn y rs ≠ []
  | [], _, h => absurd rfl h
  | [p], h, _ => ⟨p, .head _, rfl, h p (.head _)⟩
  | p :: q :: r, h, _ => by
    obtain ⟨z, hz, e, ne⟩ := jn_last (y := y) (rs := q :: r) (fun x m => h x (.tail _ m)) (by simp)
    refine ⟨z, .tail _ hz, ?_, ?_⟩
    · show (p ++ (y ++ jn y (q :: r))).getLast? = _
      rw [last_app (by simp [ne]), last_app ne, e]
    · show p ++ (y ++ jn y (q :: r)) ≠ []
      simp [ne]
theorem strip_rows {x : Str} {rs : List Str} {w : List Nat} (hrs : rs ≠ []) (hr : ∀ r ∈ rs, RowOk r) (e : tl x = tl (glued nl2 rs) ++ w) (hw : ∀ c ∈ w, Unicode.isSpace c = true) : Txt.strip x = glued nl2 rs := by
  have hne : ∀ p ∈ rs.map tl, p ≠ [] := by intro p hp; obtain ⟨q, hq, rfl⟩ := List.mem_map.mp hp; exact (hr q hq).ne
  obtain ⟨z, hz, ez, nz⟩ := jn_last (y := tl nl2) hne (by simp [hrs])
  obtain ⟨q, hq, rfl⟩ := List.mem_map.mp hz
  refine tl_ext (strip_of e hw (by rw [tl_glued]; exact nz) ?_ ?_)
  · intro c hc
    match rs, hrs, hr with
    | a :: r', _, hr =>
      rw [tl_glued] at hc
      simp only [List.map_cons] at hc
      rw [jn_head (hr a (.head _)).ne] at hc
      exact (hr a (.head _)).first c hc
  · intro c hc
    rw [tl_glued, ez] at hc
    exact (hr q hq).last c hc
theorem split_rows {rs : List Str} (hrs : rs ≠ []) (hr : ∀ r ∈ rs, RowOk r) : Txt.split (glued nl2 rs) nl = weave rs := by
  rw [weave_glued]
  exact split_one (c := 10) rfl (by decide +kernel) _ (weave_ne hrs) (weave_free fun p m => (hr p m).free)
end
section
set_option maxRecDepth 100000
open StrLaws Builtin Builtin.Str
/-- a letter of a place, small or great -/
def Lt (c : Nat) : Prop := (97 ≤ c ∧ c ≤ 100) ∨ (65 ≤ c ∧ c ≤ 68)
abbrev nm2 (a b : Nat) : Str := ⟨#[a, b]⟩
/-- a tie: two letters and a worth -/
abbrev Tie := (Nat × Nat) × Int
def Tie.P (t : Tie) : Str × Int := (nm2 t.1.1 t.1.2, t.2)
def Tie.row (t : Tie) : Str := rowOf (nm2 t.1.1 t.1.2, tx t.2)
def Tie.Lt (t : Tie) : Prop := Mine.Lt t.1.1 ∧ Mine.Lt t.1.2
def Tie.map (f : Nat → Nat) (t : Tie) : Tie := ((f t.1.1, f t.1.2), t.2)
theorem tl_row (t : Tie) : tl t.row = [t.1.1, t.1.2, 58, 32] ++ tl (tx t.2) := by
  unfold Tie.row rowOf
  rw [tl_app, tl_app]; rfl
theorem isSp : ∀ c, c < 128 → 33 ≤ c → Unicode.isSpace c = false := by decide +kernel
theorem Lt.sp {c : Nat} (h : Lt c) : Unicode.isSpace c = false := isSp c (by unfold Lt at h; omega) (by unfold Lt at h; omega)
theorem tx_last (n : Int) : ∃ c, (tl (tx n)).getLast? = some c ∧ 48 ≤ c ∧ c ≤ 57 := by
  obtain ⟨cs, hd, hne, h⟩ := tx_shape n
  cases q : cs.getLast? with
  | none => exact absurd (List.getLast?_eq_none_iff.mp q) hne
  | some c =>
    have := hd c (List.mem_of_getLast? q)
    rcases h with ⟨e, _⟩ | ⟨e, _⟩
    · exact ⟨c, by rw [tl, e]; exact q, this⟩
    · refine ⟨c, ?_, this⟩
      rw [tl, e, show (45 :: cs) = [45] ++ cs from rfl, last_app hne]; exact q
theorem tx_mem {n : Int} {c : Nat} (h : c ∈ tl (tx n)) : c = 45 ∨ (48 ≤ c ∧ c ≤ 57) := tx_signs n c h
theorem row_ok {t : Tie} (h : t.Lt) : RowOk t.row := by
  obtain ⟨ha, hb⟩ := h
  refine ⟨by rw [tl_row]; simp, ?_, ?_, ?_⟩
  · rw [tl_row]
    intro m
    simp only [List.cons_append, List.nil_append, List.mem_cons] at m
    unfold Lt at ha hb
    rcases m with m | m | m | m | m
    · omega
    · omega
    · omega
    · omega
    · have := tx_mem m; omega
  · intro c hc
    rw [tl_row] at hc
    simp only [List.cons_append, List.head?_cons, Option.some.injEq] at hc
    rw [← hc]; exact ha.sp
  · intro c hc
    obtain ⟨d, hd, h1, h2⟩ := tx_last t.2
    rw [tl_row, last_app (by intro q; rw [q] at hd; cases hd), hd] at hc
    simp only [Option.some.injEq] at hc
    exact isSp c (by omega) (by omega)
theorem row_map {t : Tie} {f : Nat → Nat} (hf : ∀ c, c < 64 → f c = c) : (tl t.row).map f = tl (Tie.map f t).row := by
  rw [tl_row, tl_row, List.map_append]
  have : (tl (tx t.2)).map f = tl (tx t.2) := by
    conv => rhs; rw [← List.map_id (tl (tx t.2))]
    refine List.map_congr_left fun z hz => ?_
    have := tx_mem hz
    exact hf z (by omega)
  rw [this]
  simp only [List.map_cons, List.map_nil, Tie.map]
  rw [hf 58 (by decide), hf 32 (by decide)]
/-- the letters after the melting -/
def mf (goes stays c : Nat) : Nat := subst1 goes stays (lo1 c)
theorem lo1_low {c : Nat} (h : c < 64) : lo1 c = c := by unfold lo1; rw [if_neg (by omega)]
theorem mf_low {goes stays c : Nat} (hg : 97 ≤ goes) (h : c < 64) : mf goes stays c = c := by
  unfold mf subst1; rw [lo1_low h, if_neg (by omega)]
theorem page_tl (ts : List Tie) : tl (pageOf (txs (ts.map Tie.P))) = jn [13, 10] (ts.map (fun t => tl t.row) ++ [[], []]) := by
  unfold pageOf txs
  rw [tl_glued, List.map_append]
  simp only [List.map_map]; rfl
theorem jn_lt {ts : List Tie} (h : ∀ t ∈ ts, t.Lt) : ∀ c ∈ jn [13, 10] (ts.map (fun t => tl t.row) ++ [[], []]), c < 128 := by
  have key : ∀ ps : List (List Nat), (∀ p ∈ ps, ∀ c ∈ p, c < 128) → ∀ c ∈ jn [13, 10] ps, c < 128 := by
    intro ps
    induction ps with
    | nil => intro _ c hc; simp [jn] at hc
    | cons p r ih =>
      intro hp c hc
      cases r with
      | nil => exact hp p (.head _) c hc
      | cons q r =>
        simp only [jn, List.mem_append] at hc
        rcases hc with hc | hc | hc
        · exact hp p (.head _) c hc
        · simp at hc; omega
        · exact ih (fun p m => hp p (.tail _ m)) c hc
  refine key _ fun p hp c hc => ?_
  rcases List.mem_append.mp hp with m | m
  · obtain ⟨t, ht, rfl⟩ := List.mem_map.mp m
    rw [tl_row] at hc
    obtain ⟨ha, hb⟩ := h t ht
    unfold Lt at ha hb
    simp only [List.cons_append, List.nil_append, List.mem_cons] at hc
    rcases hc with hc | hc | hc | hc | hc
    · omega
    · omega
    · omega
    · omega
    · have := tx_mem hc; omega
  · simp at m; subst m; simp at hc
abbrev tail2 : List Str := [Str.ofString "", Str.ofString ""]
/-- the page after the melting -/
theorem page_melt {ts : List Tie} (h : ∀ t ∈ ts, t.Lt) {goes stays : Nat} (hg : 97 ≤ goes ∧ goes ≤ 100) (hs : 97 ≤ stays ∧ stays ≤ 100) :
    replOf (Txt.lower (pageOf (txs (ts.map Tie.P)))) ⟨#[goes]⟩ ⟨#[stays]⟩ (Str.ofString "\r\n") nl2 = glued nl2 ((ts.map fun t => (Tie.map (mf goes stays) t).row) ++ tail2) := by
  have hf : ∀ c, c < 64 → mf goes stays c = c := fun c hc => mf_low hg.1 hc
  have h1 : tl (glued ⟨#[stays]⟩ (Txt.split (Txt.lower (pageOf (txs (ts.map Tie.P)))) ⟨#[goes]⟩)) = tl (glued (Str.ofString "\r\n") ((ts.map fun t => (Tie.map (mf goes stays) t).row) ++ tail2)) := by
    rw [repl_one, lower_ascii (by rw [show (pageOf (txs (ts.map Tie.P))).cps.toList = _ from page_tl ts]; exact jn_lt h)]
    have e1 : tl ⟨(pageOf (txs (ts.map Tie.P))).cps.map lo1⟩ = (tl (pageOf (txs (ts.map Tie.P)))).map lo1 := by simp [tl]
    rw [e1, List.map_map, show (subst1 goes stays ∘ lo1) = mf goes stays from rfl, page_tl, jn_map, tl_glued]
    congr 1
    · show [mf goes stays 13, mf goes stays 10] = [13, 10]
      rw [hf 13 (by decide), hf 10 (by decide)]
    · rw [List.map_append, List.map_append, List.map_map, List.map_map]
      congr 1
      exact List.map_congr_left fun t ht => row_map hf
  unfold replOf
  rw [tl_ext h1, split_two (c := 13) (d := 10) rfl (by decide) (by decide +kernel) _ (by simp)]
  intro p hp
  rcases List.mem_append.mp hp with m | m
  · obtain ⟨t, ht, rfl⟩ := List.mem_map.mp m
    obtain ⟨ha, hb⟩ := h t ht
    have hr : ∀ c, Lt c → 65 ≤ mf goes stays c := by
      intro c hc
      unfold mf subst1 lo1; unfold Lt at hc
      repeat' split
      all_goals omega
    have h1 := hr _ ha
    have h2 := hr _ hb
    rw [tl_row]
    intro m
    simp only [Tie.map, List.cons_append, List.nil_append, List.mem_cons] at m
    rcases m with m | m | m | m | m
    · omega
    · omega
    · omega
    · omega
    · have := tx_mem m; omega
  · simp at m; subst m; decide
end
section
set_option maxRecDepth 100000
open StrLaws Builtin Builtin.Str
/-- what is left of the page, with the rows rs in it -/
def RestIs (rs : List Str) (x : Str) : Prop := x = glued nl2 (rs ++ tail2) ∨ x = glued nl2 rs
theorem jn_tail2 : ∀ {rs : List (List Nat)}, rs ≠ [] → jn [10, 10] (rs ++ [[], []]) = jn [10, 10] rs ++ [10, 10, 10, 10]
  | [], h => absurd rfl h
  | [p], _ => by simp [jn]
  | p :: q :: r, _ => by
    have ih := jn_tail2 (rs := q :: r) (by simp)
    simp only [List.cons_append, jn] at ih ⊢
    rw [ih]; simp
theorem rest_split {rs : List Str} (hrs : rs ≠ []) (hr : ∀ r ∈ rs, RowOk r) {x : Str} (h : RestIs rs x) : Txt.split (Txt.strip x) nl = weave rs := by
  have : Txt.strip x = glued nl2 rs := by
    rcases h with rfl | rfl
    · refine strip_rows (w := [10, 10, 10, 10]) hrs hr ?_ (by decide +kernel)
      rw [tl_glued, tl_glued, List.map_append]
      exact jn_tail2 (by simp [hrs])
    · exact strip_rows (w := []) hrs hr (by simp) (by simp)
  rw [this, split_rows hrs hr]
theorem rest_none {x : Str} (h : x = glued nl2 ([] ++ tail2)) : Txt.split (Txt.strip x) nl = [Str.ofString ""] := by
  have : Txt.strip x = Str.ofString "" := tl_ext (by
    rw [strip_all]
    · rfl
    · rw [h, tl_glued]; decide +kernel)
  rw [this]
  decide +kernel
theorem weave_second : ∀ {rs : List Str} {y : Str}, (weave rs)[1]? = some y → y = Str.ofString ""
  | [], _, h => by simp [weave] at h
  | [p], _, h => by simp [weave] at h
  | p :: q :: r, y, h => by simp [weave] at h; exact h.symm
/-- what splitdoc tells of it -/
theorem rest_sd {r : Str} {rs : List Str} (hr : ∀ p ∈ r :: rs, RowOk p) {x y z : Str} (h : RestIs (r :: rs) x) (hs : SdIs x y z) : y = r ∧ z = glued nl2 rs := by
  unfold SdIs at hs
  rw [rest_split (by simp) hr h] at hs
  cases rs with
  | nil => exact ⟨hs.1, hs.2.trans (tl_ext rfl)⟩
  | cons q rs =>
    simp only [weave] at hs
    exact ⟨hs.1, by rw [hs.2, weave_glued]⟩
theorem rest_sd0 {x y z : Str} (h : x = glued nl2 ([] ++ tail2)) (hs : SdIs x y z) : y = Str.ofString "" ∧ z = Str.ofString "" := by
  unfold SdIs at hs
  rw [rest_none h] at hs
  exact hs
theorem rest_b {rs : List Str} (hr : ∀ p ∈ rs, RowOk p) {x : Str} (h : RestIs rs x) (hne : x ≠ Str.ofString "") : (∀ y, (Txt.split (Txt.strip x) nl)[1]? = some y → y = Str.ofString "") ∧ Txt.split (Txt.strip x) nl ≠ [] := by
  refine ⟨?_, split_ne _ _⟩
  intro y hy
  cases rs with
  | nil =>
    rcases h with h | h
    · rw [rest_none h] at hy; simp at hy
    · exact absurd (h.trans (tl_ext rfl)) hne
  | cons r rs =>
    rw [rest_split (by simp) hr h] at hy
    exact weave_second hy
theorem rest_ne {r : Str} {rs : List Str} (hr : RowOk r) : glued nl2 (r :: rs) ≠ Str.ofString "" := by
  intro e
  have := congrArg tl e
  rw [tl_glued] at this
  have e0 : tl (Str.ofString "") = [] := rfl
  rw [e0] at this
  cases rs with
  | nil => exact hr.ne this
  | cons q rs => simp only [List.map_cons, jn, List.append_eq_nil_iff] at this; exact hr.ne this.1
/-- a row falls into its name and its worth -/
theorem row_split {t : Tie} (h : t.Lt) : Txt.split t.row (Str.ofString ": ") = [nm2 t.1.1 t.1.2, tx t.2] := by
  have e : t.row = glued (Str.ofString ": ") [nm2 t.1.1 t.1.2, tx t.2] := tl_ext (by
    rw [tl_row, tl_glued]; rfl)
  rw [e, split_two (c := 58) (d := 32) rfl (by decide) (by decide +kernel) _ (by simp)]
  intro p hp
  obtain ⟨ha, hb⟩ := h
  unfold Lt at ha hb
  simp only [List.mem_cons, List.not_mem_nil, or_false] at hp
  rcases hp with rfl | rfl
  · intro m
    simp only [tl, List.mem_cons, List.not_mem_nil, or_false] at m
    rcases m with m | m <;> omega
  · intro m
    have := tx_mem m
    omega
theorem row_len {t : Tie} (h : Bd t.2) : t.row.length ≤ 105 := by
  have := tx_len h
  have e : t.row.length = (tl t.row).length := by simp [tl, Str.length]
  have e2 : (tx t.2).length = (tl (tx t.2)).length := by simp [tl, Str.length]
  rw [e, tl_row, List.length_append]
  simp only [List.length_cons, List.length_nil]
  omega
theorem low_nm {a b : Nat} (ha : Lt a) (hb : Lt b) : Txt.lower (nm2 a b) = nm2 (lo1 a) (lo1 b) := by
  have hA : ∀ c ∈ (nm2 a b).cps.toList, c < 128 := by
    intro c hc
    unfold Lt at ha hb
    simp only [List.mem_cons, List.not_mem_nil, or_false] at hc
    rcases hc with rfl | rfl <;> omega
  rw [lower_ascii hA]
  exact tl_ext (by simp [tl])
theorem nm_ok {a b : Nat} (ha : Lt a) (hb : Lt b) : NmOk (nm2 a b) := by
  have hp : ∀ a b : Nat, Lt a → Lt b → Rx.TxOk (nm2 a b) := by
    intro a b ha hb
    refine ⟨?_, by show 2 ≤ 10000; decide⟩
    intro c hc
    unfold Lt at ha hb
    simp only [List.mem_toArray, List.mem_cons, List.not_mem_nil, or_false] at hc
    rcases hc with rfl | rfl <;> omega
  refine ⟨by show 2 ≤ 100; decide, hp a b ha hb, ?_⟩
  rw [low_nm ha hb]
  have hl : ∀ c, Lt c → Lt (lo1 c) := by intro c hc; unfold lo1; unfold Lt at hc ⊢; split <;> omega
  exact hp _ _ (hl a ha) (hl b hb)
end
section
set_option maxRecDepth 100000
theorem two_items {a b : Nat} {acc : Array Value} (h : ItemsOf (SignAt (nm2 a b)) acc 2) : ∃ u v, acc.toList = [.str ⟨#[a]⟩ u, .str ⟨#[b]⟩ v] := by
  obtain ⟨h1, h2⟩ := h
  obtain ⟨l⟩ := acc
  match l, h1, h2 with
  | [x, y], _, h2 =>
    obtain ⟨c, u, hc, rfl⟩ := h2 0 x rfl
    obtain ⟨d, v, hd, rfl⟩ := h2 1 y rfl
    have e1 : a = c := Option.some.inj hc
    have e2 : b = d := Option.some.inj hd
    subst e1; subst e2
    exact ⟨u, v, rfl⟩
  | [], h1, _ => simp at h1
  | [_], h1, _ => simp at h1
  | _ :: _ :: _ :: _, h1, _ => simp at h1
theorem lt_one (a b : Nat) : Spec.ltCps [a] [b] = decide (a < b) := by
  show (decide (a < b) || (a == b && false)) = _
  simp
theorem two_sorted {a b : Nat} {vs : List Value} {ss : List Str} (h : StrsAre vs ss) (hp : ss.Perm [⟨#[a]⟩, ⟨#[b]⟩]) (hs : sortedS ss = true) : ∃ u v, vs = [.str ⟨#[min a b]⟩ u, .str ⟨#[max a b]⟩ v] := by
  have hss : ss = [⟨#[a]⟩, ⟨#[b]⟩] ∨ ss = [⟨#[b]⟩, ⟨#[a]⟩] := by
    have hl := hp.length_eq
    match ss, hl with
    | [x, y], _ =>
      have hx : x ∈ [(⟨#[a]⟩ : Str), ⟨#[b]⟩] := hp.mem_iff.mp (by simp)
      simp only [List.mem_cons, List.not_mem_nil, or_false] at hx
      rcases hx with rfl | rfl
      · have := List.Perm.cons_inv hp
        have := List.perm_singleton.mp this
        exact .inl (by simp at this; rw [this])
      · have := List.Perm.cons_inv (hp.trans (List.Perm.swap _ _ _))
        have := List.perm_singleton.mp this
        exact .inr (by simp at this; rw [this])
  rcases hss with rfl | rfl
  · cases h with
    | cons _ u h =>
      cases h with
      | cons _ v h =>
        cases h
        have : (!Spec.ltCps [b] [a] && true) = true := hs
        rw [lt_one] at this
        simp at this
        exact ⟨u, v, by rw [Nat.min_eq_left this, Nat.max_eq_right this]⟩
  · cases h with
    | cons _ u h =>
      cases h with
      | cons _ v h =>
        cases h
        have : (!Spec.ltCps [a] [b] && true) = true := hs
        rw [lt_one] at this
        simp at this
        exact ⟨u, v, by rw [Nat.min_eq_right this, Nat.max_eq_left this]⟩
section
variable {prog : Program} {w : World} {A : Around} {E : Value → Shared → Prop} {s : Shared} {Q : Value → Shared → Prop} {h₀ : Heap} {L : Addr} {m : Str → Option Value} {news : List (Addr × Obj)}
/-- sorted(name), name of two signs -/
theorem sorted2 {a b : Nat} {t : Tok} (hh : A.handled = none) (F : Fr h₀ L s.heap m) (N : News h₀ L s.heap news)
    (h : ∀ D h' tk c u v, Fr h₀ L h' m → News h₀ L h' ((D, lstObj [.str ⟨#[min a b]⟩ u, .str ⟨#[max a b]⟩ v] c) :: news) → s.heap.StaysIn h' → Q (.ref D) { s with heap := h', toks := tk }) :
    wpAny (model prog w) A (call (.builtin "sorted") [.str (nm2 a b) t]) Q E s := by
  refine Calls.call_function_entry kind_sorted plain_sorted entry_sorted (args_sorted1 _) ?_
  unfold Builtin.«sorted»
  refine wpAny_bind (m := checkCount "sorted" 1 1 _) (wpAny_pure ?_)
  refine wpAny_bind (wpAny_collect_str (A := A.in1) (show A.in1.handled = none from hh) (nm2 a b) t (fun s' acc k1 g1 d1 o1 hi => ?_) (by show 2 ≤ sizeLine; rw [sizeLine_eq]; decide))
  obtain ⟨u, v, ea⟩ := two_items hi
  rw [ea]
  refine wpAny_bind (wpAny_newList ?_ (by show 2 ≤ sizeLine; rw [sizeLine_eq]; decide))
  have hS : StrsAre [.str ⟨#[a]⟩ u, .str ⟨#[b]⟩ v] [⟨#[a]⟩, ⟨#[b]⟩] := .cons _ _ (.cons _ _ .nil)
  have hoL : (s'.heap.push (seqObj "list" [Value.str ⟨#[a]⟩ u, .str ⟨#[b]⟩ v].toArray 0)).get? s'.heap.objs.size = some (seqObj "list" [Value.str ⟨#[a]⟩ u, .str ⟨#[b]⟩ v].toArray 0) := Heap.get?_push_size _ rfl
  refine wpAny_bind (wpAny_holding (wpAny_call_entry slot_list_sort ⟨_, hoL, rfl⟩ entry_list_sort (list_sort_treeK strKind_oneLt hoL hS.keysOf (fun v₁ v₂ rest e => keyKind_strs (by rw [← e]; exact hS)) (by simp) fun st' hp hs => ⟨_, rfl, ?_⟩) (args_list_sort _)))
  refine wpAny_pure ⟨_, rfl, ?_⟩
  obtain ⟨ss', h1, h2, h3⟩ := sorted_out_str hS hp hs
  obtain ⟨u2, v2, e2⟩ := two_sorted h1 h2 h3
  obtain ⟨c, hc⟩ := sortedHeap_at (out := (arrOf st').map (·.2)) hoL
  have hold : s.heap.StaysIn (sortedHeap (s'.heap.push (seqObj "list" [Value.str ⟨#[a]⟩ u, .str ⟨#[b]⟩ v].toArray 0)) s'.heap.objs.size [Value.str ⟨#[a]⟩ u, .str ⟨#[b]⟩ v] ((arrOf st').map (·.2))) := by
    intro x o e
    have e' := k1 x o e
    have hlt := Heap.lt_size e'
    rw [sortedHeap_old (Nat.ne_of_lt hlt) (by rw [size_push']; exact Nat.lt_succ_of_lt hlt)]
    exact Heap.get?_push_of_some _ e'
  have hnone : s'.heap.get? s'.heap.objs.size = none := Heap.get?_none_of_le (Nat.le_refl _)
  have hL : s'.heap.objs.size ≠ L := by
    intro q
    obtain ⟨o, _, _, e, _⟩ := F.ns
    rw [q, k1 _ _ e] at hnone; cases hnone
  have h0 : h₀.get? s'.heap.objs.size = none := by
    cases q : h₀.get? s'.heap.objs.size with
    | none => rfl
    | some o => rw [k1 _ _ (F.keep _ _ q)] at hnone; cases hnone
  obtain ⟨hp', g', d', tk', os'⟩ := s'
  dsimp only at g1 d1 o1
  subst g1; subst d1; subst o1
  refine h _ _ _ c u2 v2 (F.kept hold) (News.cons (News.on N hold) (hc.trans ?_) hL h0) hold
  rw [← Array.toArray_toList (xs := (arrOf st').map (·.2)), e2]
end
end
section
set_option maxRecDepth 100000
section
variable {prog : Program} {w : World} {A : Around} {E : Value → Shared → Prop} {s : Shared} {env : Env} {h₀ : Heap} {L : Addr} {m : Str → Option Value}
/-- how a turn of a while ends -/
def WEnd (h₀ : Heap) (L : Addr) (s : Shared) (k : Nat) (J : Nat → (Str → Option Value) → Heap → Prop) (Q : Flow → Shared → Prop) (f : Flow) (s₃ : Shared) : Prop :=
  match f with
  | .ret v => Q (.ret v) s₃
  | .brk => Q .next s₃
  | _ => ∃ k' h' tk' m', k' < k ∧ s₃ = { s with heap := h', toks := tk' } ∧ Fr h₀ L h' m' ∧ J k' m' h'
theorem loop_while {test : Expr} {body : List Stmt} {Q : Flow → Shared → Prop} (J : Nat → (Str → Option Value) → Heap → Prop) (n : Nat) (F : Fr h₀ L s.heap m) (hj : J n m s.heap)
    (turn : ∀ k m₁ h tk, J k m₁ h → Fr h₀ L h m₁ → wpAny (model prog w) A (isTrue test env (eval test env)) (fun b s₂ => if b then wpAny (model prog w) A (execs body env) (WEnd h₀ L s k J Q) (fun _ _ => False) s₂ else Q .next s₂) (fun _ _ => False) { s with heap := h, toks := tk }) :
    codeAny (model prog w) A (.whileLoop test body [] env) (fun r s' => match r with | .ok f => Q f s' | .error e => cameBackBy (model prog w) A env E e s') s := by
  refine codeAny_whileLoop (fun k s' => ∃ h' tk m', s' = { s with heap := h', toks := tk } ∧ Fr h₀ L h' m' ∧ J k m' h') ?_ n ⟨s.heap, s.toks, m, rfl, F, hj⟩
  rintro k s' ⟨h', tk, m', rfl, F', hJ⟩
  refine wpAny_mono (turn k m' h' tk hJ F') (fun b s₂ h₂ => ?_) fun _ _ x => x.elim
  cases b with
  | false => exact wpAny_execs_nil h₂
  | true =>
    refine wpAny_mono h₂ (fun f s₃ h₃ => ?_) fun _ _ x => x.elim
    have go : (∃ k' h' tk' m', k' < k ∧ s₃ = { s with heap := h', toks := tk' } ∧ Fr h₀ L h' m' ∧ J k' m' h') → ∃ m, m < k ∧ ∃ h' tk m', s₃ = { s with heap := h', toks := tk } ∧ Fr h₀ L h' m' ∧ J m m' h' := by
      rintro ⟨k', hz, tk₃, m₃, hk, e, F₃, J₃⟩
      exact ⟨k', hk, hz, tk₃, m₃, e, F₃, J₃⟩
    cases f with
    | ret v => exact h₃
    | brk => exact h₃
    | next => exact go h₃
    | cont => exact go h₃
end
end
section
open Rx
def layAll (qs : List Tie) : List (Str × Int) := qs.foldl (fun ps q => layOf ps q.P.1 q.2) []
def srt (t : Tie) : Tie := ((min t.1.1 t.1.2, max t.1.1 t.1.2), t.2)
/-- the ties after the melting, before they are laid -/
def melted (goes stays : Nat) (ts : List Tie) : List Tie := ts.map fun t => srt (Tie.map (mf goes stays) t)
theorem sum_le {α : Type} (f : α → Nat) (k : Nat) : ∀ l : List α, (∀ x ∈ l, f x ≤ k) → (l.map f).sum ≤ l.length * k
  | [], _ => by simp
  | a :: r, h => by
    have h1 := h a (.head _)
    have h2 := sum_le f k r fun x m => h x (.tail _ m)
    simp only [List.map_cons, List.sum_cons, List.length_cons, Nat.succ_mul]
    omega
theorem page_len {ts : List Tie} (h : ts.length ≤ 6) (hv : ∀ t ∈ ts, Sm t.2) : (pageOf (txs (ts.map Tie.P))).length ≤ 1000 := by
  unfold pageOf
  refine Nat.le_trans (glued_len _ _) ?_
  refine Nat.le_trans (sum_le _ 107 _ ?_) ?_
  · intro p hp
    have e2 : (Str.ofString "\r\n").length = 2 := rfl
    rcases List.mem_append.mp hp with m | m
    · unfold txs at m
      rw [List.map_map, List.map_map] at m
      obtain ⟨t, ht, rfl⟩ := List.mem_map.mp m
      have := row_len (t := t) (hv t ht).bd
      show (Tie.row t).length + _ ≤ 107
      omega
    · have : p = Str.ofString "" := by simpa using m
      subst this
      rw [e2]; decide
  · unfold txs
    simp only [List.length_append, List.length_map, List.length_cons, List.length_nil]
    omega
theorem page_low_len {ts : List Tie} (hl : ∀ t ∈ ts, t.Lt) (h : ts.length ≤ 6) (hv : ∀ t ∈ ts, Sm t.2) : (Txt.lower (pageOf (txs (ts.map Tie.P)))).length ≤ 1000 := by
  rw [lower_ascii (by rw [show (pageOf (txs (ts.map Tie.P))).cps.toList = _ from page_tl ts]; exact jn_lt hl)]
  show (Array.map lo1 _).size ≤ 1000
  rw [Array.size_map]
  exact page_len h hv
theorem mf_lt {goes stays : Nat} (hg : 97 ≤ goes ∧ goes ≤ 100) (hs : 97 ≤ stays ∧ stays ≤ 100) {t : Tie} (h : t.Lt) : (Tie.map (mf goes stays) t).Lt := by
  have hr : ∀ c, Lt c → Lt (mf goes stays c) := by
    intro c hc
    unfold mf subst1 lo1; unfold Lt at hc ⊢
    repeat' split
    all_goals omega
  exact ⟨hr _ h.1, hr _ h.2⟩
theorem inst_of {h : Heap} {x dx : Addr} {od : Obj} (e : h.get? x = some (instObj 184 dx)) (e2 : h.get? dx = some od) : InstAt h x (instObj 184 dx) 184 (some od) := ⟨e, rfl, rfl, e2⟩
theorem rest_len {ts : List Tie} {goes stays : Nat} (hlen : ts.length ≤ 6) (hv : ∀ t ∈ ts, Sm t.2) {i : Nat} {x : Str} (h : RestIs ((ts.map fun t => (Tie.map (mf goes stays) t).row).drop i) x) : x.length ≤ 1000000 := by
  have hd : ∀ p ∈ (ts.map fun t => (Tie.map (mf goes stays) t).row).drop i, p.length ≤ 105 := by
    intro p hp
    obtain ⟨t, ht, rfl⟩ := List.mem_map.mp (List.mem_of_mem_drop hp)
    exact row_len (t := Tie.map (mf goes stays) t) (hv t ht).bd
  have hl : ((ts.map fun t => (Tie.map (mf goes stays) t).row).drop i).length ≤ 6 := by
    rw [List.length_drop, List.length_map]; omega
  have e2 : nl2.length = 2 := rfl
  rcases h with rfl | rfl
  · refine Nat.le_trans (glued_len _ _) (Nat.le_trans (sum_le _ 107 _ ?_) ?_)
    · intro p hp
      rcases List.mem_append.mp hp with m | m
      · have := hd p m; omega
      · have : p = Str.ofString "" := by simpa using m
        subst this
        rw [e2]; decide
    · rw [List.length_append]
      have : tail2.length = 2 := rfl
      omega
  · refine Nat.le_trans (glued_len _ _) (Nat.le_trans (sum_le _ 107 _ ?_) ?_)
    · intro p hp
      have := hd p hp; omega
    · omega
theorem two_l {l : List (Str × Tok)} {a b : Str} (h : l.map (fun x => x.fst) = [a, b]) : ∃ s1 s2, l = [(a, s1), (b, s2)] := by
  match l, h with
  | [(x, s1), (y, s2)], h =>
    simp at h
    exact ⟨s1, s2, by rw [h.1, h.2]⟩
theorem glued_two {a b : Nat} {u v : Tok} : Builtin.Str.glued (Str.ofString "") (List.map (fun x : Str × Tok => x.fst) [(⟨#[a]⟩, u), (⟨#[b]⟩, v)]) = nm2 a b := rfl
theorem pairs_news {h₀ h : Heap} {L : Addr} {m : Str → Option Value} (F : Fr h₀ L h m) : ∀ {as : List Addr} {ps : List (Str × Str)}, PairsAt h as ps → ∃ prs, News h₀ L h prs ∧ ∀ h', h₀.StaysIn h' → News h₀ L h' prs → PairsAt h' as ps
  | _, _, .nil => ⟨[], News.nil, fun _ _ _ => .nil⟩
  | a :: _, _, .cons ⟨t1, t2, n, e⟩ r => by
    obtain ⟨prs, N, K⟩ := pairs_news F r
    cases q : h₀.get? a with
    | some o =>
      have := F.keep _ _ q
      rw [e] at this
      cases this
      exact ⟨prs, N, fun h' st N' => .cons ⟨t1, t2, n, st _ _ q⟩ (K h' st N')⟩
    | none =>
      have hL : a ≠ L := by
        rintro rfl
        obtain ⟨o, es, ep, e1, e2, _⟩ := F.ns
        rw [e] at e1
        cases e1
        cases e2
      exact ⟨_, News.cons N e hL q, fun h' st N' => .cons ⟨t1, t2, n, (N' _ (.head _)).1⟩ (K h' st fun p hp => N' p (.tail _ hp))⟩
theorem layOf_mem {ps : List (Str × Int)} {nm : Str} {v : Int} {p : Str × Int} (h : p ∈ layOf ps nm v) : p ∈ ps ∨ p.1 = nm := by
  unfold layOf at h
  split at h
  · rcases List.mem_append.mp h with m | m
    · exact .inl m
    · exact .inr (by rw [List.mem_singleton.mp m])
  · rcases List.mem_append.mp h with m | m
    · exact .inl (List.mem_filter.mp m).1
    · exact .inr (by rw [List.mem_singleton.mp m])
theorem layOf_length (ps : List (Str × Int)) (nm : Str) (v : Int) : (layOf ps nm v).length ≤ ps.length + 1 := by
  unfold layOf
  split
  · simp
  · have := List.length_filter_le (fun q => !same nm q) ps
    simp only [List.length_append, List.length_cons, List.length_nil]
    omega
theorem layAll_step {qs : List Tie} {i : Nat} {q : Tie} (h : qs[i]? = some q) : layAll (qs.take (i + 1)) = layOf (layAll (qs.take i)) q.P.1 q.2 := by
  unfold layAll
  rw [List.take_add_one, h, List.foldl_append]; rfl
theorem layAll_snoc (qs : List Tie) (q : Tie) : layAll (qs ++ [q]) = layOf (layAll qs) q.P.1 q.2 := by
  unfold layAll
  rw [List.foldl_append]; rfl
theorem layAll_ind (qs : List Tie) : (∀ p ∈ layAll qs, p.1.length ≤ 100) ∧ (layAll qs).length ≤ qs.length := by
  have key : ∀ n, ∀ qs : List Tie, qs.length = n → (∀ p ∈ layAll qs, p.1.length ≤ 100) ∧ (layAll qs).length ≤ qs.length := by
    intro n
    induction n with
    | zero => intro qs h; rw [List.length_eq_zero_iff.mp h]; exact ⟨fun p hp => by simp [layAll] at hp, Nat.le_refl _⟩
    | succ n ih =>
      intro qs h
      have hne : qs ≠ [] := by rintro rfl; simp at h
      rw [← List.dropLast_concat_getLast hne, layAll_snoc]
      obtain ⟨h1, h2⟩ := ih qs.dropLast (by rw [List.length_dropLast]; omega)
      refine ⟨fun p hp => ?_, ?_⟩
      · rcases layOf_mem hp with m | m
        · exact h1 p m
        · rw [m]; show 2 ≤ 100; decide
      · have := layOf_length (layAll qs.dropLast) (qs.getLast hne).P.1 (qs.getLast hne).2
        simp only [List.length_append, List.length_cons, List.length_nil]
        omega
  exact key _ qs rfl
theorem layAll_name (qs : List Tie) : ∀ p ∈ layAll qs, p.1.length ≤ 100 := (layAll_ind qs).1
theorem layAll_length (qs : List Tie) : (layAll qs).length ≤ qs.length := (layAll_ind qs).2
theorem lt_min {a b : Nat} (ha : Lt a) (hb : Lt b) : Lt (min a b) := by rw [Nat.min_def]; split <;> assumption
theorem lt_max {a b : Nat} (ha : Lt a) (hb : Lt b) : Lt (max a b) := by rw [Nat.max_def]; split <;> assumption
@[simp] def mlN (x : Addr) (tst tg : Tok) (stays goes : Nat) (x6 : Addr) (rest : Str) (tr : Tok) (u1 u2 u3 : Option Value) (y : Str) : Option Value :=
  if y = Str.ofString "value" then u1 else if y = Str.ofString "name" then u2 else if y = Str.ofString "row" then u3 else if y = Str.ofString "table" then some (.ref x6) else if y = Str.ofString "rest" then some (.str rest tr)
  else if y = Str.ofString "goes" then some (.str ⟨#[goes]⟩ tg) else if y = Str.ofString "stays" then some (.str ⟨#[stays]⟩ tst) else if y = Str.ofString "left" then some (.ref x) else none
abbrev mlL : List Str := [Str.ofString "value", Str.ofString "name", Str.ofString "row", Str.ofString "table", Str.ofString "rest", Str.ofString "goes", Str.ofString "stays", Str.ofString "left"]
/-- between the turns of the melting -/
def MeltJ (h₀ : Heap) (L x : Addr) (tst tg : Tok) (stays goes : Nat) (x6 d6 : Addr) (hs6 : Int) (tk6 : Tok) (n6 : Nat) (l0 : Addr) (rows : List Str) (qs : List Tie) (k : Nat) (m : Str → Option Value) (h : Heap) : Prop :=
  ∃ i rest tr u1 u2 u3 as nl, m = mlN x tst tg stays goes x6 rest tr u1 u2 u3 ∧ ((i = 0 ∧ rest = Builtin.Str.glued nl2 (rows ++ tail2) ∧ k = rows.length + 1) ∨ (rest = Builtin.Str.glued nl2 (rows.drop i) ∧ i ≤ rows.length ∧ k = rows.length - i)) ∧
    News h₀ L h [(x6, instObj 184 d6), (d6, dictOf [⟨hs6, .str (Str.ofString "_headers") tk6, .ref l0⟩] n6), (l0, lstObj (List.map Value.ref as) nl)] ∧ PairsAt h as (txs (layAll (qs.take i)))
set_option maxRecDepth 100000 in
set_option maxHeartbeats 2000000 in
theorem melt_spec {w : World} {A : Around} {E Q : Value → Shared → Prop} {s : Shared} {mean : ExcName → Option Value} {mg mb : Str → Option Value} {hG : Heap} {l x : Addr} {as : List Addr} {ts : List Tie} {goes stays : Nat} {tg tst : Tok}
   (G : Ok w mean mg mb hG s.heap) (R : Room A 20) (H : HdAt s.heap x l) (HL : RefsAt s.heap l as) (HP : PairsAt s.heap as (txs (ts.map Tie.P))) (hts : ∀ t ∈ ts, t.Lt) (hlen : ts.length ≤ 6) (hg : 97 ≤ goes ∧ goes ≤ 100) (hs : 97 ≤ stays ∧ stays ≤ 100)
   (hv : ∀ t ∈ ts, Sm t.2) (hsm : ∀ i, ∀ p ∈ layAll ((melted goes stays ts).take i), Sm p.2)
   (h : ∀ x' l' as' nl' h' tk', s.heap.StaysIn h' → HdAt h' x' l' → s.heap.get? l' = none → h'.get? l' = some (lstObj (as'.map .ref) nl') → PairsAt h' as' (txs (layAll (melted goes stays ts))) → Q (.ref x') { s with heap := h', toks := tk' }) :
   wpAny (model Challenge.rw_qj0003_01.row.prog w) A (call (.ref 237) [.ref x, .str ⟨#[stays]⟩ tst, .str ⟨#[goes]⟩ tg]) Q E s := by
  obtain ⟨dx, hs', tkx, n, I⟩ := H
  refine wpAny_call (enter0 (n := 19) (binds := [(Str.ofString "left", .ref x), (Str.ofString "stays", .str ⟨#[stays]⟩ tst), (Str.ofString "goes", .str ⟨#[goes]⟩ tg)]) G R (by k_is) (by k_is) (BindsTo.of_eq rfl) (locs rfl) rfl rfl rfl (by decide) ?_)
  intro L h₁ A' R' F N X T
  have hA := R'.handled
  have hps : ∀ p ∈ txs (ts.map Tie.P), p.1.length ≤ 100 ∧ p.2.length ≤ 1000 := by
    intro p hp
    obtain ⟨q, hq, rfl⟩ := List.mem_map.mp hp
    obtain ⟨t, ht, rfl⟩ := List.mem_map.mp hq
    exact ⟨by show 2 ≤ 100; decide, Nat.le_trans (tx_len (hv t ht).bd) (by decide)⟩
  have hpl : (pageOf (txs (ts.map Tie.P))).length ≤ 5592405 := Nat.le_trans (page_len hlen hv) (by decide)
  (repeat' ((fail_if_success (with_reducible show wpAny _ _ (exec (Stmt.For _ _ _ _ _) _) _ _ _)); (fail_if_success (with_reducible show wpAny _ _ (eval (Expr.ListComp _ _ _ _) _) _ _ _)); (fail_if_success (with_reducible show wpAny _ _ (eval (Expr.DictComp _ _ _ _ _) _) _ _ _)); (fail_if_success (with_reducible show wpAny _ _ (pyIter _) _ _ _)); (fail_if_success (with_reducible show wpAny _ _ (exec (Stmt.While _ _ _ _) _) _ _ _)); (first | (k_unfold; (try dsimp only)) | walk1 | (dsimp only; walk1))))
  have R2 : Room A'.in1.in1 17 := Room.in1 (Room.in1 R')
  refine kso_call (K := hd.heap_39 w.params) ?_ (X.keeps F.keep) (InstAt.on I F.keep) (by k_is) (by k_is) ?_
  · have := R2.units
    have e : cLine = 9900 := rfl
    omega
  refine str_spec (G.keep F.keep) (R2.le (by decide)) ⟨_, _, _, _, InstAt.on I F.keep⟩ (HL.on F.keep) (HP.on F.keep) hps (by rw [txs, List.length_map, List.length_map]; omega) ?_
  intro h2 t2 tk2 st2
  have F2 := Fr.on F st2
  have N2 := News.on N st2
  clear F N
  show wpAny _ _ _ _ _ _
  (repeat' ((fail_if_success (with_reducible show wpAny _ _ (exec (Stmt.For _ _ _ _ _) _) _ _ _)); (fail_if_success (with_reducible show wpAny _ _ (eval (Expr.ListComp _ _ _ _) _) _ _ _)); (fail_if_success (with_reducible show wpAny _ _ (eval (Expr.DictComp _ _ _ _ _) _) _ _ _)); (fail_if_success (with_reducible show wpAny _ _ (pyIter _) _ _ _)); (fail_if_success (with_reducible show wpAny _ _ (exec (Stmt.While _ _ _ _) _) _ _ _)); (first | (k_unfold; (try dsimp only)) | walk1 | (dsimp only; walk1))))
  rename Fr s.heap L _ _ => F3
  rename News s.heap L _ _ => N3
  refine repl_spec (G.keep F3.keep) (R'.le (by decide)) (Nat.le_trans (page_low_len hts hlen hv) (by decide)) (by show 1 ≤ 1; decide) (by show 1 ≤ 2; decide) (by decide) (by decide) ?_
  rw [page_melt hts hg hs]
  intro h4 t4 tk4 st4
  have F4 := Fr.on F3 st4
  have N4 := News.on N3 st4
  clear F3 N3
  (repeat' ((fail_if_success (with_reducible show wpAny _ _ (exec (Stmt.For _ _ _ _ _) _) _ _ _)); (fail_if_success (with_reducible show wpAny _ _ (eval (Expr.ListComp _ _ _ _) _) _ _ _)); (fail_if_success (with_reducible show wpAny _ _ (eval (Expr.DictComp _ _ _ _ _) _) _ _ _)); (fail_if_success (with_reducible show wpAny _ _ (pyIter _) _ _ _)); (fail_if_success (with_reducible show wpAny _ _ (exec (Stmt.While _ _ _ _) _) _ _ _)); (first | (k_unfold; (try dsimp only)) | walk1 | (dsimp only; walk1))))
  rename Fr s.heap L _ _ => F5
  rename News s.heap L _ _ => N5
  rename_i l0 h5 l15
  refine make_spec (as := []) (ps := []) (G.keep F5.keep) (R'.le (by decide)) F5 N5 ⟨0, (N5 _ (.head _)).1⟩ .nil (by simp) ?_
  intro x6 d6 hs6 tk6 n6 h6 tk6' F6 N6 st6 nx6 nd6
  clear F5 N5
  (repeat' ((fail_if_success (with_reducible show wpAny _ _ (exec (Stmt.For _ _ _ _ _) _) _ _ _)); (fail_if_success (with_reducible show wpAny _ _ (eval (Expr.ListComp _ _ _ _) _) _ _ _)); (fail_if_success (with_reducible show wpAny _ _ (eval (Expr.DictComp _ _ _ _ _) _) _ _ _)); (fail_if_success (with_reducible show wpAny _ _ (pyIter _) _ _ _)); (fail_if_success (with_reducible show wpAny _ _ (exec (Stmt.While _ _ _ _) _) _ _ _)); (first | (k_unfold; (try dsimp only)) | walk1 | (dsimp only; walk1))))
  refine wpAny_While ?_
  rename Fr s.heap L _ _ => F7
  rename News s.heap L _ _ => N7
  have nl0 : s.heap.get? l0 = none := (N7 _ (.tail _ (.tail _ (.head _)))).2.2
  refine loop_while (J := MeltJ s.heap L x tst tg stays goes x6 d6 hs6 tk6 n6 l0 (ts.map fun t => (Tie.map (mf goes stays) t).row) (melted goes stays ts)) (ts.length + 1) F7 ?j0 ?turn
  case j0 =>
    refine ⟨0, _, _, none, none, none, [], 0, names_ext mlL (by (((repeat (refine And.intro rfl ?_)); exact trivial))) (by ((intro y hy; (simp only [List.contains_cons, List.contains_nil, Bool.or_false, Bool.or_eq_false_iff, beq_eq_false_iff_ne, ne_eq] at hy); simp [hy, lookup_ne, lookup_no]))), .inl ⟨rfl, rfl, ?_⟩, N7, ?_⟩
    · simp
    · exact .nil
  case turn =>
    clear F7 N7
    have hrow : ∀ r ∈ (ts.map fun t => (Tie.map (mf goes stays) t).row), RowOk r := by
      intro r hr
      obtain ⟨t, ht, rfl⟩ := List.mem_map.mp hr
      exact row_ok (mf_lt hg hs (hts t ht))
    rintro k m₁ h7 tk7 ⟨i, rest, tr, u1, u2, u3, as7, nl7, rfl, hrest, N8, P8⟩ F8
    unfold mlN at F8
    obtain ⟨prs, NP, KP⟩ := pairs_news F8 P8
    have N8 : News s.heap L h7 ((x6, instObj 184 d6) :: (d6, dictOf [⟨hs6, .str (Str.ofString "_headers") tk6, .ref l0⟩] n6) :: (l0, lstObj (List.map Value.ref as7) nl7) :: prs) := News.app N8 NP
    clear NP
    by_cases hx0 : rest = Str.ofString ""
    · have hi : i = ts.length := by
        rcases hrest with ⟨_, e, _⟩ | ⟨e, hi, _⟩
        · exact absurd (e.symm.trans hx0) (by
            cases q : (ts.map fun t => (Tie.map (mf goes stays) t).row) with
            | nil => decide +kernel
            | cons a b => exact rest_ne (hrow a (by rw [q]; exact .head _)))
        · rw [List.length_map] at hi
          rcases Nat.lt_or_ge i ts.length with q | q
          · exfalso
            rw [List.drop_eq_getElem_cons (by rw [List.length_map]; exact q)] at e
            exact rest_ne (hrow _ (List.getElem_mem _)) (e.symm.trans hx0)
          · omega
      subst hx0
      (repeat' ((fail_if_success (with_reducible show wpAny _ _ (exec (Stmt.For _ _ _ _ _) _) _ _ _)); (fail_if_success (with_reducible show wpAny _ _ (eval (Expr.ListComp _ _ _ _) _) _ _ _)); (fail_if_success (with_reducible show wpAny _ _ (eval (Expr.DictComp _ _ _ _ _) _) _ _ _)); (fail_if_success (with_reducible show wpAny _ _ (pyIter _) _ _ _)); (fail_if_success (with_reducible show wpAny _ _ (exec (Stmt.While _ _ _ _) _) _ _ _)); (first | (k_unfold; (try dsimp only)) | walk1 | (dsimp only; walk1))))
      show Q (.ref x6) _
      refine h x6 l0 as7 nl7 h7 _ F8.keep ⟨d6, hs6, tk6, n6, inst_of (N8 _ (.head _)).1 (N8 _ (.tail _ (.head _))).1⟩ nl0 (N8 _ (.tail _ (.tail _ (.head _)))).1 ?_
      rw [List.take_of_length_le (by unfold melted; rw [List.length_map]; omega)] at P8
      exact P8
    · have hx1 : (rest != Str.ofString "") = true := by simpa using hx0
      (repeat' ((fail_if_success (with_reducible show wpAny _ _ (exec (Stmt.For _ _ _ _ _) _) _ _ _)); (fail_if_success (with_reducible show wpAny _ _ (eval (Expr.ListComp _ _ _ _) _) _ _ _)); (fail_if_success (with_reducible show wpAny _ _ (eval (Expr.DictComp _ _ _ _ _) _) _ _ _)); (fail_if_success (with_reducible show wpAny _ _ (pyIter _) _ _ _)); (fail_if_success (with_reducible show wpAny _ _ (exec (Stmt.While _ _ _ _) _) _ _ _)); (first | (k_unfold; (try dsimp only)) | walk1 | (dsimp only; walk1))))
      have hRI : RestIs ((ts.map fun t => (Tie.map (mf goes stays) t).row).drop i) rest := by
        rcases hrest with ⟨rfl, e, _⟩ | ⟨e, _, _⟩
        · exact .inl e
        · exact .inr e
      have hrow2 : ∀ r ∈ (ts.map fun t => (Tie.map (mf goes stays) t).row).drop i, RowOk r := fun r hr => hrow r (List.mem_of_mem_drop hr)
      obtain ⟨hb, hb0⟩ := rest_b hrow2 hRI hx0
      refine sdoc_spec (G.keep F8.keep) (R'.le (by decide)) (rest_len hlen hv hRI) hb hb0 ?_
      intro a9 h9 t91 t92 tk9 y z hsd st9 n9 e9
      have F9 := Fr.on F8 st9
      have N9 := News.on N8 st9
      clear F8 N8
      have hia : IsTup h9 a9 #[.str y t91, .str z t92] := ⟨_, e9, rfl, _, rfl⟩
      have hsd' : ∀ _ : Unit, SdIs rest y z := fun _ => hsd
      have hn9 := (N9 _ (.tail _ (.tail _ (.head _)))).2.1
      (repeat' ((fail_if_success (with_reducible show wpAny _ _ (exec (Stmt.For _ _ _ _ _) _) _ _ _)); (fail_if_success (with_reducible show wpAny _ _ (eval (Expr.ListComp _ _ _ _) _) _ _ _)); (fail_if_success (with_reducible show wpAny _ _ (eval (Expr.DictComp _ _ _ _ _) _) _ _ _)); (fail_if_success (with_reducible show wpAny _ _ (pyIter _) _ _ _)); (fail_if_success (with_reducible show wpAny _ _ (exec (Stmt.While _ _ _ _) _) _ _ _)); (first | (k_unfold; (try dsimp only)) | walk1 | (dsimp only; walk1))))
      · rename (_ != _) = true => a10
        have hcs : ∃ t, ts[i]? = some t ∧ y = (Tie.map (mf goes stays) t).row ∧ z = Builtin.Str.glued nl2 ((ts.map fun t => (Tie.map (mf goes stays) t).row).drop (i + 1)) ∧ ts.length - (i + 1) < k := by
          rcases Nat.lt_or_ge i ts.length with q | q
          · have e := List.drop_eq_getElem_cons (l := ts.map fun t => (Tie.map (mf goes stays) t).row) (i := i) (by rw [List.length_map]; exact q)
            rw [e] at hRI hrow2
            obtain ⟨e1, e2⟩ := rest_sd hrow2 hRI (hsd' ())
            refine ⟨ts[i], by simp [q], by rw [e1, List.getElem_map], e2, ?_⟩
            rcases hrest with ⟨_, _, hk⟩ | ⟨_, _, hk⟩
            · rw [hk, List.length_map]; omega
            · rw [hk, List.length_map]; omega
          · exfalso
            have e := List.drop_eq_nil_of_le (as := ts.map fun t => (Tie.map (mf goes stays) t).row) (i := i) (by rw [List.length_map]; exact q)
            rcases hrest with ⟨rfl, e0, _⟩ | ⟨e0, _, _⟩
            · rw [List.drop_zero] at e
              rw [e] at e0
              have := (rest_sd0 e0 (hsd' ())).1
              rw [this] at a10
              exact absurd a10 (by decide)
            · rw [e] at e0
              exact hx0 (e0.trans (tl_ext rfl))
        obtain ⟨t, hti, rfl, rfl, hk⟩ := hcs
        have htm := List.mem_of_getElem? hti
        have hlt := mf_lt hg hs (hts t htm)
        rename Fr s.heap L _ _ => F10
        rename News s.heap L _ _ => N10
        refine splitN1A F10 N10 (by decide) ?_ (by rw [sizeLine_eq]; have := row_len (t := Tie.map (mf goes stays) t) (hv t htm).bd; omega)
        intro l1 h11 k11 e11 _ _ i11 F11 N11
        clear F10 N10
        rw [row_split hlt] at e11
        obtain ⟨s1, s2, rfl⟩ := two_l e11
        rw [show strValues _ = [Value.str (nm2 (mf goes stays t.1.1) (mf goes stays t.1.2)) s1, Value.str (tx t.2) s2] from rfl] at i11
        have N11' : News s.heap L h11 ((x6, instObj 184 d6) :: (d6, dictOf [⟨hs6, .str (Str.ofString "_headers") tk6, .ref l0⟩] n6) :: (l0, lstObj (List.map Value.ref as7) nl7) :: prs) := fun p hp => N11 p (.tail _ hp)
        clear N11
        refine kun_list F11 N11' i11 hA rfl rfl ?_
        intro h13 F13 N13
        clear F11 N11' i11 e11
        (repeat' ((fail_if_success (with_reducible show wpAny _ _ (exec (Stmt.For _ _ _ _ _) _) _ _ _)); (fail_if_success (with_reducible show wpAny _ _ (eval (Expr.ListComp _ _ _ _) _) _ _ _)); (fail_if_success (with_reducible show wpAny _ _ (eval (Expr.DictComp _ _ _ _ _) _) _ _ _)); (fail_if_success (with_reducible show wpAny _ _ (pyIter _) _ _ _)); (fail_if_success (with_reducible show wpAny _ _ (exec (Stmt.While _ _ _ _) _) _ _ _)); (first | (k_unfold; (try dsimp only)) | walk1 | (dsimp only; walk1))))
        rename Fr s.heap L _ _ => F14
        rename News s.heap L _ _ => N14
        refine sorted2 hA F14 N14 ?_
        intro D15 h15 tk15 c15 u15 v15 F15 N15 st15
        clear F14 N14
        (repeat' ((fail_if_success (with_reducible show wpAny _ _ (exec (Stmt.For _ _ _ _ _) _) _ _ _)); (fail_if_success (with_reducible show wpAny _ _ (eval (Expr.ListComp _ _ _ _) _) _ _ _)); (fail_if_success (with_reducible show wpAny _ _ (eval (Expr.DictComp _ _ _ _ _) _) _ _ _)); (fail_if_success (with_reducible show wpAny _ _ (pyIter _) _ _ _)); (fail_if_success (with_reducible show wpAny _ _ (exec (Stmt.While _ _ _ _) _) _ _ _)); (first | (k_unfold; (try dsimp only)) | walk1 | (dsimp only; walk1))))
        rename Fr s.heap L _ _ => F16
        rename News s.heap L _ _ => N16
        have e16 := (N16 _ (.head _)).1
        refine join_rule (l := [(⟨#[min (mf goes stays t.1.1) (mf goes stays t.1.2)]⟩, u15), (⟨#[max (mf goes stays t.1.1) (mf goes stays t.1.2)]⟩, v15)]) ⟨_, e16, rfl, _, rfl⟩ (by rw [sizeLine_eq]; exact (by decide : 2 ≤ 16777216)) ?_
        intro t17 tk17
        rw [glued_two]
        have N17 : News s.heap L _ ((x6, instObj 184 d6) :: (d6, dictOf [⟨hs6, .str (Str.ofString "_headers") tk6, .ref l0⟩] n6) :: (l0, lstObj (List.map Value.ref as7) nl7) :: prs) := fun p hp => N16 p (.tail _ hp)
        clear N16 e16
        (repeat' ((fail_if_success (with_reducible show wpAny _ _ (exec (Stmt.For _ _ _ _ _) _) _ _ _)); (fail_if_success (with_reducible show wpAny _ _ (eval (Expr.ListComp _ _ _ _) _) _ _ _)); (fail_if_success (with_reducible show wpAny _ _ (eval (Expr.DictComp _ _ _ _ _) _) _ _ _)); (fail_if_success (with_reducible show wpAny _ _ (pyIter _) _ _ _)); (fail_if_success (with_reducible show wpAny _ _ (exec (Stmt.While _ _ _ _) _) _ _ _)); (first | (k_unfold; (try dsimp only)) | walk1 | (dsimp only; walk1))))
        refine int_call (hv t htm).bd ?_
        (repeat' ((fail_if_success (with_reducible show wpAny _ _ (exec (Stmt.For _ _ _ _ _) _) _ _ _)); (fail_if_success (with_reducible show wpAny _ _ (eval (Expr.ListComp _ _ _ _) _) _ _ _)); (fail_if_success (with_reducible show wpAny _ _ (eval (Expr.DictComp _ _ _ _ _) _) _ _ _)); (fail_if_success (with_reducible show wpAny _ _ (pyIter _) _ _ _)); (fail_if_success (with_reducible show wpAny _ _ (exec (Stmt.While _ _ _ _) _) _ _ _)); (first | (k_unfold; (try dsimp only)) | walk1 | (dsimp only; walk1))))
        rename Fr s.heap L _ _ => F18
        rename News s.heap L _ _ => N18
        have P18 := KP _ F18.keep (fun p hp => N18 p (.tail _ (.tail _ (.tail _ hp))))
        have ex := (N18 _ (.head _))
        have ed := (N18 _ (.tail _ (.head _)))
        have el := (N18 _ (.tail _ (.tail _ (.head _))))
        have nex : x6 ≠ l0 := ne_cls ex.1 el.1 (by simp)
        have ned : d6 ≠ l0 := ne_cls ed.1 el.1 (by simp)
        have hGl : hG.get? l0 = none := by
          cases q : hG.get? l0 with
          | none => rfl
          | some o => rw [G.st _ _ q] at nl0; cases nl0
        have hln := layAll_length ((melted goes stays ts).take i)
        rw [List.length_take] at hln
        have hml : (melted goes stays ts).length = ts.length := List.length_map _
        refine lay_spec (G.keep F18.keep) (R'.le (by decide)) ⟨d6, hs6, tk6, n6, inst_of ex.1 ed.1⟩ el.1 hGl P18 (nm_ok (lt_min hlt.1 hlt.2) (lt_max hlt.1 hlt.2)) (hv t htm) (fun p hp => ⟨layAll_name _ p hp, hsm i p hp⟩) (by rw [sizeLine_eq]; omega) ?_
        intro as19 nl19 h19 tk19 sb19 e19 P19
        dsimp only at sb19
        have F19 := Fr.onBut F18 (adr := [l0]) (fun a ha => by rw [List.mem_singleton.mp ha]; exact ⟨el.2.1, nl0⟩) sb19
        have N19 : News s.heap L h19 [(x6, instObj 184 d6), (d6, dictOf [⟨hs6, .str (Str.ofString "_headers") tk6, .ref l0⟩] n6), (l0, lstObj (List.map Value.ref as19) nl19)] :=
          News.cons (News.cons (News.cons News.nil e19 el.2.1 nl0) (sb19 _ _ (by simpa using ned) ed.1) ed.2.1 ed.2.2) (sb19 _ _ (by simpa using nex) ex.1) ex.2.1 ex.2.2
        clear F18 N18
        (repeat' ((fail_if_success (with_reducible show wpAny _ _ (exec (Stmt.For _ _ _ _ _) _) _ _ _)); (fail_if_success (with_reducible show wpAny _ _ (eval (Expr.ListComp _ _ _ _) _) _ _ _)); (fail_if_success (with_reducible show wpAny _ _ (eval (Expr.DictComp _ _ _ _ _) _) _ _ _)); (fail_if_success (with_reducible show wpAny _ _ (pyIter _) _ _ _)); (fail_if_success (with_reducible show wpAny _ _ (exec (Stmt.While _ _ _ _) _) _ _ _)); (first | (k_unfold; (try dsimp only)) | walk1 | (dsimp only; walk1))))
        refine ⟨_, _, _, _, hk, rfl, F19, i + 1, _, _, _, _, _, as19, nl19, names_ext mlL (by (((repeat (refine And.intro rfl ?_)); exact trivial))) (by ((intro y hy; (simp only [List.contains_cons, List.contains_nil, Bool.or_false, Bool.or_eq_false_iff, beq_eq_false_iff_ne, ne_eq] at hy); simp [hy, lookup_ne, lookup_no]))), .inr ⟨rfl, ?_, ?_⟩, N19, ?_⟩
        · rw [List.length_map]; have := (List.getElem?_eq_some_iff.mp hti).1; omega
        · rw [List.length_map]
        · rw [layAll_step (q := srt (Tie.map (mf goes stays) t)) (by unfold melted; rw [List.getElem?_map, hti]; rfl)]
          exact P19
      · rename (_ != _) = false => a10
        have hy0 : y = Str.ofString "" := by simpa using a10
        have hcs : i = 0 ∧ ts = [] ∧ z = Str.ofString "" ∧ k = 1 := by
          rcases Nat.lt_or_ge i ts.length with q | q
          · exfalso
            have e := List.drop_eq_getElem_cons (l := ts.map fun t => (Tie.map (mf goes stays) t).row) (i := i) (by rw [List.length_map]; exact q)
            rw [e] at hRI hrow2
            obtain ⟨e1, e2⟩ := rest_sd hrow2 hRI (hsd' ())
            have := (hrow2 _ (.head _)).ne
            rw [← e1, hy0] at this
            exact this rfl
          · have e := List.drop_eq_nil_of_le (as := ts.map fun t => (Tie.map (mf goes stays) t).row) (i := i) (by rw [List.length_map]; exact q)
            rcases hrest with ⟨rfl, e0, hk⟩ | ⟨e0, _, _⟩
            · rw [List.drop_zero] at e
              rw [e] at e0 hk
              exact ⟨rfl, List.map_eq_nil_iff.mp e, (rest_sd0 e0 (hsd' ())).2, hk⟩
            · rw [e] at e0
              exact absurd (e0.trans (tl_ext rfl)) hx0
        obtain ⟨rfl, rfl, rfl, rfl⟩ := hcs
        rename Fr s.heap L _ _ => F18
        rename News s.heap L _ _ => N18
        have P18 := KP _ F18.keep (fun p hp => N18 p (.tail _ (.tail _ (.tail _ hp))))
        refine ⟨0, _, _, _, by decide, rfl, F18, 0, _, _, _, _, _, as7, nl7, names_ext mlL (by (((repeat (refine And.intro rfl ?_)); exact trivial))) (by ((intro y hy; (simp only [List.contains_cons, List.contains_nil, Bool.or_false, Bool.or_eq_false_iff, beq_eq_false_iff_ne, ne_eq] at hy); simp [hy, lookup_ne, lookup_no]))), .inr ⟨tl_ext rfl, Nat.le_refl _, rfl⟩, fun p hp => ?_, P18⟩
        simp only [List.mem_cons, List.not_mem_nil, or_false] at hp
        rcases hp with rfl | rfl | rfl
        · exact N18 _ (.head _)
        · exact N18 _ (.tail _ (.head _))
        · exact N18 _ (.tail _ (.tail _ (.head _)))
end
section
set_option maxRecDepth 100000
/-- two ties of the same two places -/
def sameT (t p : Tie) : Bool := lo1 p.1.1 == lo1 t.1.1 && lo1 p.1.2 == lo1 t.1.2
def layT (ps : List Tie) (t : Tie) : List Tie := match ps.find? (sameT t) with
  | none => ps ++ [t]
  | some p => (ps.filter fun q => !sameT t q) ++ [(t.1, (1 + p.2) * (1 + t.2) - 1)]
def layAllT (qs : List Tie) : List Tie := qs.foldl layT []
def AllLt (ts : List Tie) : Prop := ∀ t ∈ ts, t.Lt
theorem same_P {t p : Tie} (ht : t.Lt) (hp : p.Lt) : same t.P.1 p.P = sameT t p := by
  unfold same sameT Tie.P
  dsimp only
  rw [low_nm ht.1 ht.2, low_nm hp.1 hp.2, Bool.eq_iff_iff]
  simp only [beq_iff_eq, Bool.and_eq_true]
  constructor
  · intro e
    have := congrArg tl e
    simp [tl] at this
    exact this
  · rintro ⟨e1, e2⟩
    rw [e1, e2]
theorem find_P {t : Tie} (ht : t.Lt) : ∀ {ps : List Tie}, AllLt ps → (ps.map Tie.P).find? (same t.P.1) = (ps.find? (sameT t)).map Tie.P
  | [], _ => rfl
  | p :: r, h => by
    rw [List.map_cons, List.find?_cons, List.find?_cons, same_P ht (h p (.head _)), find_P ht fun q m => h q (.tail _ m)]
    cases sameT t p <;> rfl
theorem filter_P {t : Tie} (ht : t.Lt) {ps : List Tie} (h : AllLt ps) : (ps.map Tie.P).filter (fun q => !same t.P.1 q) = (ps.filter fun q => !sameT t q).map Tie.P := by
  rw [List.filter_map]
  congr 1
  refine List.filter_congr fun p hp => ?_
  show (!same t.P.1 p.P) = _
  rw [same_P ht (h p hp)]
theorem layT_lt {ps : List Tie} {t : Tie} (h : AllLt ps) (ht : t.Lt) : AllLt (layT ps t) := by
  intro q hq
  unfold layT at hq
  split at hq
  · rcases List.mem_append.mp hq with m | m
    · exact h q m
    · rw [List.mem_singleton.mp m]; exact ht
  · rcases List.mem_append.mp hq with m | m
    · exact h q (List.mem_filter.mp m).1
    · rw [List.mem_singleton.mp m]; exact ht
theorem layT_P {ps : List Tie} {t : Tie} (h : AllLt ps) (ht : t.Lt) : layOf (ps.map Tie.P) t.P.1 t.2 = (layT ps t).map Tie.P := by
  unfold layOf layT
  rw [find_P ht h]
  cases ps.find? (sameT t) with
  | none => simp [Tie.P]
  | some p =>
    show List.filter _ _ ++ _ = List.map Tie.P (_ ++ _)
    rw [filter_P ht h, List.map_append]; rfl
theorem layAllT_snoc (qs : List Tie) (q : Tie) : layAllT (qs ++ [q]) = layT (layAllT qs) q := by
  unfold layAllT
  rw [List.foldl_append]; rfl
theorem layAllT_ind : ∀ n, ∀ qs : List Tie, qs.length = n → AllLt qs → AllLt (layAllT qs) ∧ layAll qs = (layAllT qs).map Tie.P
  | 0, qs, h, _ => by rw [List.length_eq_zero_iff.mp h]; exact ⟨fun p hp => by simp [layAllT] at hp, rfl⟩
  | n + 1, qs, h, hq => by
    have hne : qs ≠ [] := by rintro rfl; simp at h
    have hq' : AllLt (qs.dropLast ++ [qs.getLast hne]) := by rw [List.dropLast_concat_getLast]; exact hq
    obtain ⟨h1, h2⟩ := layAllT_ind n qs.dropLast (by rw [List.length_dropLast]; omega) fun t m => hq' t (List.mem_append_left _ m)
    have hl : (qs.getLast hne).Lt := hq' _ (by simp)
    rw [← List.dropLast_concat_getLast hne, layAllT_snoc, layAll_snoc, h2]
    exact ⟨layT_lt h1 hl, layT_P h1 hl⟩
theorem layAllT_lt {qs : List Tie} (h : AllLt qs) : AllLt (layAllT qs) := (layAllT_ind _ qs rfl h).1
theorem layAll_P {qs : List Tie} (h : AllLt qs) : layAll qs = (layAllT qs).map Tie.P := (layAllT_ind _ qs rfl h).2
/-- how great the worths can grow -/
def wt (ps : List Tie) : Nat := (ps.map fun p => p.2.natAbs + 1).foldr (· * ·) 1
theorem wt_nil : wt [] = 1 := rfl
theorem wt_cons (p : Tie) (ps : List Tie) : wt (p :: ps) = (p.2.natAbs + 1) * wt ps := rfl
theorem wt_pos : ∀ ps : List Tie, 1 ≤ wt ps
  | [] => Nat.le_refl _
  | p :: r => by rw [wt_cons]; exact Nat.mul_le_mul (Nat.le_add_left 1 _) (wt_pos r)
theorem wt_app : ∀ a b : List Tie, wt (a ++ b) = wt a * wt b
  | [], b => by rw [List.nil_append, wt_nil, Nat.one_mul]
  | p :: r, b => by rw [List.cons_append, wt_cons, wt_cons, wt_app r b, Nat.mul_assoc]
theorem wt_mem {ps : List Tie} {p : Tie} (h : p ∈ ps) : p.2.natAbs + 1 ≤ wt ps := by
  induction ps with
  | nil => simp at h
  | cons q r ih =>
    rw [wt_cons]
    rcases List.mem_cons.mp h with rfl | m
    · exact Nat.le_mul_of_pos_right _ (wt_pos r)
    · exact Nat.le_trans (ih m) (Nat.le_mul_of_pos_left _ (Nat.succ_pos _))
theorem wt_filter (f : Tie → Bool) : ∀ ps : List Tie, wt (ps.filter f) ≤ wt ps
  | [] => Nat.le_refl _
  | p :: r => by
    rw [List.filter_cons]
    have ih := wt_filter f r
    split
    · rw [wt_cons, wt_cons]; exact Nat.mul_le_mul_left _ ih
    · rw [wt_cons]; exact Nat.le_trans ih (Nat.le_mul_of_pos_left _ (Nat.succ_pos _))
theorem wt_find {f : Tie → Bool} : ∀ {ps : List Tie} {p : Tie}, ps.find? f = some p → wt (ps.filter fun q => !f q) * (p.2.natAbs + 1) ≤ wt ps
  | [], _, h => by simp at h
  | q :: r, p, h => by
    rw [List.find?_cons] at h
    rw [List.filter_cons]
    cases hf : f q with
    | true =>
      rw [hf] at h
      cases h
      simp only [Bool.not_true, Bool.false_eq_true, if_false]
      rw [wt_cons, Nat.mul_comm]
      exact Nat.mul_le_mul_left _ (wt_filter _ r)
    | false =>
      rw [hf] at h
      have ih := wt_find h
      simp only [Bool.not_false, if_true]
      rw [wt_cons, wt_cons, Nat.mul_assoc]
      exact Nat.mul_le_mul_left _ ih
theorem merge_abs (a b : Int) : ((1 + a) * (1 + b) - 1).natAbs + 1 ≤ (a.natAbs + 1) * (b.natAbs + 1) := by
  have e : (1 + a) * (1 + b) - 1 = a + b + a * b := by
    rw [Int.add_mul, Int.one_mul, Int.mul_add, Int.mul_one]; omega
  rw [e]
  have h1 : (a + b + a * b).natAbs ≤ a.natAbs + b.natAbs + a.natAbs * b.natAbs := by
    refine Nat.le_trans (Int.natAbs_add_le _ _) ?_
    rw [Int.natAbs_mul]
    have := Int.natAbs_add_le a b
    omega
  have h2 : (a.natAbs + 1) * (b.natAbs + 1) = a.natAbs * b.natAbs + a.natAbs + b.natAbs + 1 := by
    rw [Nat.add_mul, Nat.mul_add, Nat.one_mul, Nat.mul_one]; omega
  omega
theorem wt_lay (ps : List Tie) (t : Tie) : wt (layT ps t) ≤ wt ps * (t.2.natAbs + 1) := by
  unfold layT
  split
  · rw [wt_app, wt_cons, wt_nil, Nat.mul_one]; exact Nat.le_refl _
  · rename_i p hf
    rw [wt_app, wt_cons, wt_nil, Nat.mul_one]
    refine Nat.le_trans (Nat.mul_le_mul_left _ (merge_abs p.2 t.2)) ?_
    rw [← Nat.mul_assoc]
    exact Nat.mul_le_mul_right _ (wt_find hf)
theorem wt_layAll : ∀ n, ∀ qs : List Tie, qs.length = n → wt (layAllT qs) ≤ wt qs
  | 0, qs, h => by rw [List.length_eq_zero_iff.mp h]; exact Nat.le_refl _
  | n + 1, qs, h => by
    have hne : qs ≠ [] := by rintro rfl; simp at h
    have ih := wt_layAll n qs.dropLast (by rw [List.length_dropLast]; omega)
    rw [← List.dropLast_concat_getLast hne, layAllT_snoc, wt_app, wt_cons, wt_nil, Nat.mul_one]
    exact Nat.le_trans (wt_lay _ _) (Nat.mul_le_mul_right _ ih)
theorem wt_take (qs : List Tie) (i : Nat) : wt (qs.take i) ≤ wt qs := by
  conv => rhs; rw [← List.take_append_drop i qs, wt_app]
  exact Nat.le_mul_of_pos_right _ (wt_pos _)
theorem wt_map (f : Nat → Nat) (ts : List Tie) : wt (ts.map fun t => srt (Tie.map f t)) = wt ts := by
  unfold wt; rw [List.map_map]; rfl
end
section
set_option maxRecDepth 100000
section
variable {prog : Program} {w : World} {A : Around} {E : Value → Shared → Prop} {s : Shared} {Q : Value → Shared → Prop}
/-- pairs == [] -/
theorem eq_empty {l b : Addr} {vs : List Value} (hl : s.heap.IsList l vs.toArray) (hb : s.heap.IsList b #[]) (hu : A.units < cLine) (h : Q (.bool vs.isEmpty) s) : wpAny (model prog w) A (compareOp .Eq (.ref l) (.ref b)) Q E s := by
  cases vs with
  | nil => exact SeqAt.eq_listAt (e := fun _ => true) hl hb rfl hu (fun j h1 h2 => absurd h1 (Nat.not_lt_zero _)) h
  | cons a r => exact SeqAt.eq_list_lengthsAt hl hb (by simp) hu h
theorem eq_cons {l b : Addr} {v : Value} {vs : List Value} (hl : s.heap.IsList l (v :: vs).toArray) (hb : s.heap.IsList b #[]) (hu : A.units < cLine) (h : Q (.bool false) s) : wpAny (model prog w) A (compareOp .Eq (.ref l) (.ref b)) Q E s :=
  SeqAt.eq_list_lengthsAt hl hb (by simp) hu h
end
end
section
open Rx
/-- the counts, with so many turns at the most -/
def tallyF : Nat → List Tie → Int → List (Int × Int)
  | 0, _, p => [(p, 1)]
  | _ + 1, [], p => [(p, 1)]
  | n + 1, t :: ts, p =>
    addOf (tallyF n ((t :: ts).filter fun q => !sameT t q) p)
      ((tallyF n (layAllT (melted (max (lo1 t.1.1) (lo1 t.1.2)) (min (lo1 t.1.1) (lo1 t.1.2)) ((t :: ts).filter fun q => !sameT t q))) (p - 1)).map fun kc => (kc.1, t.2 * kc.2))
theorem Room.cl {A : Around} {n : Nat} (R : Room A n) : A.units < cLine := by
  have := R.units
  have e : cLine = 9900 := rfl
  omega
set_option maxRecDepth 100000 in
set_option maxHeartbeats 2000000 in
theorem tally_nil {w : World} {A : Around} {E Q : Value → Shared → Prop} {s : Shared} {mean : ExcName → Option Value} {mg mb : Str → Option Value} {hG : Heap} {l : Addr} {p : Int} {tp : Tok}
   (G : Ok w mean mg mb hG s.heap) (R : Room A 25) (HL : RefsAt s.heap l [])
   (h : ∀ d h' tk', s.heap.StaysIn h' → s.heap.get? d = none → CntAt Challenge.rw_qj0003_01.row.prog w h' d [(p, 1)] → Q (.ref d) { s with heap := h', toks := tk' }) :
   wpAny (model Challenge.rw_qj0003_01.row.prog w) A (call (.ref 242) [.ref l, .int p tp]) Q E s := by
  refine wpAny_call (enterC (n := 24) [] (binds := [(Str.ofString "pairs", .ref l), (Str.ofString "places", .int p tp)]) G R (by simp) (by k_is) (by k_is) (BindsTo.of_eq rfl) rfl (by decide +kernel) rfl rfl rfl ?_)
  intro g L h₁ A' tk cells R' F N Y X T G' sb gs ltL lt2
  k_cells Y
  rename Obj => co
  rename co.data = _ => hco
  have hco : co.data = .cell none := hco
  have F : Fr g L h₁ (fun y => if y = Str.ofString "places" then some (.int p tp) else if y = Str.ofString "pairs" then some (.ref l) else none) := F
  have N : News g L h₁ [(L + 1, co)] := N
  have hA := R'.handled
  have HL' : RefsAt g l [] := HL.on sb.nil
  have hls : g.IsList l #[] := HL'.isList
  (repeat' ((fail_if_success (with_reducible show wpAny _ _ (exec (Stmt.For _ _ _ _ _) _) _ _ _)); (fail_if_success (with_reducible show wpAny _ _ (eval (Expr.ListComp _ _ _ _) _) _ _ _)); (fail_if_success (with_reducible show wpAny _ _ (eval (Expr.DictComp _ _ _ _ _) _) _ _ _)); (fail_if_success (with_reducible show wpAny _ _ (pyIter _) _ _ _)); (fail_if_success (with_reducible show wpAny _ _ (exec (Stmt.While _ _ _ _) _) _ _ _)); (first | (k_unfold; (try dsimp only)) | walk1 | (dsimp only; walk1))))
  rename Fr g L _ _ => F2
  rename News g L _ _ => N2
  refine eq_empty (vs := []) (hls.at fun o e => F2.keep _ _ e) ⟨_, (N2 _ (.head _)).1, rfl, _, rfl⟩ (R'.cl) ?_
  (repeat' ((fail_if_success (with_reducible show wpAny _ _ (exec (Stmt.For _ _ _ _ _) _) _ _ _)); (fail_if_success (with_reducible show wpAny _ _ (eval (Expr.ListComp _ _ _ _) _) _ _ _)); (fail_if_success (with_reducible show wpAny _ _ (eval (Expr.DictComp _ _ _ _ _) _) _ _ _)); (fail_if_success (with_reducible show wpAny _ _ (pyIter _) _ _ _)); (fail_if_success (with_reducible show wpAny _ _ (exec (Stmt.While _ _ _ _) _) _ _ _)); (first | (k_unfold; (try dsimp only)) | walk1 | (dsimp only; walk1))))
  refine kdn_eval (knd := intKind _ _) F2 N2 T.nolimit rfl rfl (List.cons_ne_nil _ _) (by decide) ?_
  intro d h3 o F3 N4 lt3 lo3 hd3
  clear F2 N2
  (repeat' ((fail_if_success (with_reducible show wpAny _ _ (exec (Stmt.For _ _ _ _ _) _) _ _ _)); (fail_if_success (with_reducible show wpAny _ _ (eval (Expr.ListComp _ _ _ _) _) _ _ _)); (fail_if_success (with_reducible show wpAny _ _ (eval (Expr.DictComp _ _ _ _ _) _) _ _ _)); (fail_if_success (with_reducible show wpAny _ _ (pyIter _) _ _ _)); (fail_if_success (with_reducible show wpAny _ _ (exec (Stmt.While _ _ _ _) _) _ _ _)); (first | (k_unfold; (try dsimp only)) | walk1 | (dsimp only; walk1))))
  refine kdn_made_int F3 N4 (UpdF.head fun p hp => Nat.ne_of_lt (lt3 p hp)) hd3 rfl (by simp [intKeyPairs]) ?_
  intro h5 o5 F5 N5 hd5
  clear F3 N4
  (repeat' ((fail_if_success (with_reducible show wpAny _ _ (exec (Stmt.For _ _ _ _ _) _) _ _ _)); (fail_if_success (with_reducible show wpAny _ _ (eval (Expr.ListComp _ _ _ _) _) _ _ _)); (fail_if_success (with_reducible show wpAny _ _ (eval (Expr.DictComp _ _ _ _ _) _) _ _ _)); (fail_if_success (with_reducible show wpAny _ _ (pyIter _) _ _ _)); (fail_if_success (with_reducible show wpAny _ _ (exec (Stmt.While _ _ _ _) _) _ _ _)); (first | (k_unfold; (try dsimp only)) | walk1 | (dsimp only; walk1))))
  have e5 := N5 _ (.head _)
  dsimp only at e5
  refine h d h5 _ (fun b o e => F5.keep _ _ (sb.nil _ _ e)) ?_ ⟨_, Heap.dictOf_iff.mpr ⟨_, e5.1, hd5⟩, .cons .nil⟩
  cases q : s.heap.get? d with
  | none => rfl
  | some o => rw [sb.nil _ _ q] at e5; cases e5.2.2
end
section
set_option maxRecDepth 100000
open Builtin Builtin.Str
/-- the letter in the other size -/
def sw (c : Nat) : Nat := if 65 ≤ c ∧ c ≤ 90 then c + 32 else if 97 ≤ c ∧ c ≤ 122 then c - 32 else c
theorem sw_ascii : ∀ c, c < 128 → (if Unicode.isUpper c then Unicode.lowerOf c else if Unicode.isLower c then Unicode.upperOf c else [c]) = [sw c] := by decide +kernel
theorem Lt.sw {c : Nat} (h : Lt c) : Lt (sw c) := by
  unfold Mine.sw; unfold Lt at h ⊢; repeat' split
  all_goals omega
theorem Lt.lo_sw {c : Nat} (h : Lt c) : lo1 (Mine.sw c) = lo1 c := by
  unfold Mine.sw lo1; unfold Lt at h; repeat' split
  all_goals omega
theorem nm_small {a b : Nat} (ha : Lt a) (hb : Lt b) : ∀ c ∈ (nm2 a b).cps.toList, c < 128 := by
  intro c hc
  unfold Lt at ha hb
  simp only [List.mem_cons, List.not_mem_nil, or_false] at hc
  rcases hc with rfl | rfl <;> omega
theorem swap_nm {a b : Nat} (ha : Lt a) (hb : Lt b) : Txt.swapcase (nm2 a b) = nm2 (sw a) (sw b) := by
  unfold Txt.swapcase
  rw [placed_single (nm2 a b) _ sw fun i c hc => by
    have hc' : (nm2 a b).cps[i]? = some c := by simpa using hc
    have hlt := nm_small ha hb c (List.mem_of_getElem? hc)
    have e : Unicode.lowerAt (nm2 a b).cps i = Unicode.lowerOf c := by
      unfold Unicode.lowerAt
      rw [hc']
      have hne : (c == 0x3A3) = false := by rw [beq_eq_false_iff_ne]; omega
      simp only [hne, Bool.false_and, Bool.false_eq_true, if_false]
    rw [e]
    exact sw_ascii c hlt]
  exact tl_ext (by simp [tl])
theorem upper_nm {a b : Nat} (ha : Lt a) (hb : Lt b) : Txt.upper (nm2 a b) = nm2 (up1 a) (up1 b) := by
  rw [upper_ascii (nm_small ha hb)]
  exact tl_ext (by simp [tl])
end
section
set_option maxRecDepth 100000
section
variable {prog : Program} {w : World} {A : Around} {s : Shared} {R : Result → Shared → Prop}
theorem compLoopD_any {kx vx target iter : Expr} {scope : Scope} {pos : Pos} {it : Value} {D : Addr} {env : Env} (I : Nat → Shared → Prop)
    (turn : ∀ n s, I n s → wpAny (model prog w) A (pyNext it) (fun r s₁ => match r with
      | none => R (.ok .next) s₁
      | some v => wpAny (model prog w) A (letOwnedTupleGo target it v) (fun _ s₁' => wpAny (model prog w) A (assign target env v) (fun _ s₂ =>
          wpAny (model prog w) A (eval kx env) (fun kv s₄ => wpAny (model prog w) A (eval vx env) (fun vv s₅ =>
              wpAny (model prog w) A (dictSet D kv vv) (fun _ s₆ => ∃ m, m < n ∧ I m s₆) (fun _ _ => False) s₅) (fun _ _ => False) s₄) (fun _ _ => False) s₂) (fun _ _ => False) s₁') (fun _ _ => False) s₁) (fun _ _ => False) s)
    (n : Nat) (h : I n s) :
    codeAny (model prog w) A (.compLoop (.DictComp kx vx [⟨target, iter, [], 0⟩] scope pos) 0 it (.ref D) env) R s := by
  refine codeAny_loop rfl I (fun n s hI => ?_) n h
  show wpAny _ A ((compTurn (.DictComp kx vx [⟨target, iter, [], 0⟩] scope pos) 0 it (.ref D) env).onRaise (fun x => do noteFrame x env; theTreesLotGoes x)) _ _ s
  refine wpAny_noted ?_
  rw [compTurn_dict]
  refine wpAny_bind (wpAny_standAt (wpAny_bind (wpAny_mono (turn n s hI) (fun r s₁ h₁ => ?_) fun _ _ h' => h'.elim)))
  cases r with
  | none => exact wpAny_pure h₁
  | some v =>
    refine wpAny_bind (wpAny_mono h₁ (fun _ s₁' h₁' => ?_) fun _ _ h' => h'.elim)
    refine wpAny_bind (wpAny_mono h₁' (fun _ s₂ h₃ => wpAny_bind (wpAny_pure ?_)) fun _ _ h' => h'.elim)
    exact wpAny_bind (wpAny_bind (wpAny_mono h₃ (fun kv s₄ h₄ => wpAny_bind (wpAny_holding (wpAny_mono h₄ (fun vv s₅ h₅ => wpAny_bind (wpAny_standAt (wpAny_holding (wpAny_mono h₅ (fun _ s₆ h₆ => wpAny_pure ⟨rfl, h₆⟩) fun _ _ h' => h'.elim)))) fun _ _ h' => h'.elim))) fun _ _ h' => h'.elim))
end
section
variable {prog : Program} {w : World} {K : Type} [DecidableEq K] {knd : KeyKind prog w K} {A : Around} {E : Value → Shared → Prop} {env : Env}

theorem compD_block {kx vx iter target : Expr} {scope : Scope} {cl : List (Str × Addr)} {pos : Pos} {s₂ : Shared} {I : Addr} {hb : Heap} {n : Nat} {P : Nat → Value → Heap → Prop}
    {St : Nat → Heap → Prop} {wr : List Addr} (W : It prog w A target I hb n P St wr) (hsz : n ≤ sizeLine) {RR : Value → Addr → Result → Shared → Prop}
    (hcell : ∀ y ∈ scope.names, y.2 ≠ .cell) (hkind : scope.kind = .function) (hst : St 0 s₂.heap) (hbs : hb.StaysIn s₂.heap) (hwb : ∀ b ∈ wr, hb.get? b = none) (hbsz : hb.objs.size ≤ s₂.heap.objs.size)
    (J : Nat → List (K × Value) → Prop)
    (hJl : ∀ i kvs, J i kvs → kvs.length ≤ i)
    (hj : J 0 [])
    (turn : ∀ C D dob i v m₂ kvs h tk ino, i < n → P i v h → J i kvs → ino.map (·.1) = wr → D ∉ wr → Fr hb C h m₂ → News hb C h ((D, dob) :: ino) →
      wpAny (model prog w) A (assign target (compEnvC scope cl C env) v) (fun _ s₃ => wpAny (model prog w) A (eval kx (compEnvC scope cl C env)) (fun kv s₄ => wpAny (model prog w) A (eval vx (compEnvC scope cl C env)) (fun vv s₅ =>
        ∃ k h' tk' m', knd.is k kv = true ∧ s₅ = { s₂ with heap := h', toks := tk' } ∧ Fr hb C h' m' ∧ News hb C h' ((D, dob) :: ino) ∧ J (i + 1) (stored kvs k vv)) (fun _ _ => False) s₄) (fun _ _ => False) s₃) (fun _ _ => False) { s₂ with heap := h, toks := tk })
    (hRR : ∀ D C h tk m' kvs, J n kvs → Fr hb C h m' → h.DictOf knd D kvs → hb.get? D = none → hb.get? C = none → D ≠ C → RR (.ref D) C (.ok .next) { s₂ with heap := h, toks := tk }) :
    wpAny (model prog w) A newDict (fun acc s₃ => wpAny (model prog w) A (newFunctionEnv scope env.globals cl [] env.qual none .none (some env)) (fun cenv s₄ =>
      codeAny (model prog w) A (.compStart (.DictComp kx vx [⟨target, iter, [], 0⟩] scope pos) 0 (.ref I) acc { cenv with scope := relabel scope env }) (RR acc cenv.locals) s₄) E s₃) E s₂ := by
  refine wpAny_newObj_type (wpAny_newFunctionEnv hcell (by intro y hy; simp at hy) (fun h₁ hns₁ hsb₁ => ?_) hkind)
  dsimp only at hns₁ hsb₁ ⊢
  have hnew : (s₂.heap.push { cls := .type "dict", dict := none, data := .dict #[] }).DictOf knd s₂.heap.objs.size [] := Heap.DictOf.new s₂.heap
  generalize hH2 : s₂.heap.push { cls := .type "dict", dict := none, data := .dict #[] } = H2 at hns₁ hsb₁ hnew ⊢
  have hC : H2.objs.size = s₂.heap.objs.size + 1 := by rw [← hH2, Heap.size_push]
  have hDC : s₂.heap.objs.size ≠ H2.objs.size := by rw [hC]; exact Nat.ne_of_lt (Nat.lt_succ_self _)
  have below : ∀ b, b < s₂.heap.objs.size → b ≠ H2.objs.size ∧ b ≠ s₂.heap.objs.size := fun b hb => ⟨by rw [hC]; exact Nat.ne_of_lt (Nat.lt_succ_of_lt hb), Nat.ne_of_lt hb⟩
  have old : ∀ b o, s₂.heap.get? b = some o → h₁.get? b = some o := fun b o e => hsb₁.extBut b o (below b (Heap.lt_size e)).1 (Heap.get?_push_of_some _ (hH2 ▸ Heap.get?_push_of_some _ e))
  have hacc : h₁.DictOf knd s₂.heap.objs.size [] := hnew.at fun o e => hsb₁.extBut _ _ hDC (Heap.get?_push_of_some _ e)
  have wlt : ∀ b ∈ wr, b < s₂.heap.objs.size := fun b hb' => let ⟨o, e, _⟩ := W.here _ _ hst b hb'; Heap.lt_size e
  have hst₁ : St 0 h₁ := W.frame _ _ _ hst (fun b o e => old b o (hbs b o e)) fun b _ o e => old b o e
  have fresh₀ : ∀ a, s₂.heap.objs.size ≤ a → hb.get? a = none := fun a ha => Heap.get?_none_of_le (Nat.le_trans hbsz ha)
  have hD₀ : hb.get? s₂.heap.objs.size = none := fresh₀ _ (Nat.le_refl _)
  have hCle : s₂.heap.objs.size ≤ H2.objs.size := by rw [hC]; exact Nat.le_succ _
  have hC₀ : hb.get? H2.objs.size = none := fresh₀ _ hCle
  have hDw : s₂.heap.objs.size ∉ wr := fun q => Nat.lt_irrefl _ (wlt _ q)
  have hCw : H2.objs.size ∉ wr := fun q => by have := wlt _ q; exact absurd hCle (Nat.not_le.mpr this)
  have hwL : ∀ b ∈ wr, b ≠ H2.objs.size ∧ hb.get? b = none := fun b q => ⟨fun e => hCw (e ▸ q), hwb b q⟩
  have F₀ : Fr hb H2.objs.size h₁ (fun x => ([] : List (Str × Value)).reverse.lookup x) := ⟨hns₁, fun b o e => old b o (hbs b o e), Nat.le_trans hbsz hCle⟩
  have loop : ∀ s₃ : Shared, s₃ = { s₂ with heap := h₁, toks := s₂.toks + ([] : List (Str × Value)).length } →
      codeAny (model prog w) A (.compLoop (.DictComp kx vx [⟨target, iter, [], 0⟩] scope pos) 0 (.ref I) (.ref s₂.heap.objs.size) (compEnvC scope cl H2.objs.size env))
        (RR (.ref s₂.heap.objs.size) H2.objs.size) s₃ := by
    rintro s₃ rfl
    refine compLoopD_any (fun k s' => ∃ h' tk m' i kvs, s' = { s₂ with heap := h', toks := tk } ∧ St i h' ∧ Fr hb H2.objs.size h' m' ∧ h'.DictOf knd s₂.heap.objs.size kvs ∧ J i kvs ∧ i ≤ n ∧ k = n + 1 - i) ?_ (n + 1)
      ⟨h₁, _, _, 0, [], rfl, hst₁, F₀, hacc, hj, Nat.zero_le _, rfl⟩
    rintro k s' ⟨h', tk, m', i, kvs, rfl, hst', F', hD', hJ, hi, rfl⟩
    by_cases q : i < n
    · refine wpAny_mono (W.item i { s₂ with heap := h', toks := tk } (fun v s₁' => wpAny (model prog w) A (assign target (compEnvC scope cl H2.objs.size env) v) (fun _ s₂' =>
          wpAny (model prog w) A (eval kx (compEnvC scope cl H2.objs.size env)) (fun kv s₄ => wpAny (model prog w) A (eval vx (compEnvC scope cl H2.objs.size env)) (fun vv s₅ =>
              wpAny (model prog w) A (dictSet s₂.heap.objs.size kv vv) (fun _ s₆ => ∃ m, m < n + 1 - i ∧ ∃ h' tk m' i kvs, s₆ = { s₂ with heap := h', toks := tk } ∧ St i h' ∧ Fr hb H2.objs.size h' m' ∧ h'.DictOf knd s₂.heap.objs.size kvs ∧ J i kvs ∧ i ≤ n ∧ m = n + 1 - i) (fun _ _ => False) s₅) (fun _ _ => False) s₄) (fun _ _ => False) s₂') (fun _ _ => False) s₁') q hst' fun v h₂ tk₂ hP hst₂ sb => ?_) (fun r s₁ hr => ?_) (fun _ _ x => x.elim)
      · obtain ⟨ino, hi1, hi2⟩ := mem_zip wr fun b hb' => let ⟨o, e, _⟩ := W.here _ _ hst₂ b hb'; ⟨o, e⟩
        have F₂ : Fr hb H2.objs.size h₂ m' := Fr.onBut F' hwL sb
        obtain ⟨dob, hdo, hdi⟩ := Heap.dictOf_iff.mp hD'
        have N₂ : News hb H2.objs.size h₂ ((s₂.heap.objs.size, dob) :: ino) := fun p hp => by
          rcases List.mem_cons.mp hp with rfl | hp
          · exact ⟨sb _ _ hDw hdo, hDC, hD₀⟩
          · have := hwL p.1 (hi1 ▸ List.mem_map_of_mem hp)
            exact ⟨hi2 p hp, this.1, this.2⟩
        have st' : ∀ h₃ : Heap, hb.StaysIn h₃ → (∀ p ∈ ino, h₃.get? p.1 = some p.2) → St (i + 1) h₃ := fun h₃ k1 k2 => W.frame _ _ _ hst₂ k1 fun b hb' o e => by
          obtain ⟨p, hp, rfl⟩ := List.mem_map.mp (hi1 ▸ hb' : b ∈ ino.map (·.1))
          rw [hi2 p hp] at e; cases e
          exact k2 p hp
        refine wpAny_mono (turn H2.objs.size s₂.heap.objs.size dob i v m' kvs h₂ tk₂ ino q hP hJ hi1 hDw F₂ N₂) (fun _ s₃ h₃ => wpAny_mono h₃ (fun kv s₄ h₄ => wpAny_mono h₄ (fun vv s₅ h₅ => ?_) fun _ _ x => x.elim) fun _ _ x => x.elim) fun _ _ x => x.elim
        obtain ⟨k, hz, tkz, mz, hk, rfl, Fz, Nz, Jz⟩ := h₅
        have hlen : kvs.length ≤ sizeLine := by
          have := hJl _ _ hJ
          omega
        refine wpAny_dictSet_pairs (knd := knd) (hsz := hlen) hk (Heap.dictOf_iff.mpr ⟨dob, (Nz _ (.head _)).1, hdi⟩) fun h₆ hl₆ hs₆ => ?_
        have sb₆ : StaysBut [s₂.heap.objs.size] hz h₆ := fun b o nb e => hs₆.extBut b o (by simpa using nb) e
        have F₆ : Fr hb H2.objs.size h₆ mz := Fr.onBut Fz (fun b hb' => by rcases List.mem_singleton.mp hb' with rfl; exact ⟨hDC, hD₀⟩) sb₆
        refine ⟨n + 1 - (i + 1), by omega, h₆, _, mz, i + 1, stored kvs k vv, rfl, st' h₆ F₆.keep (fun p hp => sb₆ _ _ ?_ (Nz p (.tail _ hp)).1), F₆, hl₆, Jz, q, rfl⟩
        intro hm
        have := List.mem_singleton.mp hm
        exact hDw (this ▸ hi1 ▸ List.mem_map_of_mem hp)
      · obtain ⟨v, rfl, hr⟩ := hr
        exact hr
    · have hin : i = n := by omega
      subst hin
      refine wpAny_mono (W.done { s₂ with heap := h', toks := tk } (fun r s₁ => r = none ∧ ∃ h₁ tk₁, s₁ = { s₂ with heap := h₁, toks := tk₁ } ∧ StaysBut wr h' h₁) hst' fun h₁ tk₁ sb => ⟨rfl, h₁, tk₁, rfl, sb⟩) (fun r s₁ hr => ?_) (fun _ _ x => x.elim)
      obtain ⟨rfl, h₂, tk₂, rfl, sb⟩ := hr
      exact hRR _ _ h₂ tk₂ m' kvs hJ (Fr.onBut F' hwL sb) (hD'.at fun o e => sb _ _ hDw e) hD₀ hC₀ hDC
  exact codeAny_compStart_dict (loop _ rfl) (wpAny_mono (W.self 0 _ _ hst₁ (loop _ rfl)) (fun _ _ x => x) fun _ _ x => x.elim)

/-- a dict comprehension over d.items() -/
theorem compD_items {s : Shared} {kx vx iter : Expr} {scope : Scope} {cl : List (Str × Addr)} {pos : Pos} {Q : Value → Shared → Prop} {elts : List Expr} {x1 : Nat} {tpos : Pos} {K₂ : Type} [DecidableEq K₂] {knd₂ : KeyKind prog w K₂}
    (hh : A.handled = none)
    (hclos : closureFor scope env = pure cl) (hcell : ∀ y ∈ scope.names, y.2 ≠ .cell) (hkind : scope.kind = .function)
    (hnames : ∀ y ∈ scope.names, y.2 = .local → scope.names.lookup y.1 = some .local)
    (h : wpAny (model prog w) A (eval iter env) (fun xv s₁ => ∃ V d kvs₀ ep, xv = .ref V ∧ s₁.heap.IsItemsView V d ∧ s₁.heap.DictAt knd₂ d kvs₀ ep ∧ kvs₀.length ≤ sizeLine ∧
      ∃ J : Nat → List (K × Value) → Prop, (∀ i kvs, J i kvs → kvs.length ≤ i) ∧ J 0 [] ∧
      (∀ C D dob i k vv key a I io m₂ kvs h tk, kvs₀[i]? = some (k, vv) → knd₂.is k key = true → h.get? a = some (tupObj [key, vv] 0) → J i kvs → D ≠ I → Fr s₁.heap C h m₂ → News s₁.heap C h [(D, dob), (I, io)] →
        wpAny (model prog w) A (assign (.Tuple elts x1 tpos) (compEnvC scope cl C env) (.ref a)) (fun _ s₃ => wpAny (model prog w) A (eval kx (compEnvC scope cl C env)) (fun kv s₄ => wpAny (model prog w) A (eval vx (compEnvC scope cl C env)) (fun vv s₅ =>
          ∃ k h' tk' m', knd.is k kv = true ∧ s₅ = { s₁ with heap := h', toks := tk' } ∧ Fr s₁.heap C h' m' ∧ News s₁.heap C h' [(D, dob), (I, io)] ∧ J (i + 1) (stored kvs k vv)) (fun _ _ => False) s₄) (fun _ _ => False) s₃) (fun _ _ => False) { s₁ with heap := h, toks := tk }) ∧
      (∀ D h tk kvs, J kvs₀.length kvs → s₁.heap.StaysIn h → h.DictOf knd D kvs → s₁.heap.get? D = none → Q (.ref D) { s₁ with heap := h, toks := tk })) E s)
    (hs : ∀ x, foldedSetIterable iter env x = pure x := by intro _; rfl) :
    wpAny (model prog w) A (eval (.DictComp kx vx [⟨.Tuple elts x1 tpos, iter, [], 0⟩] scope pos) env) Q E s := by
  rw [arm_eval_DictComp]
  refine wpAny_comprehension_free (use := none) rfl hs hclos hkind hnames (wpAny_mono h (fun xv s₁ h₁ => ?_) fun _ _ e => e)
  obtain ⟨V, d, kvs₀, ep, rfl, hv, hm, hsz, J, hJl, hj, turn, hQ⟩ := h₁
  have hI : s₁.heap.get? s₁.heap.objs.size = none := Heap.get?_none_of_le (Nat.le_refl _)
  refine wpAny_pyIter_items hv hm ?_
  have st : ∀ o : Obj, s₁.heap.StaysIn (s₁.heap.push o) := fun o b o' e => Heap.get?_push_of_some _ e
  refine compD_block (knd := knd) (RR := fun acc C => compPost (model prog w) A E none Q acc C) (It.items (knd := knd₂) hh hm hI) hsz hcell hkind ⟨⟨.none, .none, Heap.get?_push_size _ rfl⟩, hm.push _⟩ (st _) (fun b hb' => by rw [List.mem_singleton.mp hb']; exact hI) ?_ J hJl hj ?_ ?_
  · show s₁.heap.objs.size ≤ (s₁.heap.push _).objs.size
    rw [Heap.size_push]; exact Nat.le_succ _
  · intro C D dob i v m₂ kvs h tk ino hi hP hJ hino hDw F N
    obtain ⟨⟨I, io⟩, rfl, hI2⟩ := List.map_eq_singleton_iff.mp hino
    obtain ⟨k, vv, key, a, hx, hkey, rfl, ha⟩ := hP
    have hI2 : I = s₁.heap.objs.size := hI2
    subst hI2
    exact turn C D dob i k vv key a _ io m₂ kvs h tk hx hkey ha hJ (fun q => hDw (by rw [q]; exact List.mem_singleton.mpr rfl)) F N
  · intro D C h tk m' kvs hJ F hD hD0 hC0 hDC
    refine ⟨m', F.ns, fun h'' hs'' => ?_⟩
    have sb : StaysBut [C] h h'' := fun b o nb e => hs''.extBut b o (by simpa using nb) e
    exact hQ D h'' tk kvs hJ (fun b o e => sb b o (fun q => by rw [List.mem_singleton.mp q, hC0] at e; cases e) (F.keep b o e)) (hD.at fun o e => sb _ _ (by simpa using hDC) e) hD0
end
end
section
set_option maxRecDepth 100000
/-- the sum over the colours below q -/
def sumR : Nat → (Nat → Int) → Int
  | 0, _ => 0
  | n + 1, f => sumR n f + f n
/-- a colouring of the four places -/
def col (a b c d x : Nat) : Nat := if x = 97 then a else if x = 98 then b else if x = 99 then c else if x = 100 then d else 0
def Zq (q : Nat) (F : (Nat → Nat) → Int) : Int := sumR q fun a => sumR q fun b => sumR q fun c => sumR q fun d => F (col a b c d)
def fac (σ : Nat → Nat) (t : Tie) : Int := if σ (lo1 t.1.1) = σ (lo1 t.1.2) then 1 + t.2 else 1
def prodT (σ : Nat → Nat) : List Tie → Int
  | [] => 1
  | t :: ts => fac σ t * prodT σ ts
theorem sumR_lin (v : Int) (f g : Nat → Int) : ∀ q, sumR q (fun a => f a + v * g a) = sumR q f + v * sumR q g
  | 0 => by simp [sumR]
  | q + 1 => by simp only [sumR, sumR_lin v f g q, Int.mul_add]; omega
theorem sumR_congr {f g : Nat → Int} : ∀ {q : Nat}, (∀ i, i < q → f i = g i) → sumR q f = sumR q g
  | 0, _ => rfl
  | q + 1, h => by
    simp only [sumR]
    rw [sumR_congr fun i hi => h i (Nat.lt_succ_of_lt hi), h q (Nat.lt_succ_self _)]
theorem sumR_mul (v : Int) (f : Nat → Int) : ∀ q, sumR q (fun a => v * f a) = v * sumR q f
  | 0 => by simp [sumR]
  | q + 1 => by simp only [sumR, sumR_mul v f q, Int.mul_add]
theorem sumR_const (x : Int) : ∀ q : Nat, sumR q (fun _ => x) = q * x
  | 0 => by simp [sumR]
  | q + 1 => by
    simp only [sumR, sumR_const x q]
    rw [show ((q + 1 : Nat) : Int) = (q : Int) + 1 from rfl, Int.add_mul, Int.one_mul]
theorem sumR_if (p : Prop) [Decidable p] (f : Nat → Int) : ∀ q, sumR q (fun a => if p then f a else 0) = if p then sumR q f else 0
  | 0 => by simp [sumR]
  | q + 1 => by
    simp only [sumR, sumR_if p f q]
    split <;> simp
theorem sumR_hit (a : Nat) (f : Nat → Int) : ∀ q, sumR q (fun b => if a = b then f b else 0) = if a < q then f a else 0
  | 0 => by simp [sumR]
  | q + 1 => by
    simp only [sumR, sumR_hit a f q]
    by_cases e : a = q
    · subst e; simp
    · by_cases h : a < q
      · rw [if_pos h, if_neg e, if_pos (Nat.lt_succ_of_lt h), Int.add_zero]
      · rw [if_neg h, if_neg e, if_neg (by omega), Int.add_zero]
/-- one place made another's -/
theorem sumR_join {q a : Nat} (h : a < q) (f : Nat → Int) : sumR q (fun _ => f a) = q * sumR q fun b => if a = b then f b else 0 := by
  rw [sumR_const, sumR_hit, if_pos h]
theorem Zq_lin (v : Int) (F G : (Nat → Nat) → Int) (q : Nat) : Zq q (fun σ => F σ + v * G σ) = Zq q F + v * Zq q G := by
  unfold Zq; simp only [sumR_lin]
theorem prodT_app (σ : Nat → Nat) : ∀ a b : List Tie, prodT σ (a ++ b) = prodT σ a * prodT σ b
  | [], b => by simp [prodT]
  | t :: r, b => by simp only [List.cons_append, prodT, prodT_app σ r b, Int.mul_assoc]
def sub (g s x : Nat) : Nat := if x = g then s else x
theorem cut_col {g s a b c d a' b' c' d' : Nat} (hs : 97 ≤ s ∧ s ≤ 100) (hg : 97 ≤ g ∧ g ≤ 100) (h : col a b c d (sub g s 97) = a' ∧ col a b c d (sub g s 98) = b' ∧ col a b c d (sub g s 99) = c' ∧ col a b c d (sub g s 100) = d') : (fun x => col a b c d (sub g s x)) = col a' b' c' d' := by
  obtain ⟨rfl, rfl, rfl, rfl⟩ := h
  funext x
  by_cases h1 : x = 97
  · subst h1; rfl
  by_cases h2 : x = 98
  · subst h2; rfl
  by_cases h3 : x = 99
  · subst h3; rfl
  by_cases h4 : x = 100
  · subst h4; rfl
  have e : sub g s x = x := if_neg (by omega)
  rw [e]
  unfold col
  rw [if_neg h1, if_neg h2, if_neg h3, if_neg h4, if_neg h1, if_neg h2, if_neg h3, if_neg h4]
/-- the contraction: two places made one -/
theorem Zq_cut {q g s : Nat} (hs : 97 ≤ s) (hsg : s < g) (hg : g ≤ 100) (F : (Nat → Nat) → Int) :
    Zq q (fun σ => F fun x => σ (sub g s x)) = q * Zq q (fun σ => if σ s = σ g then F σ else 0) := by
  have hc : (s = 97 ∧ g = 98) ∨ (s = 97 ∧ g = 99) ∨ (s = 97 ∧ g = 100) ∨ (s = 98 ∧ g = 99) ∨ (s = 98 ∧ g = 100) ∨ (s = 99 ∧ g = 100) := by omega
  unfold Zq
  rcases hc with ⟨rfl, rfl⟩ | ⟨rfl, rfl⟩ | ⟨rfl, rfl⟩ | ⟨rfl, rfl⟩ | ⟨rfl, rfl⟩ | ⟨rfl, rfl⟩
  · rw [← sumR_mul]
    refine sumR_congr fun a ha => ?_
    rw [show (fun b => sumR q fun c => sumR q fun d => F fun x => col a b c d (sub 98 97 x)) = fun _ => sumR q fun c => sumR q fun d => F (col a a c d) from funext fun b => by
      refine sumR_congr fun c _ => sumR_congr fun d _ => ?_
      rw [cut_col (by decide) (by decide) ⟨rfl, rfl, rfl, rfl⟩]; rfl]
    rw [sumR_join ha fun b => sumR q fun c => sumR q fun d => F (col a b c d)]
    congr 1
    refine sumR_congr fun b _ => ?_
    rw [← sumR_if]
    refine sumR_congr fun c _ => ?_
    rw [← sumR_if]
    exact sumR_congr fun d _ => rfl
  · rw [← sumR_mul]
    refine sumR_congr fun a ha => ?_
    rw [← sumR_mul]
    refine sumR_congr fun b hb => ?_
    rw [show (fun c => sumR q fun d => F fun x => col a b c d (sub 99 97 x)) = fun _ => sumR q fun d => F (col a b a d) from funext fun c => by
      refine sumR_congr fun d _ => ?_
      rw [cut_col (by decide) (by decide) ⟨rfl, rfl, rfl, rfl⟩]; rfl]
    rw [sumR_join ha fun c => sumR q fun d => F (col a b c d)]
    congr 1
    refine sumR_congr fun c _ => ?_
    rw [← sumR_if]
    exact sumR_congr fun d _ => rfl
  · rw [← sumR_mul]
    refine sumR_congr fun a ha => ?_
    rw [← sumR_mul]
    refine sumR_congr fun b hb => ?_
    rw [← sumR_mul]
    refine sumR_congr fun c hc => ?_
    rw [show (fun d => F fun x => col a b c d (sub 100 97 x)) = fun _ => F (col a b c a) from funext fun d => by
      rw [cut_col (by decide) (by decide) ⟨rfl, rfl, rfl, rfl⟩]; rfl]
    rw [sumR_join ha fun d => F (col a b c d)]
    rfl
  · rw [← sumR_mul]
    refine sumR_congr fun a ha => ?_
    rw [← sumR_mul]
    refine sumR_congr fun b hb => ?_
    rw [show (fun c => sumR q fun d => F fun x => col a b c d (sub 99 98 x)) = fun _ => sumR q fun d => F (col a b b d) from funext fun c => by
      refine sumR_congr fun d _ => ?_
      rw [cut_col (by decide) (by decide) ⟨rfl, rfl, rfl, rfl⟩]; rfl]
    rw [sumR_join hb fun c => sumR q fun d => F (col a b c d)]
    congr 1
    refine sumR_congr fun c _ => ?_
    rw [← sumR_if]
    exact sumR_congr fun d _ => rfl
  · rw [← sumR_mul]
    refine sumR_congr fun a ha => ?_
    rw [← sumR_mul]
    refine sumR_congr fun b hb => ?_
    rw [← sumR_mul]
    refine sumR_congr fun c hc => ?_
    rw [show (fun d => F fun x => col a b c d (sub 100 98 x)) = fun _ => F (col a b c b) from funext fun d => by
      rw [cut_col (by decide) (by decide) ⟨rfl, rfl, rfl, rfl⟩]; rfl]
    rw [sumR_join hb fun d => F (col a b c d)]
    rfl
  · rw [← sumR_mul]
    refine sumR_congr fun a ha => ?_
    rw [← sumR_mul]
    refine sumR_congr fun b hb => ?_
    rw [← sumR_mul]
    refine sumR_congr fun c hc => ?_
    rw [show (fun d => F fun x => col a b c d (sub 100 99 x)) = fun _ => F (col a b c c) from funext fun d => by
      rw [cut_col (by decide) (by decide) ⟨rfl, rfl, rfl, rfl⟩]; rfl]
    rw [sumR_join hc fun d => F (col a b c d)]
    rfl
/-- the worth of the counts at q colours -/
def ev (q : Int) : List (Int × Int) → Int
  | [] => 0
  | p :: r => p.2 * q ^ p.1.toNat + ev q r
def absum : List (Int × Int) → Nat
  | [] => 0
  | p :: r => p.2.natAbs + absum r
theorem ev_app (q : Int) : ∀ a b, ev q (a ++ b) = ev q a + ev q b
  | [], b => by simp [ev]
  | p :: r, b => by simp only [List.cons_append, ev, ev_app q r b, Int.add_assoc]
theorem absum_app : ∀ a b, absum (a ++ b) = absum a + absum b
  | [], b => by simp [absum]
  | p :: r, b => by simp only [List.cons_append, absum, absum_app r b, Nat.add_assoc]
def keysNd (cs : List (Int × Int)) : Prop := (cs.map (·.1)).Nodup
theorem cntAt_cons (p : Int × Int) (cs : List (Int × Int)) (k : Int) : cntAt (p :: cs) k = if p.1 = k then some p.2 else cntAt cs k := by
  unfold cntAt
  rw [List.find?_cons]
  by_cases e : p.1 = k <;> simp [e]
theorem cntAt_none {cs : List (Int × Int)} {k : Int} (h : cntAt cs k = none) : ∀ p ∈ cs, p.1 ≠ k := by
  induction cs with
  | nil => simp
  | cons p r ih =>
    rw [cntAt_cons] at h
    intro x hx
    by_cases e : p.1 = k
    · simp [e] at h
    · rw [if_neg e] at h
      rcases List.mem_cons.mp hx with rfl | m
      · exact e
      · exact ih h x m
theorem any_of_none {cs : List (Int × Int)} {k : Int} (h : cntAt cs k = none) : cs.any (fun kv => kv.1 = k) = false := by
  rw [List.any_eq_false]
  intro p hp
  simpa using cntAt_none h p hp
theorem any_of_some {cs : List (Int × Int)} {k c : Int} (h : cntAt cs k = some c) : cs.any (fun kv => kv.1 = k) = true := by
  induction cs with
  | nil => simp [cntAt] at h
  | cons p r ih =>
    rw [cntAt_cons] at h
    by_cases e : p.1 = k
    · simp [e]
    · rw [if_neg e] at h
      simp [ih h]
theorem putC_none {cs : List (Int × Int)} {k c : Int} (h : cntAt cs k = none) : putC cs k c = cs ++ [(k, c)] := by
  unfold putC; rw [any_of_none h]; rfl
theorem putC_some {cs : List (Int × Int)} {k z c : Int} (h : cntAt cs k = some z) : putC cs k c = cs.map (fun kv => if kv.1 = k then (kv.1, c) else kv) := by
  unfold putC; rw [any_of_some h]; rfl
theorem cmap_free {cs : List (Int × Int)} {k c : Int} (h : k ∉ cs.map (·.1)) : cs.map (fun kv => if kv.1 = k then (kv.1, c) else kv) = cs := by
  conv => rhs; rw [← List.map_id cs]
  refine List.map_congr_left fun p hp => ?_
  have hne : ¬ p.1 = k := fun e => h (List.mem_map.mpr ⟨p, hp, e⟩)
  rw [if_neg hne]; rfl
theorem cmap_keys (cs : List (Int × Int)) (k c : Int) : (cs.map (fun kv => if kv.1 = k then (kv.1, c) else kv)).map (·.1) = cs.map (·.1) := by
  rw [List.map_map]
  refine List.map_congr_left fun p _ => ?_
  show (if p.1 = k then (p.1, c) else p).1 = p.1
  split <;> rfl
theorem over_ev (q : Int) {k z c : Int} : ∀ {cs : List (Int × Int)}, keysNd cs → cntAt cs k = some z → ev q (cs.map (fun kv => if kv.1 = k then (kv.1, z + c) else kv)) = ev q cs + c * q ^ k.toNat
  | [], _, h => by simp [cntAt] at h
  | p :: r, hn, h => by
    rw [cntAt_cons] at h
    have hn' := List.nodup_cons.mp hn
    by_cases e : p.1 = k
    · rw [if_pos e] at h
      cases h
      rw [List.map_cons, if_pos e, cmap_free (e ▸ hn'.1)]
      simp only [ev, e, Int.add_mul]; omega
    · rw [if_neg e] at h
      rw [List.map_cons, if_neg e]
      have := over_ev q (c := c) hn'.2 h
      simp only [ev, this]; omega
theorem over_abs {k z c : Int} : ∀ {cs : List (Int × Int)}, keysNd cs → cntAt cs k = some z → absum (cs.map (fun kv => if kv.1 = k then (kv.1, z + c) else kv)) ≤ absum cs + c.natAbs
  | [], _, h => by simp [cntAt] at h
  | p :: r, hn, h => by
    rw [cntAt_cons] at h
    have hn' := List.nodup_cons.mp hn
    by_cases e : p.1 = k
    · rw [if_pos e] at h
      cases h
      rw [List.map_cons, if_pos e, cmap_free (e ▸ hn'.1)]
      simp only [absum]; omega
    · rw [if_neg e] at h
      rw [List.map_cons, if_neg e]
      have := over_abs (c := c) hn'.2 h
      simp only [absum]; omega
theorem over_at {k z c : Int} (k' : Int) : ∀ {cs : List (Int × Int)}, cntAt cs k = some z → cntAt (cs.map (fun kv => if kv.1 = k then (kv.1, c) else kv)) k' = if k' = k then some c else cntAt cs k'
  | [], h => by simp [cntAt] at h
  | p :: r, h => by
    rw [cntAt_cons] at h
    rw [List.map_cons, cntAt_cons, cntAt_cons]
    by_cases e : p.1 = k
    · rw [if_pos e]
      by_cases e' : k' = k
      · subst e'; simp [e]
      · have hne : ¬ p.1 = k' := fun q => e' (q.symm.trans e)
        dsimp only
        rw [if_neg hne, if_neg hne, if_neg e']
        have : ∀ {cs : List (Int × Int)}, cntAt (cs.map (fun kv => if kv.1 = k then (kv.1, c) else kv)) k' = cntAt cs k' := by
          intro cs
          induction cs with
          | nil => rfl
          | cons x y ih =>
            rw [List.map_cons, cntAt_cons, cntAt_cons, ih]
            by_cases ex : x.1 = k
            · have hne : ¬ x.1 = k' := fun q => e' (q.symm.trans ex)
              rw [if_pos ex, if_neg hne, if_neg hne]
            · rw [if_neg ex]
        exact this
    · rw [if_neg e] at h ⊢
      have := over_at k' (c := c) h
      rw [this]
      by_cases e2 : p.1 = k'
      · rw [if_pos e2, if_pos e2, if_neg (by intro q; exact e (e2.trans q))]
      · rw [if_neg e2, if_neg e2]
theorem cntAt_snoc {cs : List (Int × Int)} {k c : Int} (h : cntAt cs k = none) (k' : Int) : cntAt (cs ++ [(k, c)]) k' = if k' = k then some c else cntAt cs k' := by
  induction cs with
  | nil => rw [List.nil_append, cntAt_cons]; by_cases e : k = k' <;> simp [e, eq_comm, cntAt]
  | cons p r ih =>
    rw [cntAt_cons] at h
    by_cases e : p.1 = k
    · simp [e] at h
    · rw [if_neg e] at h
      rw [List.cons_append, cntAt_cons, cntAt_cons, ih h]
      by_cases e2 : p.1 = k'
      · rw [if_pos e2, if_pos e2, if_neg (by intro q; exact e (e2.trans q))]
      · rw [if_neg e2, if_neg e2]
structure Bumped (q : Int) (a b r : List (Int × Int)) : Prop where
  nd : keysNd r
  ev : Mine.ev q r = Mine.ev q a + Mine.ev q b
  abs : absum r ≤ absum a + absum b
  keys : ∀ x ∈ r, x.1 ∈ a.map (·.1) ∨ x.1 ∈ b.map (·.1)
  at_ : ∀ k, k ∉ b.map (·.1) → cntAt r k = cntAt a k
theorem bump_is (q : Int) {a : List (Int × Int)} (ha : keysNd a) (p : Int × Int) : Bumped q a [p] (bump a p) := by
  unfold bump
  cases h : cntAt a p.1 with
  | none =>
    show Bumped q a [p] (putC a p.1 p.2)
    rw [putC_none h]
    refine ⟨?_, ?_, ?_, ?_, ?_⟩
    · unfold keysNd
      rw [List.map_append, List.nodup_append]
      refine ⟨ha, by simp, ?_⟩
      intro x hx y hy
      have : y = p.1 := by simpa using hy
      obtain ⟨z, hz, rfl⟩ := List.mem_map.mp hx
      rw [this]; exact cntAt_none h z hz
    · rw [ev_app]
    · rw [absum_app]; exact Nat.le_refl _
    · intro x hx
      rcases List.mem_append.mp hx with m | m
      · exact .inl (List.mem_map_of_mem m)
      · exact .inr (by rw [List.mem_singleton.mp m]; simp)
    · intro k hk
      rw [cntAt_snoc h, if_neg (by simpa using hk)]
  | some z =>
    show Bumped q a [p] (putC a p.1 (z + p.2))
    rw [putC_some h]
    refine ⟨?_, ?_, ?_, ?_, ?_⟩
    · unfold keysNd; rw [cmap_keys]; exact ha
    · rw [over_ev q ha h]; simp [Mine.ev]
    · have := over_abs (c := p.2) ha h
      simp only [absum]; omega
    · intro x hx
      refine .inl ?_
      rw [← cmap_keys a p.1 (z + p.2)]
      exact List.mem_map_of_mem hx
    · intro k hk
      rw [over_at k h, if_neg (by simpa using hk)]
theorem addOf_is (q : Int) : ∀ {a : List (Int × Int)} (b : List (Int × Int)), keysNd a → Bumped q a b (addOf a b)
  | a, [], ha => ⟨ha, by simp [ev, addOf], by simp [addOf], fun x hx => .inl (List.mem_map_of_mem hx), fun _ _ => rfl⟩
  | a, p :: r, ha => by
    have B := bump_is q ha p
    have C := addOf_is q r B.nd
    have e : addOf a (p :: r) = addOf (bump a p) r := rfl
    rw [e]
    refine ⟨C.nd, ?_, ?_, ?_, ?_⟩
    · rw [C.ev, B.ev]; simp only [ev]; omega
    · have h1 := C.abs
      have h2 := B.abs
      simp only [absum] at h2 ⊢; omega
    · intro x hx
      rcases C.keys x hx with m | m
      · obtain ⟨z, hz, e⟩ := List.mem_map.mp m
        rcases B.keys z hz with m' | m'
        · rw [← e]; exact .inl m'
        · rw [← e]
          refine .inr ?_
          have : z.1 = p.1 := by simpa using m'
          rw [this]; simp
      · exact .inr (List.mem_cons_of_mem _ m)
    · intro k hk
      simp only [List.map_cons, List.mem_cons, not_or] at hk
      rw [C.at_ k hk.2, B.at_ k (by simpa using hk.1)]
def mulC (v : Int) (cs : List (Int × Int)) : List (Int × Int) := cs.map fun kc => (kc.1, v * kc.2)
theorem ev_mul (q v : Int) : ∀ cs, ev q (mulC v cs) = v * ev q cs
  | [] => by simp [ev, mulC]
  | p :: r => by
    have := ev_mul q v r
    unfold mulC at this ⊢
    simp only [List.map_cons, ev, this, Int.mul_add, Int.mul_assoc]
theorem abs_mul (v : Int) : ∀ cs, absum (mulC v cs) = v.natAbs * absum cs
  | [] => by simp [absum, mulC]
  | p :: r => by
    have := abs_mul v r
    unfold mulC at this ⊢
    simp only [List.map_cons, absum, this, Nat.mul_add, Int.natAbs_mul]
theorem keys_mul (v : Int) (cs : List (Int × Int)) : (mulC v cs).map (·.1) = cs.map (·.1) := by
  unfold mulC; rw [List.map_map]; rfl
/-- the laid ties: no two of the same places -/
def Dist (ts : List Tie) : Prop := ts.Pairwise fun t u => sameT t u = false
theorem sameT_comm (t u : Tie) : sameT t u = sameT u t := by
  unfold sameT
  rw [Bool.eq_iff_iff]
  simp only [Bool.and_eq_true, beq_iff_eq]
  constructor <;> rintro ⟨a, b⟩ <;> exact ⟨a.symm, b.symm⟩
theorem fac_merge (σ : Nat → Nat) {t p : Tie} (h : sameT t p = true) : fac σ (t.1, (1 + p.2) * (1 + t.2) - 1) = fac σ p * fac σ t := by
  unfold sameT at h
  simp only [Bool.and_eq_true, beq_iff_eq] at h
  unfold fac
  rw [h.1, h.2]
  dsimp only
  split
  · omega
  · simp
theorem filter_off {t : Tie} {ps : List Tie} (h : ∀ p ∈ ps, sameT t p = false) : ps.filter (fun q => !sameT t q) = ps := by
  rw [List.filter_eq_self]
  intro p hp; rw [h p hp]; rfl
theorem sameT_trans {t p q : Tie} (h : sameT t p = true) : sameT t q = sameT p q := by
  unfold sameT at h ⊢
  simp only [Bool.and_eq_true, beq_iff_eq] at h
  rw [h.1, h.2]
theorem prod_find (σ : Nat → Nat) {t p : Tie} : ∀ {ps : List Tie}, Dist ps → ps.find? (sameT t) = some p → prodT σ ps = fac σ p * prodT σ (ps.filter fun q => !sameT t q)
  | [], _, h => by simp at h
  | u :: r, hd, h => by
    have hd' := List.pairwise_cons.mp hd
    rw [List.find?_cons] at h
    rw [List.filter_cons]
    cases hu : sameT t u with
    | true =>
      rw [hu] at h
      cases h
      have hr : ∀ q ∈ r, sameT t q = false := fun q hq => by rw [sameT_trans hu]; exact hd'.1 q hq
      rw [filter_off hr]
      rfl
    | false =>
      rw [hu] at h
      have ih := prod_find σ hd'.2 h
      show fac σ u * prodT σ r = fac σ p * (fac σ u * _)
      rw [ih]
      simp only [Int.mul_left_comm]
theorem dist_lay {ps : List Tie} (h : Dist ps) (t : Tie) : Dist (layT ps t) := by
  unfold layT
  split
  · rename_i hf
    refine List.pairwise_append.mpr ⟨h, by simp, ?_⟩
    intro a ha b hb
    rw [List.mem_singleton.mp hb, sameT_comm]
    simpa using List.find?_eq_none.mp hf a ha
  · refine List.pairwise_append.mpr ⟨h.sublist List.filter_sublist, by simp, ?_⟩
    intro a ha b hb
    rw [List.mem_singleton.mp hb, sameT_comm]
    have := (List.mem_filter.mp ha).2
    have e : ∀ v : Int, sameT (t.1, v) a = sameT t a := fun _ => rfl
    rw [e]
    simpa using this
theorem prod_lay (σ : Nat → Nat) {ps : List Tie} (h : Dist ps) (t : Tie) : prodT σ (layT ps t) = prodT σ ps * fac σ t := by
  unfold layT
  split
  · rw [prodT_app]; simp [prodT]
  · rename_i p hf
    rw [prodT_app, prod_find σ h hf]
    simp only [prodT, Int.mul_one]
    rw [fac_merge σ (List.find?_some hf)]
    rw [Int.mul_comm (prodT σ _), Int.mul_assoc, Int.mul_assoc, Int.mul_comm (fac σ t)]
theorem lay_keys {P : Nat × Nat → Prop} {ps : List Tie} {t : Tie} (h : ∀ p ∈ ps, P p.1) (ht : P t.1) : ∀ p ∈ layT ps t, P p.1 := by
  intro p hp
  unfold layT at hp
  split at hp
  · rcases List.mem_append.mp hp with m | m
    · exact h p m
    · rw [List.mem_singleton.mp m]; exact ht
  · rcases List.mem_append.mp hp with m | m
    · exact h p (List.mem_filter.mp m).1
    · rw [List.mem_singleton.mp m]; exact ht
theorem layT_len (ps : List Tie) (t : Tie) : (layT ps t).length ≤ ps.length + 1 := by
  unfold layT
  split
  · simp
  · have := List.length_filter_le (fun q => !sameT t q) ps
    simp only [List.length_append, List.length_cons, List.length_nil]
    omega
theorem layAll_all (σ : Nat → Nat) {P : Nat × Nat → Prop} : ∀ n, ∀ qs : List Tie, qs.length = n → (∀ p ∈ qs, P p.1) → Dist (layAllT qs) ∧ prodT σ (layAllT qs) = prodT σ qs ∧ (∀ p ∈ layAllT qs, P p.1) ∧ (layAllT qs).length ≤ qs.length
  | 0, qs, h, hq => by rw [List.length_eq_zero_iff.mp h]; exact ⟨.nil, rfl, by simp [layAllT], Nat.le_refl _⟩
  | n + 1, qs, h, hq => by
    have hne : qs ≠ [] := by rintro rfl; simp at h
    have hq' : ∀ p ∈ qs.dropLast ++ [qs.getLast hne], P p.1 := by rw [List.dropLast_concat_getLast]; exact hq
    have h0 : qs.dropLast.length = n := by rw [List.length_dropLast]; omega
    obtain ⟨h1, h2, h3, h4⟩ := layAll_all σ n qs.dropLast h0 fun t m => hq' t (List.mem_append_left _ m)
    have hl : P (qs.getLast hne).1 := hq' _ (by simp)
    rw [← List.dropLast_concat_getLast hne, layAllT_snoc]
    refine ⟨dist_lay h1 _, ?_, lay_keys h3 hl, ?_⟩
    · rw [prod_lay σ h1, h2, prodT_app]; simp [prodT]
    · have := layT_len (layAllT qs.dropLast) (qs.getLast hne)
      simp only [List.length_append, List.length_cons, List.length_nil]
      omega
/-- the ties lie between live places -/
structure Inv (V : List Nat) (ts : List Tie) : Prop where
  nd : V.Nodup
  low : ∀ x ∈ V, 97 ≤ x ∧ x ≤ 100
  ends : ∀ t ∈ ts, lo1 t.1.1 ∈ V ∧ lo1 t.1.2 ∈ V ∧ lo1 t.1.1 < lo1 t.1.2
  dist : Dist ts
theorem lo1_id {x : Nat} (h : 97 ≤ x) : lo1 x = x := by unfold lo1; rw [if_neg (by omega)]
theorem fac_melt {σ : Nat → Nat} {g s : Nat} (hs : 97 ≤ s) {t : Tie} (h1 : 97 ≤ lo1 t.1.1) (h2 : 97 ≤ lo1 t.1.2) : fac σ (srt (Tie.map (mf g s) t)) = fac (fun x => σ (sub g s x)) t := by
  have hr : ∀ c, 97 ≤ lo1 c → mf g s c = sub g s (lo1 c) ∧ 97 ≤ mf g s c := by
    intro c hc
    refine ⟨rfl, ?_⟩
    unfold mf subst1
    split <;> omega
  obtain ⟨e1, k1⟩ := hr _ h1
  obtain ⟨e2, k2⟩ := hr _ h2
  unfold fac srt Tie.map
  dsimp only
  rw [lo1_id (Nat.le_min.mpr ⟨k1, k2⟩), lo1_id (Nat.le_trans k1 (Nat.le_max_left _ _))]
  simp only [← e1, ← e2]
  rcases Nat.le_total (mf g s t.1.1) (mf g s t.1.2) with q | q
  · rw [Nat.min_eq_left q, Nat.max_eq_right q]
  · rw [Nat.min_eq_right q, Nat.max_eq_left q]
    by_cases e : σ (mf g s t.1.1) = σ (mf g s t.1.2)
    · rw [if_pos e, if_pos e.symm]
    · rw [if_neg e, if_neg fun k => e k.symm]
theorem prod_melt {σ : Nat → Nat} {g s : Nat} (hs : 97 ≤ s) : ∀ {ts : List Tie}, (∀ t ∈ ts, 97 ≤ lo1 t.1.1 ∧ 97 ≤ lo1 t.1.2) → prodT σ (melted g s ts) = prodT (fun x => σ (sub g s x)) ts
  | [], _ => rfl
  | t :: r, h => by
    have h1 := h t (.head _)
    have ih := prod_melt (σ := σ) (g := g) hs fun t m => h t (.tail _ m)
    unfold melted at ih ⊢
    rw [List.map_cons]
    simp only [prodT]
    rw [ih, fac_melt hs h1.1 h1.2]
theorem Zq_one {q : Nat} (hq : q = 1 ∨ q = 2 ∨ q = 3) : Zq q (fun σ => prodT σ []) = (q : Int) ^ 4 := by
  rcases hq with rfl | rfl | rfl <;> simp [Zq, sumR, prodT]
theorem pow_shift {q : Int} {p : Nat} (hp : 1 ≤ p) (h4 : p ≤ 4) : q ^ (4 - p) * q ^ p = q ^ 4 := by
  rw [← Int.pow_add]; congr 1; omega
/-- what the counts are -/
structure TallyIs (q : Nat) (ts : List Tie) (p : Nat) (c : List (Int × Int)) : Prop where
  nd : keysNd c
  keys : ∀ x ∈ c, 1 ≤ x.1 ∧ x.1 ≤ p
  top : cntAt c p = some 1
  ev : (q : Int) ^ (4 - p) * Mine.ev q c = Zq q fun σ => prodT σ ts
theorem filter_len {V : List Nat} {g : Nat} (hn : V.Nodup) (hg : g ∈ V) : (V.filter (· ≠ g)).length + 1 = V.length := by
  induction V with
  | nil => simp at hg
  | cons x r ih =>
    have hn' := List.nodup_cons.mp hn
    rw [List.filter_cons]
    by_cases e : x = g
    · subst e
      have : r.filter (· ≠ x) = r := by
        rw [List.filter_eq_self]
        intro y hy
        simp only [ne_eq, decide_not, Bool.not_eq_true', decide_eq_false_iff_not]
        rintro rfl; exact hn'.1 hy
      rw [if_neg (by simp), this, List.length_cons]
    · have hm : g ∈ r := by simpa [Ne.symm e] using hg
      have := ih hn'.2 hm
      rw [if_pos (by simpa using e), List.length_cons, this, List.length_cons]
theorem inv_melt {V : List Nat} {t : Tie} {ts : List Tie} (h : Inv V (t :: ts)) : Inv (V.filter (· ≠ lo1 t.1.2)) (layAllT (melted (lo1 t.1.2) (lo1 t.1.1) ts)) := by
  have ht := h.ends t (.head _)
  have hd := List.pairwise_cons.mp h.dist
  have hsl := h.low _ ht.1
  have key : ∀ p ∈ melted (lo1 t.1.2) (lo1 t.1.1) ts, lo1 p.1.1 ∈ V.filter (· ≠ lo1 t.1.2) ∧ lo1 p.1.2 ∈ V.filter (· ≠ lo1 t.1.2) ∧ lo1 p.1.1 < lo1 p.1.2 := by
    intro p hp
    obtain ⟨u, hu, rfl⟩ := List.mem_map.mp hp
    have hue := h.ends u (.tail _ hu)
    have hns := hd.1 u hu
    have l1 := h.low _ hue.1
    have l2 := h.low _ hue.2.1
    have mem : ∀ c, lo1 c ∈ V → mf (lo1 t.1.2) (lo1 t.1.1) c ∈ V.filter (· ≠ lo1 t.1.2) ∧ 97 ≤ mf (lo1 t.1.2) (lo1 t.1.1) c := by
      intro c hc
      have := h.low _ hc
      unfold mf subst1
      split
      · refine ⟨List.mem_filter.mpr ⟨ht.1, ?_⟩, hsl.1⟩
        simp; omega
      · rename_i e
        exact ⟨List.mem_filter.mpr ⟨hc, by simpa using e⟩, this.1⟩
    obtain ⟨m1, k1⟩ := mem _ hue.1
    obtain ⟨m2, k2⟩ := mem _ hue.2.1
    have hne : mf (lo1 t.1.2) (lo1 t.1.1) u.1.1 ≠ mf (lo1 t.1.2) (lo1 t.1.1) u.1.2 := by
      have h1 := ht.2.2
      have h2 := hue.2.2
      unfold sameT at hns
      rw [Bool.and_eq_false_iff] at hns
      simp only [beq_eq_false_iff_ne, ne_eq] at hns
      unfold mf subst1
      split <;> split <;> omega
    unfold srt Tie.map
    dsimp only
    rw [lo1_id (Nat.le_min.mpr ⟨k1, k2⟩), lo1_id (Nat.le_trans k1 (Nat.le_max_left _ _))]
    rcases Nat.le_total (mf (lo1 t.1.2) (lo1 t.1.1) u.1.1) (mf (lo1 t.1.2) (lo1 t.1.1) u.1.2) with q | q
    · rw [Nat.min_eq_left q, Nat.max_eq_right q]; exact ⟨m1, m2, by omega⟩
    · rw [Nat.min_eq_right q, Nat.max_eq_left q]; exact ⟨m2, m1, by omega⟩
  obtain ⟨a, _, b, _⟩ := layAll_all (fun x => x) (P := fun p => lo1 p.1 ∈ V.filter (· ≠ lo1 t.1.2) ∧ lo1 p.2 ∈ V.filter (· ≠ lo1 t.1.2) ∧ lo1 p.1 < lo1 p.2) _ _ rfl key
  exact ⟨h.nd.sublist List.filter_sublist, fun x hx => h.low x (List.mem_filter.mp hx).1, b, a⟩
theorem prodT_split (σ : Nat → Nat) (t : Tie) (ts : List Tie) : prodT σ (t :: ts) = prodT σ ts + t.2 * (if σ (lo1 t.1.1) = σ (lo1 t.1.2) then prodT σ ts else 0) := by
  simp only [prodT]
  unfold fac
  split
  · rw [Int.add_mul]; omega
  · omega
theorem tally_is {q : Nat} (hq : q = 1 ∨ q = 2 ∨ q = 3) : ∀ n (ts : List Tie) (V : List Nat), Inv V ts → ts.length ≤ n → 1 ≤ V.length → V.length ≤ 4 → TallyIs q ts V.length (tallyF n ts V.length)
  | n, [], V, h, hl, h1, h4 => by
    have e : tallyF n [] V.length = [((V.length : Int), 1)] := by cases n <;> rfl
    rw [e]
    refine ⟨by simp [keysNd], ?_, by simp [cntAt], ?_⟩
    · intro x hx
      rw [List.mem_singleton.mp hx]
      dsimp only; omega
    · rw [Zq_one hq]
      simp only [ev, Int.toNat_natCast, Int.one_mul, Int.add_zero]
      exact pow_shift h1 h4
  | 0, t :: ts, _, _, hl, _, _ => by simp at hl
  | n + 1, t :: ts, V, h, hl, h1, h4 => by
    have ht := h.ends t (.head _)
    have hd := List.pairwise_cons.mp h.dist
    have hsl := h.low _ ht.1
    have hgl := h.low _ ht.2.1
    have hself : sameT t t = true := by simp [sameT]
    have hfil : (t :: ts).filter (fun q => !sameT t q) = ts := by
      rw [List.filter_cons, hself]
      exact filter_off hd.1
    have hmax : max (lo1 t.1.1) (lo1 t.1.2) = lo1 t.1.2 := Nat.max_eq_right (Nat.le_of_lt ht.2.2)
    have hmin : min (lo1 t.1.1) (lo1 t.1.2) = lo1 t.1.1 := Nat.min_eq_left (Nat.le_of_lt ht.2.2)
    have hlen : ts.length ≤ n := by simpa using hl
    have hA := tally_is hq n ts V ⟨h.nd, h.low, fun u hu => h.ends u (.tail _ hu), hd.2⟩ hlen h1 h4
    have hI := inv_melt h
    have hV := filter_len h.nd ht.2.1
    have hmem : lo1 t.1.1 ∈ V.filter (· ≠ lo1 t.1.2) := List.mem_filter.mpr ⟨ht.1, by simp; omega⟩
    have hV1 : 1 ≤ (V.filter (· ≠ lo1 t.1.2)).length := List.length_pos_of_mem hmem
    have hprod := fun σ => (layAll_all σ (P := fun _ => True) _ (melted (lo1 t.1.2) (lo1 t.1.1) ts) rfl fun _ _ => trivial)
    have hml : (melted (lo1 t.1.2) (lo1 t.1.1) ts).length = ts.length := List.length_map _
    have hB := tally_is hq n _ _ hI (by have := (hprod fun x => x).2.2.2; omega) hV1 (by omega)
    have e : tallyF (n + 1) (t :: ts) V.length = addOf (tallyF n ts V.length) (mulC t.2 (tallyF n (layAllT (melted (lo1 t.1.2) (lo1 t.1.1) ts)) (V.filter (· ≠ lo1 t.1.2)).length)) := by
      have ep : (V.length : Int) - 1 = ((V.filter (· ≠ lo1 t.1.2)).length : Int) := by omega
      rw [tallyF, hfil, hmax, hmin, ep]; rfl
    rw [e]
    generalize hAe : tallyF n ts V.length = cA at hA ⊢
    generalize hBe : tallyF n (layAllT (melted (lo1 t.1.2) (lo1 t.1.1) ts)) (V.filter (· ≠ lo1 t.1.2)).length = cB at hB ⊢
    have hS := addOf_is q (mulC t.2 cB) hA.nd
    refine ⟨hS.nd, ?_, ?_, ?_⟩
    · intro x hx
      rcases hS.keys x hx with m | m
      · obtain ⟨z, hz, ez⟩ := List.mem_map.mp m
        rw [← ez]; exact hA.keys z hz
      · rw [keys_mul] at m
        obtain ⟨z, hz, ez⟩ := List.mem_map.mp m
        have := hB.keys z hz
        rw [← ez]; omega
    · rw [hS.at_, hA.top]
      rw [keys_mul]
      intro m
      obtain ⟨z, hz, ez⟩ := List.mem_map.mp m
      have := hB.keys z hz
      omega
    · rw [hS.ev, ev_mul]
      have hZ : Zq q (fun σ => prodT σ (t :: ts)) = Zq q (fun σ => prodT σ ts) + t.2 * Zq q (fun σ => if σ (lo1 t.1.1) = σ (lo1 t.1.2) then prodT σ ts else 0) := by
        rw [← Zq_lin]
        simp only [prodT_split]
      have hB2 := hB.ev
      have hms : ∀ u ∈ ts, 97 ≤ lo1 u.1.1 ∧ 97 ≤ lo1 u.1.2 := fun u hu => ⟨(h.low _ (h.ends u (.tail _ hu)).1).1, (h.low _ (h.ends u (.tail _ hu)).2.1).1⟩
      simp only [(hprod _).2.1, prod_melt hsl.1 hms] at hB2
      rw [Zq_cut hsl.1 ht.2.2 hgl.2 fun σ => prodT σ ts] at hB2
      have e4 : 4 - (V.filter (· ≠ lo1 t.1.2)).length = (4 - V.length) + 1 := by omega
      rw [e4, Int.pow_succ, Int.mul_comm ((q : Int) ^ (4 - V.length)), Int.mul_assoc] at hB2
      have hq0 : (q : Int) ≠ 0 := by omega
      have hB3 := Int.eq_of_mul_eq_mul_left hq0 hB2
      rw [hZ, ← hA.ev, ← hB3, Int.mul_add, Int.mul_left_comm]
theorem tallyF_nd : ∀ n (ts : List Tie) (p : Int), keysNd (tallyF n ts p)
  | 0, _, p => by simp [keysNd, tallyF]
  | n + 1, [], p => by simp [keysNd, tallyF]
  | n + 1, t :: ts, p => (addOf_is 1 _ (tallyF_nd n _ p)).nd
theorem tallyF_abs : ∀ n (ts : List Tie) (p : Int), absum (tallyF n ts p) ≤ wt ts
  | 0, ts, p => by simpa [absum, tallyF] using wt_pos ts
  | n + 1, [], p => by simp [absum, tallyF, wt_nil]
  | n + 1, t :: ts, p => by
    have hf : (t :: ts).filter (fun q => !sameT t q) = ts.filter fun q => !sameT t q := by
      rw [List.filter_cons, show sameT t t = true from by simp [sameT]]; rfl
    have h1 := (addOf_is 1 (mulC t.2 (tallyF n (layAllT (melted (max (lo1 t.1.1) (lo1 t.1.2)) (min (lo1 t.1.1) (lo1 t.1.2)) ((t :: ts).filter fun q => !sameT t q))) (p - 1))) (tallyF_nd n ((t :: ts).filter fun q => !sameT t q) p)).abs
    refine Nat.le_trans h1 ?_
    rw [abs_mul]
    have h2 := tallyF_abs n ((t :: ts).filter fun q => !sameT t q) p
    have h3 := tallyF_abs n (layAllT (melted (max (lo1 t.1.1) (lo1 t.1.2)) (min (lo1 t.1.1) (lo1 t.1.2)) ((t :: ts).filter fun q => !sameT t q))) (p - 1)
    have h4 := wt_layAll _ _ (rfl : (melted (max (lo1 t.1.1) (lo1 t.1.2)) (min (lo1 t.1.1) (lo1 t.1.2)) ((t :: ts).filter fun q => !sameT t q)).length = _)
    have h5 : wt (melted (max (lo1 t.1.1) (lo1 t.1.2)) (min (lo1 t.1.1) (lo1 t.1.2)) ((t :: ts).filter fun q => !sameT t q)) = wt ((t :: ts).filter fun q => !sameT t q) := wt_map _ _
    rw [h5] at h4
    have h6 : wt ((t :: ts).filter fun q => !sameT t q) ≤ wt ts := by rw [hf]; exact wt_filter _ ts
    rw [wt_cons, Nat.add_mul, Nat.one_mul]
    have h7 : t.2.natAbs * absum (tallyF n (layAllT (melted (max (lo1 t.1.1) (lo1 t.1.2)) (min (lo1 t.1.1) (lo1 t.1.2)) ((t :: ts).filter fun q => !sameT t q))) (p - 1)) ≤ t.2.natAbs * wt ts := Nat.mul_le_mul_left _ (by omega)
    omega
theorem abs_mem {cs : List (Int × Int)} {x : Int × Int} (h : x ∈ cs) : x.2.natAbs ≤ absum cs := by
  induction cs with
  | nil => simp at h
  | cons p r ih =>
    simp only [absum]
    rcases List.mem_cons.mp h with rfl | m
    · omega
    · have := ih m; omega
theorem tallyF_length : ∀ n (ts : List Tie) (p : Int), (tallyF n ts p).length ≤ 2 ^ n
  | 0, _, p => by simp [tallyF]
  | n + 1, [], p => by simp only [tallyF, List.length_singleton]; exact Nat.pow_pos (by decide)
  | n + 1, t :: ts, p => by
    rw [tallyF]
    refine Nat.le_trans (addOf_length _ _) ?_
    rw [List.length_map, Nat.pow_succ]
    have h1 := tallyF_length n ((t :: ts).filter fun q => !sameT t q) p
    have h2 := tallyF_length n (layAllT (melted (max (lo1 t.1.1) (lo1 t.1.2)) (min (lo1 t.1.1) (lo1 t.1.2)) ((t :: ts).filter fun q => !sameT t q))) (p - 1)
    omega
theorem lo_new {w : World} {mean : ExcName → Option Value} {mg mb : Str → Option Value} {hG h : Heap} {d : Addr} (G : Ok w mean mg mb hG h) (hd : h.get? d = none) : (d == sysModules) = false := by
  obtain ⟨mm, ⟨o, _, _, e, _⟩, _⟩ := (G.top.seer (by decide +kernel)).mods
  rw [beq_eq_false_iff_ne]
  rintro rfl
  rw [e] at hd; cases hd
end
section
open Rx
theorem new_ne {h₀ h : Heap} {L d : Addr} {m : Str → Option Value} (F : Fr h₀ L h m) (hd : h.get? d = none) : d ≠ L := by
  rintro rfl
  obtain ⟨o, es, ep, e1, _⟩ := F.ns
  rw [e1] at hd; cases hd
theorem new_base {h₀ h : Heap} {L d : Addr} {m : Str → Option Value} (F : Fr h₀ L h m) (hd : h.get? d = none) : h₀.get? d = none := by
  cases q : h₀.get? d with
  | none => rfl
  | some o => rw [F.keep _ _ q] at hd; cases hd
theorem txs_del {t : Tie} {qs : List Tie} (ht : t.Lt) (h : AllLt qs) : (txs (qs.map Tie.P)).filter (fun p => Txt.lower p.1 != Txt.lower (nm2 (sw t.1.1) (sw t.1.2))) = txs ((qs.filter fun q => !sameT t q).map Tie.P) := by
  have e : Txt.lower (nm2 (sw t.1.1) (sw t.1.2)) = Txt.lower t.P.1 := by
    show _ = Txt.lower (nm2 t.1.1 t.1.2)
    rw [low_nm ht.1.sw ht.2.sw, low_nm ht.1 ht.2, ht.1.lo_sw, ht.2.lo_sw]
  rw [e, txs_filter, filter_P ht h]
theorem melted_lt {g s : Nat} (hg : 97 ≤ g ∧ g ≤ 100) (hs : 97 ≤ s ∧ s ≤ 100) {ts : List Tie} (h : AllLt ts) : AllLt (melted g s ts) := by
  intro q hq
  obtain ⟨t, ht, rfl⟩ := List.mem_map.mp hq
  have := mf_lt hg hs (h t ht)
  exact ⟨lt_min this.1 this.2, lt_max this.1 this.2⟩
theorem melted_sm {g s : Nat} (hg : 97 ≤ g ∧ g ≤ 100) (hs : 97 ≤ s ∧ s ≤ 100) {ts : List Tie} (h : AllLt ts) (hw : wt ts < 10 ^ 45) : ∀ i, ∀ p ∈ layAll ((melted g s ts).take i), Sm p.2 := by
  intro i p hp
  have hl : AllLt ((melted g s ts).take i) := fun q hq => melted_lt hg hs h q (List.mem_of_mem_take hq)
  rw [layAll_P hl] at hp
  obtain ⟨q, hq, rfl⟩ := List.mem_map.mp hp
  have h1 := wt_mem hq
  have h2 := wt_layAll _ _ (rfl : ((melted g s ts).take i).length = _)
  have h3 := wt_take (melted g s ts) i
  have h4 : wt (melted g s ts) = wt ts := wt_map _ ts
  show q.2.natAbs < 10 ^ 45
  omega
set_option maxRecDepth 100000 in
set_option maxHeartbeats 2000000 in
theorem tally_cons {n : Nat} (hn6 : n < 6) (ih : ∀ {w : World} {A : Around} {E Q : Value → Shared → Prop} {s : Shared} {mean : ExcName → Option Value} {mg mb : Str → Option Value} {hG : Heap} {l : Addr} {as : List Addr} {ts : List Tie} {p : Int} {tp : Tok}
   (G : Ok w mean mg mb hG s.heap) (R : Room A (25 + n)) (HL : RefsAt s.heap l as) (HP : PairsAt s.heap as (txs (ts.map Tie.P))) (hts : AllLt ts) (hf : ts.length ≤ n) (hw : wt ts < 10 ^ 45)
   (h : ∀ d h' tk', s.heap.StaysIn h' → s.heap.get? d = none → CntAt Challenge.rw_qj0003_01.row.prog w h' d (tallyF n ts p) → Q (.ref d) { s with heap := h', toks := tk' }),
   wpAny (model Challenge.rw_qj0003_01.row.prog w) A (call (.ref 242) [.ref l, .int p tp]) Q E s)
   {w : World} {A : Around} {E Q : Value → Shared → Prop} {s : Shared} {mean : ExcName → Option Value} {mg mb : Str → Option Value} {hG : Heap} {l : Addr} {as : List Addr} {t : Tie} {ts : List Tie} {p : Int} {tp : Tok}
   (G : Ok w mean mg mb hG s.heap) (R : Room A (25 + (n + 1))) (HL : RefsAt s.heap l as) (HP : PairsAt s.heap as (txs ((t :: ts).map Tie.P))) (hts : AllLt (t :: ts)) (hf : (t :: ts).length ≤ n + 1) (hw : wt (t :: ts) < 10 ^ 45)
   (h : ∀ d h' tk', s.heap.StaysIn h' → s.heap.get? d = none → CntAt Challenge.rw_qj0003_01.row.prog w h' d (tallyF (n + 1) (t :: ts) p) → Q (.ref d) { s with heap := h', toks := tk' }) :
   wpAny (model Challenge.rw_qj0003_01.row.prog w) A (call (.ref 242) [.ref l, .int p tp]) Q E s := by
  refine wpAny_call (enterC (n := 25 + n) [] (binds := [(Str.ofString "pairs", .ref l), (Str.ofString "places", .int p tp)]) G R (by simp) (by k_is) (by k_is) (BindsTo.of_eq rfl) rfl (by decide +kernel) rfl rfl rfl ?_)
  intro g L h₁ A' tk cells R' F N Y X T G' sb gs ltL lt2
  k_cells Y
  rename Obj => co
  rename co.data = _ => hco
  have hco : co.data = .cell none := hco
  have F : Fr g L h₁ (fun y => if y = Str.ofString "places" then some (.int p tp) else if y = Str.ofString "pairs" then some (.ref l) else none) := F
  have N : News g L h₁ [(L + 1, co)] := N
  have hA := R'.handled
  have st0 : s.heap.StaysIn g := sb.nil
  have HL' : RefsAt g l as := HL.on st0
  have HP' := HP.on st0
  have hls : g.IsList l (as.map Value.ref).toArray := HL'.isList
  match as, HP with
  | a :: as, _ =>
  obtain ⟨p0, hp0, t1, t2, np, hpa⟩ := HP'.get 0 (a := a) rfl
  have : p0 = (t.P.1, tx t.2) := by simpa [txs, Tie.P] using hp0.symm
  subst this
  (repeat' ((fail_if_success (with_reducible show wpAny _ _ (exec (Stmt.For _ _ _ _ _) _) _ _ _)); (fail_if_success (with_reducible show wpAny _ _ (eval (Expr.ListComp _ _ _ _) _) _ _ _)); (fail_if_success (with_reducible show wpAny _ _ (eval (Expr.DictComp _ _ _ _ _) _) _ _ _)); (fail_if_success (with_reducible show wpAny _ _ (pyIter _) _ _ _)); (fail_if_success (with_reducible show wpAny _ _ (exec (Stmt.While _ _ _ _) _) _ _ _)); (first | (k_unfold; (try dsimp only)) | walk1 | (dsimp only; walk1))))
  rename Fr g L _ _ => F2
  rename News g L _ _ => N2
  refine eq_cons (v := .ref a) (vs := as.map Value.ref) (hls.at fun o e => F2.keep _ _ e) ⟨_, (N2 _ (.head _)).1, rfl, _, rfl⟩ (R'.cl) ?_
  have hia : IsTup _ a #[.str t.P.1 t1, .str (tx t.2) t2] := ⟨_, F2.keep _ _ hpa, rfl, _, rfl⟩
  (repeat' ((fail_if_success (with_reducible show wpAny _ _ (exec (Stmt.For _ _ _ _ _) _) _ _ _)); (fail_if_success (with_reducible show wpAny _ _ (eval (Expr.ListComp _ _ _ _) _) _ _ _)); (fail_if_success (with_reducible show wpAny _ _ (eval (Expr.DictComp _ _ _ _ _) _) _ _ _)); (fail_if_success (with_reducible show wpAny _ _ (pyIter _) _ _ _)); (fail_if_success (with_reducible show wpAny _ _ (exec (Stmt.While _ _ _ _) _) _ _ _)); (first | (k_unfold; (try dsimp only)) | walk1 | (dsimp only; walk1))))
  rename Fr g L _ _ => F3
  rename News g L _ _ => N3
  rename_i co3 hco3
  have hal : (a :: as).length = ts.length + 1 := by rw [HP'.length, txs, List.length_map, List.length_map, List.length_cons]
  have hle : ts.length ≤ n := by simpa using hf
  refine slice_list F3 N3 (hls.at fun o e => F3.keep _ _ e) .none .none ?_ (hsz := by rw [List.size_toArray, List.length_map, hal, sizeLine_eq]; omega)
  intro h4 F4 N4
  rw [slicePick_all] at N4
  revert F4 N4
  generalize h4l : ({ heap := _, gens := _, drawn := _, toks := _, os := _ } : Shared).heap.objs.size + 1 = l4
  intro F4 N4
  clear F3 N3 h4l
  (repeat' ((fail_if_success (with_reducible show wpAny _ _ (exec (Stmt.For _ _ _ _ _) _) _ _ _)); (fail_if_success (with_reducible show wpAny _ _ (eval (Expr.ListComp _ _ _ _) _) _ _ _)); (fail_if_success (with_reducible show wpAny _ _ (eval (Expr.DictComp _ _ _ _ _) _) _ _ _)); (fail_if_success (with_reducible show wpAny _ _ (pyIter _) _ _ _)); (fail_if_success (with_reducible show wpAny _ _ (exec (Stmt.While _ _ _ _) _) _ _ _)); (first | (k_unfold; (try dsimp only)) | walk1 | (dsimp only; walk1))))
  rename Fr g L _ _ => F5
  rename News g L _ _ => N5
  have hok : ∀ q ∈ txs ((t :: ts).map Tie.P), TxOk q.1 ∧ TxOk q.2 := by
    intro q hq
    obtain ⟨r, hr, rfl⟩ := List.mem_map.mp hq
    obtain ⟨z, hz, rfl⟩ := List.mem_map.mp hr
    exact ⟨(nm_ok (hts z hz).1 (hts z hz).2).self, tx_ok (Sm.bd (by have := wt_mem hz; show z.2.natAbs < 10 ^ 45; omega))⟩
  refine make_spec (as := a :: as) (G'.keep F5.keep) (R'.le (by omega)) F5 N5 ⟨0, (N5 _ (.head _)).1⟩ (HP'.on F5.keep) hok ?_
  intro x6 d6 hs6 tk6 n6 h6 tk6' F6 N6 st6 nx6 nd6
  clear F5 N5
  have htn : NmOk t.P.1 := nm_ok (hts t (.head _)).1 (hts t (.head _)).2
  (repeat' ((fail_if_success (with_reducible show wpAny _ _ (exec (Stmt.For _ _ _ _ _) _) _ _ _)); (fail_if_success (with_reducible show wpAny _ _ (eval (Expr.ListComp _ _ _ _) _) _ _ _)); (fail_if_success (with_reducible show wpAny _ _ (eval (Expr.DictComp _ _ _ _ _) _) _ _ _)); (fail_if_success (with_reducible show wpAny _ _ (pyIter _) _ _ _)); (fail_if_success (with_reducible show wpAny _ _ (exec (Stmt.While _ _ _ _) _) _ _ _)); (first | (k_unfold; (try dsimp only)) | walk1 | (dsimp only; walk1))))
  dsimp only
  refine SCL.swapcase (by show 2 ≤ 5592405; decide) ?_
  intro _
  rw [show Txt.swapcase t.P.1 = nm2 (sw t.1.1) (sw t.1.2) from swap_nm (hts t (.head _)).1 (hts t (.head _)).2]
  rename Fr g L _ _ => F7
  rename News g L _ _ => N7
  have ex7 := N7 _ (.head _)
  have ed7 := N7 _ (.tail _ (.head _))
  have el7 := N7 _ (.tail _ (.tail _ (.head _)))
  refine delItem_own F7 X (inst_of ex7.1 ed7.1) (by k_is) (by k_is) (by k_is) ?_
  have hGl : hG.get? l4 = none := by
    cases q : hG.get? l4 with
    | none => rfl
    | some o => have := G'.st _ _ q; rw [el7.2.2] at this; cases this
  have eco := N7 _ (.tail _ (.tail _ (.tail _ (.tail _ (.head _)))))
  have ncl : L + 1 ≠ l4 := by
    intro q
    have e1 := eco.1
    have e2 := el7.1
    dsimp only at e1 e2
    rw [q, e2] at e1
    cases e1
    cases hco3
  have nex : x6 ≠ l4 := ne_cls ex7.1 el7.1 (by simp)
  have ned : d6 ≠ l4 := ne_cls ed7.1 el7.1 (by simp)
  have hsl : (txs ((t :: ts).map Tie.P)).length = ts.length + 1 := by rw [txs, List.length_map, List.length_map, List.length_cons]
  refine del_spec (as := a :: as) (ps := txs ((t :: ts).map Tie.P)) (G'.keep F7.keep) (R'.le (by omega)) ⟨_, _, _, _, inst_of ex7.1 ed7.1⟩ el7.1 hGl (HP'.on F7.keep) (nm_ok (Lt.sw (hts t (.head _)).1) (Lt.sw (hts t (.head _)).2)) ?_ (by rw [hsl, sizeLine_eq]; omega) ?_
  · intro q hq
    obtain ⟨r, hr, rfl⟩ := List.mem_map.mp hq
    obtain ⟨z, hz, rfl⟩ := List.mem_map.mp hr
    show 2 ≤ 100; decide
  intro as8 nl8 h8 tk8 sb8 e8 K8
  dsimp only at sb8
  have F8 := Fr.onBut F7 (adr := [l4]) (fun a ha => by rw [List.mem_singleton.mp ha]; exact ⟨el7.2.1, el7.2.2⟩) sb8
  have N8 : News g L h8 [(x6, instObj 184 d6), (d6, dictOf [⟨hs6, .str (Str.ofString "_headers") tk6, .ref l4⟩] n6), (l4, lstObj (List.map Value.ref as8) nl8), (L + 1, co3)] :=
    News.cons (News.cons (News.cons (News.cons News.nil (sb8 _ _ (by simpa using ncl) eco.1) eco.2.1 eco.2.2) e8 el7.2.1 el7.2.2) (sb8 _ _ (by simpa using ned) ed7.1) ed7.2.1 ed7.2.2) (sb8 _ _ (by simpa using nex) ex7.1) ex7.2.1 ex7.2.2
  clear F7 N7
  have K8 := K8
  rw [txs_del (hts t (.head _)) hts] at K8
  (repeat' ((fail_if_success (with_reducible show wpAny _ _ (exec (Stmt.For _ _ _ _ _) _) _ _ _)); (fail_if_success (with_reducible show wpAny _ _ (eval (Expr.ListComp _ _ _ _) _) _ _ _)); (fail_if_success (with_reducible show wpAny _ _ (eval (Expr.DictComp _ _ _ _ _) _) _ _ _)); (fail_if_success (with_reducible show wpAny _ _ (pyIter _) _ _ _)); (fail_if_success (with_reducible show wpAny _ _ (exec (Stmt.While _ _ _ _) _) _ _ _)); (first | (k_unfold; (try dsimp only)) | walk1 | (dsimp only; walk1))))
  rename Fr g L _ _ => F9
  rename News g L _ _ => N9
  rw [show Txt.lower t.P.1 = nm2 (lo1 t.1.1) (lo1 t.1.2) from low_nm (hts t (.head _)).1 (hts t (.head _)).2]
  refine sorted2 hA F9 N9 ?_
  intro D10 h10 tk10 c10 u10 v10 F10 N10 st10
  clear F9 N9
  refine kun_list F10 N10 ⟨_, (N10 _ (.head _)).1, rfl, _, rfl⟩ hA rfl rfl ?_
  intro h11 F11 N11
  clear F10 N10
  (repeat' ((fail_if_success (with_reducible show wpAny _ _ (exec (Stmt.For _ _ _ _ _) _) _ _ _)); (fail_if_success (with_reducible show wpAny _ _ (eval (Expr.ListComp _ _ _ _) _) _ _ _)); (fail_if_success (with_reducible show wpAny _ _ (eval (Expr.DictComp _ _ _ _ _) _) _ _ _)); (fail_if_success (with_reducible show wpAny _ _ (pyIter _) _ _ _)); (fail_if_success (with_reducible show wpAny _ _ (exec (Stmt.While _ _ _ _) _) _ _ _)); (first | (k_unfold; (try dsimp only)) | walk1 | (dsimp only; walk1))))
  dsimp only
  rename Fr g L _ _ => F12
  rename News g L _ _ => N12
  have ex12 := N12 _ (.tail _ (.head _))
  have ed12 := N12 _ (.tail _ (.tail _ (.head _)))
  have el12 := N12 _ (.tail _ (.tail _ (.tail _ (.head _))))
  have hfl : ((t :: ts).filter fun q => !sameT t q).length ≤ n := by
    rw [List.filter_cons, show sameT t t = true from by simp [sameT]]
    exact Nat.le_trans (List.length_filter_le _ _) hle
  have hfl6 : ((t :: ts).filter fun q => !sameT t q).length ≤ 6 := Nat.le_trans hfl (Nat.le_of_lt hn6)
  have hfs : AllLt ((t :: ts).filter fun q => !sameT t q) := fun q hq => hts q (List.mem_filter.mp hq).1
  have hfw : wt ((t :: ts).filter fun q => !sameT t q) < 10 ^ 45 := Nat.lt_of_le_of_lt (wt_filter _ _) hw
  have has8 : as8.length ≤ 6 := by
    have := (K8 _ (HP'.on F12.keep)).length
    rw [txs, List.length_map, List.length_map] at this
    omega
  refine items_spec (as := as8) (G'.keep F12.keep) (R'.le (by omega)) ⟨_, _, _, _, inst_of ex12.1 ed12.1⟩ ⟨_, el12.1⟩ (by rw [sizeLine_eq]; omega) ?_
  intro l13 h13 tk13 st13 nl13 HL13
  have F13 := Fr.on F12 st13
  have N13 := News.on N12 st13
  clear F12 N12
  show wpAny _ _ _ _ _ _
  (repeat' ((fail_if_success (with_reducible show wpAny _ _ (exec (Stmt.For _ _ _ _ _) _) _ _ _)); (fail_if_success (with_reducible show wpAny _ _ (eval (Expr.ListComp _ _ _ _) _) _ _ _)); (fail_if_success (with_reducible show wpAny _ _ (eval (Expr.DictComp _ _ _ _ _) _) _ _ _)); (fail_if_success (with_reducible show wpAny _ _ (pyIter _) _ _ _)); (fail_if_success (with_reducible show wpAny _ _ (exec (Stmt.While _ _ _ _) _) _ _ _)); (first | (k_unfold; (try dsimp only)) | walk1 | (dsimp only; walk1))))
  refine ih (G'.keep F13.keep) R' HL13 (K8 _ (HP'.on F13.keep)) hfs hfl hfw ?_
  intro d14 h14 tk14 st14 nd14 C14
  obtain ⟨kv14, D14, C14⟩ := C14
  obtain ⟨o14, ho14, hi14⟩ := Heap.dictOf_iff.mp D14
  have N14 := News.cons (News.on N13 st14) ho14 (new_ne F13 nd14) (new_base F13 nd14)
  have F14 := Fr.on F13 st14
  clear F13 N13 D14
  show wpAny _ _ _ _ _ _
  (repeat' ((fail_if_success (with_reducible show wpAny _ _ (exec (Stmt.For _ _ _ _ _) _) _ _ _)); (fail_if_success (with_reducible show wpAny _ _ (eval (Expr.ListComp _ _ _ _) _) _ _ _)); (fail_if_success (with_reducible show wpAny _ _ (eval (Expr.DictComp _ _ _ _ _) _) _ _ _)); (fail_if_success (with_reducible show wpAny _ _ (pyIter _) _ _ _)); (fail_if_success (with_reducible show wpAny _ _ (exec (Stmt.While _ _ _ _) _) _ _ _)); (first | (k_unfold; (try dsimp only)) | walk1 | (dsimp only; walk1))))
  rename Fr g L _ _ => F15
  rename News g L _ _ => N15
  have ex15 := N15 _ (.tail _ (.tail _ (.head _)))
  have ed15 := N15 _ (.tail _ (.tail _ (.tail _ (.head _))))
  have el15 := N15 _ (.tail _ (.tail _ (.tail _ (.tail _ (.head _)))))
  have hlt0 := hts t (.head _)
  have hlr : ∀ c, Lt c → 97 ≤ lo1 c ∧ lo1 c ≤ 100 := by
    intro c hc
    unfold lo1; unfold Lt at hc
    split <;> omega
  have hr1 := hlr _ hlt0.1
  have hr2 := hlr _ hlt0.2
  have hgr : 97 ≤ max (lo1 t.1.1) (lo1 t.1.2) ∧ max (lo1 t.1.1) (lo1 t.1.2) ≤ 100 := by omega
  have hsr : 97 ≤ min (lo1 t.1.1) (lo1 t.1.2) ∧ min (lo1 t.1.1) (lo1 t.1.2) ≤ 100 := by omega
  refine melt_spec (G'.keep F15.keep) (R'.le (by omega)) ⟨_, _, _, _, inst_of ex15.1 ed15.1⟩ ⟨_, el15.1⟩ (K8 _ (HP'.on F15.keep)) hfs hfl6 hgr hsr (fun q hq => by have := wt_mem hq; show q.2.natAbs < 10 ^ 45; omega) (melted_sm hgr hsr hfs hfw) ?_
  intro x16 l16 as16 nl16 h16 tk16 st16 H16 nll16 el16 P16
  obtain ⟨dx16, hs16, tkx16, n16, I16⟩ := H16
  have F16 := Fr.on F15 st16
  have N16 := News.on N15 st16
  clear F15 N15
  show wpAny _ _ _ _ _ _
  refine method_inst F16 X I16 (by k_is) (by k_is) (by k_is) (by k_get) ?_
  (repeat' ((fail_if_success (with_reducible show wpAny _ _ (exec (Stmt.For _ _ _ _ _) _) _ _ _)); (fail_if_success (with_reducible show wpAny _ _ (eval (Expr.ListComp _ _ _ _) _) _ _ _)); (fail_if_success (with_reducible show wpAny _ _ (eval (Expr.DictComp _ _ _ _ _) _) _ _ _)); (fail_if_success (with_reducible show wpAny _ _ (pyIter _) _ _ _)); (fail_if_success (with_reducible show wpAny _ _ (exec (Stmt.While _ _ _ _) _) _ _ _)); (first | (k_unfold; (try dsimp only)) | walk1 | (dsimp only; walk1))))
  dsimp only
  have hmlt := melted_lt hgr hsr hfs
  rw [layAll_P hmlt] at P16
  have hm1 := layAll_length (melted (max (lo1 t.1.1) (lo1 t.1.2)) (min (lo1 t.1.1) (lo1 t.1.2)) ((t :: ts).filter fun q => !sameT t q))
  have hm2 : (melted (max (lo1 t.1.1) (lo1 t.1.2)) (min (lo1 t.1.1) (lo1 t.1.2)) ((t :: ts).filter fun q => !sameT t q)).length = ((t :: ts).filter fun q => !sameT t q).length := List.length_map _
  rw [layAll_P hmlt, List.length_map] at hm1
  have hm3 := wt_layAll _ _ (rfl : (melted (max (lo1 t.1.1) (lo1 t.1.2)) (min (lo1 t.1.1) (lo1 t.1.2)) ((t :: ts).filter fun q => !sameT t q)).length = _)
  have hm4 : wt (melted (max (lo1 t.1.1) (lo1 t.1.2)) (min (lo1 t.1.1) (lo1 t.1.2)) ((t :: ts).filter fun q => !sameT t q)) = _ := wt_map _ _
  have has16 : as16.length ≤ 6 := by
    have := P16.length
    rw [txs, List.length_map, List.length_map] at this
    omega
  refine items_spec (as := as16) (G'.keep F16.keep) (R'.le (by omega)) ⟨_, _, _, _, I16⟩ ⟨_, el16⟩ (by rw [sizeLine_eq]; omega) ?_
  intro l17 h17 tk17 st17 nl17 HL17
  have P17 := P16.on st17
  have F17 := Fr.on F16 st17
  have N17 := News.on N16 st17
  clear F16 N16 I16 el16 P16
  show wpAny _ _ _ _ _ _
  (repeat' ((fail_if_success (with_reducible show wpAny _ _ (exec (Stmt.For _ _ _ _ _) _) _ _ _)); (fail_if_success (with_reducible show wpAny _ _ (eval (Expr.ListComp _ _ _ _) _) _ _ _)); (fail_if_success (with_reducible show wpAny _ _ (eval (Expr.DictComp _ _ _ _ _) _) _ _ _)); (fail_if_success (with_reducible show wpAny _ _ (pyIter _) _ _ _)); (fail_if_success (with_reducible show wpAny _ _ (exec (Stmt.While _ _ _ _) _) _ _ _)); (first | (k_unfold; (try dsimp only)) | walk1 | (dsimp only; walk1))))
  refine ih (G'.keep F17.keep) R' HL17 P17 (layAllT_lt hmlt) (by omega) (by omega) ?_
  intro d19 h19 tk19 st19 nd19 C19
  obtain ⟨kv19, D19, C19⟩ := C19
  obtain ⟨o19, ho19, hi19⟩ := Heap.dictOf_iff.mp D19
  have N19 := News.cons (News.on N17 st19) ho19 (new_ne F17 nd19) (new_base F17 nd19)
  have F19 := Fr.on F17 st19
  clear F17 N17 D19
  show wpAny _ _ _ _ _ _
  (repeat' ((fail_if_success (with_reducible show wpAny _ _ (exec (Stmt.For _ _ _ _ _) _) _ _ _)); (fail_if_success (with_reducible show wpAny _ _ (eval (Expr.ListComp _ _ _ _) _) _ _ _)); (fail_if_success (with_reducible show wpAny _ _ (eval (Expr.DictComp _ _ _ _ _) _) _ _ _)); (fail_if_success (with_reducible show wpAny _ _ (pyIter _) _ _ _)); (fail_if_success (with_reducible show wpAny _ _ (exec (Stmt.While _ _ _ _) _) _ _ _)); (first | (k_unfold; (try dsimp only)) | walk1 | (dsimp only; walk1))))
  rename Fr g L _ _ => F20
  rename News g L _ _ => N20
  have e19 := N20 _ (.head _)
  have e14 := N20 _ (.tail _ (.head _))
  have lo19 : (d19 == sysModules) = false := lo_new G' e19.2.2
  have lo14 : (d14 == sysModules) = false := lo_new G' e14.2.2
  have hD20 : ∀ hh : Heap, hh.get? d19 = some o19 → hh.DictOf (intKind Challenge.rw_qj0003_01.row.prog w) d19 kv19 := fun hh e => Heap.dictOf_iff.mpr ⟨_, e, hi19⟩
  have hD14 : ∀ hh : Heap, hh.get? d14 = some o14 → hh.DictOf (intKind Challenge.rw_qj0003_01.row.prog w) d14 kv14 := fun hh e => Heap.dictOf_iff.mpr ⟨_, e, hi14⟩
  clear hi19 hi14
  refine compD_items (knd := intKind _ _) (knd₂ := intKind _ _) (cl := [(Str.ofString "value", L + 1)]) hA rfl (by decide) rfl (by decide) ?_
  (repeat' ((fail_if_success (with_reducible show wpAny _ _ (exec (Stmt.For _ _ _ _ _) _) _ _ _)); (fail_if_success (with_reducible show wpAny _ _ (eval (Expr.ListComp _ _ _ _) _) _ _ _)); (fail_if_success (with_reducible show wpAny _ _ (eval (Expr.DictComp _ _ _ _ _) _) _ _ _)); (fail_if_success (with_reducible show wpAny _ _ (pyIter _) _ _ _)); (fail_if_success (with_reducible show wpAny _ _ (exec (Stmt.While _ _ _ _) _) _ _ _)); (first | (k_unfold; (try dsimp only)) | walk1 | (dsimp only; walk1))))
  refine getM_dict (knd := intKind _ _) PySem.F.slot_dict_items PySem.F.type_dict_items (hD20 _ e19.1) ?_
  (repeat' ((fail_if_success (with_reducible show wpAny _ _ (exec (Stmt.For _ _ _ _ _) _) _ _ _)); (fail_if_success (with_reducible show wpAny _ _ (eval (Expr.ListComp _ _ _ _) _) _ _ _)); (fail_if_success (with_reducible show wpAny _ _ (eval (Expr.DictComp _ _ _ _ _) _) _ _ _)); (fail_if_success (with_reducible show wpAny _ _ (pyIter _) _ _ _)); (fail_if_success (with_reducible show wpAny _ _ (exec (Stmt.While _ _ _ _) _) _ _ _)); (first | (k_unfold; (try dsimp only)) | walk1 | (dsimp only; walk1))))
  dsimp only
  refine items_call (knd := intKind _ _) lo19 F20 N20 (hD20 _ e19.1) ?_
  intro V h21 F21 N21 st21
  clear F20 N20 e19 e14
  have hV := (N21 _ (.head _)).1
  have e19 := (N21 _ (.tail _ (.head _))).1
  have e14 := N21 _ (.tail _ (.tail _ (.head _)))
  have ecl := (N21 _ (.tail _ (.tail _ (.tail _ (.tail _ (.tail _ (.tail _ (.tail _ (.head _))))))))).1
  dsimp only at ecl
  obtain ⟨ep19, D19⟩ := (hD20 h21 e19).dictAt
  have X21 := X.keeps F21.keep
  have T21 := T.keeps F21.keep
  have htv : Bd t.2 := Sm.bd (by have := wt_mem (List.mem_cons_self (a := t) (l := ts)); show t.2.natAbs < 10 ^ 45; omega)
  generalize hcB : tallyF n (layAllT (melted (max (lo1 t.1.1) (lo1 t.1.2)) (min (lo1 t.1.1) (lo1 t.1.2)) ((t :: ts).filter fun q => !sameT t q))) (p - 1) = cB at C19
  have hBl : cB.length ≤ 2 ^ n := hcB ▸ tallyF_length _ _ _
  have hBn : keysNd cB := hcB ▸ tallyF_nd _ _ _
  have hBa : absum cB < 10 ^ 45 := by
    have := tallyF_abs n (layAllT (melted (max (lo1 t.1.1) (lo1 t.1.2)) (min (lo1 t.1.1) (lo1 t.1.2)) ((t :: ts).filter fun q => !sameT t q))) (p - 1)
    rw [hcB] at this
    omega
  have h2n : 2 ^ n ≤ 2 ^ 6 := Nat.pow_le_pow_right (by decide) (Nat.le_of_lt hn6)
  refine ⟨V, d19, kv19, ep19, rfl, ⟨_, hV, rfl, rfl⟩, D19, ?_, fun i kvs => CntIs kvs ((mulC t.2 cB).take i), ?_, ?_, ?_, ?_⟩
  · rw [C19.length, sizeLine_eq]; omega
  · intro i kvs hj
    rw [hj.length, List.length_take]
    exact Nat.min_le_left _ _
  · exact .nil
  · intro C D dob i k vv key a' I io m₂ kvs hh tk hx hkey ha hJ hDI F22 N22
    dsimp only at F22 N22
    obtain ⟨c, t22, rfl, hc⟩ := C19.get i hx
    obtain ⟨tk2, rfl⟩ := intKey hkey
    have hia : IsTup hh a' #[.int k tk2, .int c t22] := ⟨_, ha, rfl, _, rfl⟩
    have hcb : Bd c := Sm.bd (by have := abs_mem (List.mem_of_getElem? hc); show c.natAbs < 10 ^ 45; dsimp only at this; omega)
    clear F21 N21
    (repeat' ((fail_if_success (with_reducible show wpAny _ _ (exec (Stmt.For _ _ _ _ _) _) _ _ _)); (fail_if_success (with_reducible show wpAny _ _ (eval (Expr.ListComp _ _ _ _) _) _ _ _)); (fail_if_success (with_reducible show wpAny _ _ (eval (Expr.DictComp _ _ _ _ _) _) _ _ _)); (fail_if_success (with_reducible show wpAny _ _ (pyIter _) _ _ _)); (fail_if_success (with_reducible show wpAny _ _ (exec (Stmt.While _ _ _ _) _) _ _ _)); (first | (k_unfold; (try dsimp only)) | walk1 | (dsimp only; walk1))))
    refine int_call htv ?_
    (repeat' ((fail_if_success (with_reducible show wpAny _ _ (exec (Stmt.For _ _ _ _ _) _) _ _ _)); (fail_if_success (with_reducible show wpAny _ _ (eval (Expr.ListComp _ _ _ _) _) _ _ _)); (fail_if_success (with_reducible show wpAny _ _ (eval (Expr.DictComp _ _ _ _ _) _) _ _ _)); (fail_if_success (with_reducible show wpAny _ _ (pyIter _) _ _ _)); (fail_if_success (with_reducible show wpAny _ _ (exec (Stmt.While _ _ _ _) _) _ _ _)); (first | (k_unfold; (try dsimp only)) | walk1 | (dsimp only; walk1))))
    refine PyProof.Rows.mul_int ?_ ?_
    rotate_left
    · exact Bd.mulOk htv hcb
    rename Fr h21 C _ _ => F23
    rename News h21 C _ _ => N23
    have hcm : (mulC t.2 cB)[i]? = some (k, t.2 * c) := by
      unfold mulC
      rw [List.getElem?_map, hc]; rfl
    refine ⟨k, _, _, _, by simp [intKind, Value.isInt], rfl, F23, N23, ?_⟩
    rw [← putC_take (c1 := mulC t.2 cB) (by rw [keys_mul]; exact hBn) hcm]
    exact hJ.put
  · intro D h22 tk22 kvs hJ st22 hD hD0
    dsimp only at st22 hD0
    have F22 := Fr.on F21 st22
    have N22 := News.on N21 st22
    have hDg := new_base F21 hD0
    clear F21 N21
    have e14 := N22 _ (.tail _ (.tail _ (.head _)))
    show wpAny _ _ _ _ _ _
    (repeat' ((fail_if_success (with_reducible show wpAny _ _ (exec (Stmt.For _ _ _ _ _) _) _ _ _)); (fail_if_success (with_reducible show wpAny _ _ (eval (Expr.ListComp _ _ _ _) _) _ _ _)); (fail_if_success (with_reducible show wpAny _ _ (eval (Expr.DictComp _ _ _ _ _) _) _ _ _)); (fail_if_success (with_reducible show wpAny _ _ (pyIter _) _ _ _)); (fail_if_success (with_reducible show wpAny _ _ (exec (Stmt.While _ _ _ _) _) _ _ _)); (first | (k_unfold; (try dsimp only)) | walk1 | (dsimp only; walk1))))
    rw [List.take_of_length_le (by unfold mulC; rw [List.length_map, C19.length]; exact Nat.le_refl _)] at hJ
    refine addc_spec (G'.keep F22.keep) (R'.le (by omega)) ⟨kv14, hD14 h22 e14.1, C14⟩ lo14 ⟨kvs, hD, hJ⟩ (lo_new G' hDg) ?_ ?_
    · have h1 := tallyF_length n ((t :: ts).filter fun q => !sameT t q) p
      have h2 : (mulC t.2 cB).length = cB.length := by unfold mulC; exact List.length_map _
      rw [h2, sizeLine_eq]; omega
    · intro d24 h24 tk24 st24 nd24 C24
      have hds : s.heap.get? d24 = none := by
        cases q : s.heap.get? d24 with
        | none => rfl
        | some o => have := st0 _ _ q; rw [new_base F22 nd24] at this; cases this
      refine h d24 h24 tk24 (fun b o e => st24 _ _ (F22.keep _ _ (st0 _ _ e))) hds ?_
      rw [tallyF, hcB]
      exact C24
end
section
theorem tally_spec : ∀ (n : Nat), n ≤ 6 → ∀ {w : World} {A : Around} {E Q : Value → Shared → Prop} {s : Shared} {mean : ExcName → Option Value} {mg mb : Str → Option Value} {hG : Heap} {l : Addr} {as : List Addr} {ts : List Tie} {p : Int} {tp : Tok}
   (G : Ok w mean mg mb hG s.heap) (R : Room A (25 + n)) (HL : RefsAt s.heap l as) (HP : PairsAt s.heap as (txs (ts.map Tie.P))) (hts : AllLt ts) (hf : ts.length ≤ n) (hw : wt ts < 10 ^ 45)
   (h : ∀ d h' tk', s.heap.StaysIn h' → s.heap.get? d = none → CntAt Challenge.rw_qj0003_01.row.prog w h' d (tallyF n ts p) → Q (.ref d) { s with heap := h', toks := tk' }),
   wpAny (model Challenge.rw_qj0003_01.row.prog w) A (call (.ref 242) [.ref l, .int p tp]) Q E s
  | 0, _, w, A, E, Q, s, mean, mg, mb, hG, l, as, ts, p, tp, G, R, HL, HP, hts, hf, hw, h => by
    have : ts = [] := List.length_eq_zero_iff.mp (Nat.le_zero.mp hf)
    subst this
    have : as = [] := List.length_eq_zero_iff.mp HP.length
    subst this
    exact tally_nil G R HL h
  | n + 1, hn, w, A, E, Q, s, mean, mg, mb, hG, l, as, [], p, tp, G, R, HL, HP, hts, hf, hw, h => by
    have : as = [] := List.length_eq_zero_iff.mp HP.length
    subst this
    exact tally_nil G (R.le (by omega)) HL h
  | n + 1, hn, w, A, E, Q, s, mean, mg, mb, hG, l, as, t :: ts, p, tp, G, R, HL, HP, hts, hf, hw, h =>
    tally_cons (n := n) hn (fun G R HL HP hts hf hw h => tally_spec n (Nat.le_of_lt hn) G R HL HP hts hf hw h) G R HL HP hts hf hw h
end
section
set_option maxRecDepth 100000
/-- an end: two places and a factor -/
abbrev End := (Nat × Nat) × Int
def EndAt (h : Heap) (a : Addr) (e : End) : Prop := ∃ t1 t2 t3 n, h.get? a = some (tupObj [.int e.1.1 t1, .int e.1.2 t2, .int e.2 t3] n)
/-- things of one kind stand at these places -/
inductive Ats {α : Type} (P : Heap → Addr → α → Prop) (h : Heap) : List Addr → List α → Prop
  | nil : Ats P h [] []
  | cons {a p as ps} : P h a p → Ats P h as ps → Ats P h (a :: as) (p :: ps)
/-- what is said of a tuple alone -/
def TupP {α : Type} (P : Heap → Addr → α → Prop) : Prop := ∀ h a x, P h a x → ∃ vs n, h.get? a = some (tupObj vs n) ∧ ∀ h' : Heap, h'.get? a = some (tupObj vs n) → P h' a x
theorem Ats.length {α : Type} {P : Heap → Addr → α → Prop} {h : Heap} : ∀ {as ps}, Ats P h as ps → as.length = ps.length
  | _, _, .nil => rfl
  | _, _, .cons _ r => by simp [r.length]
theorem Ats.get {α : Type} {P : Heap → Addr → α → Prop} {h : Heap} : ∀ {as ps} (i : Nat) {a}, Ats P h as ps → as[i]? = some a → ∃ p, ps[i]? = some p ∧ P h a p
  | _, _, 0, _, .cons e _, hi => by simp at hi; subst hi; exact ⟨_, rfl, e⟩
  | _, _, i + 1, _, .cons _ r, hi => r.get i (by simpa using hi)
theorem Ats.snoc {α : Type} {P : Heap → Addr → α → Prop} {h : Heap} : ∀ {as ps} {a p}, Ats P h as ps → P h a p → Ats P h (as ++ [a]) (ps ++ [p])
  | _, _, _, _, .nil, e => .cons e .nil
  | _, _, _, _, .cons e r, e' => .cons e (r.snoc e')
theorem Ats.but {α : Type} {P : Heap → Addr → α → Prop} (tp : TupP P) {h h' : Heap} {wr : List Addr} (nt : ∀ b ∈ wr, NotTup h b) (sb : StaysBut wr h h') : ∀ {as ps}, Ats P h as ps → Ats P h' as ps
  | _, _, .nil => .nil
  | _, _, .cons e r => by
    obtain ⟨vs, n, e1, k⟩ := tp _ _ _ e
    exact .cons (k _ (sb _ _ (fun q => (nt _ q).ne e1 rfl) e1)) (r.but tp nt sb)
abbrev EndsAt (h : Heap) (as : List Addr) (ps : List End) : Prop := Ats EndAt h as ps
theorem endTup : TupP EndAt := fun _ _ _ ⟨t1, t2, t3, n, e⟩ => ⟨_, n, e, fun _ e' => ⟨t1, t2, t3, n, e'⟩⟩
theorem at_news {h₀ h : Heap} {L a : Addr} {o : Obj} {m : Str → Option Value} (F : Fr h₀ L h m) (e : h.get? a = some o) (hd : ∀ es n, o.data ≠ .dict es n) : ∃ prs, News h₀ L h prs ∧ (∀ p ∈ prs, p.2 = o) ∧ ∀ h', h₀.StaysIn h' → News h₀ L h' prs → h'.get? a = some o := by
  cases q : h₀.get? a with
  | some o' =>
    have := F.keep _ _ q
    rw [e] at this
    cases this
    exact ⟨[], News.nil, by simp, fun h' st _ => st _ _ q⟩
  | none =>
    have hL : a ≠ L := by
      rintro rfl
      obtain ⟨o', es, ep, e1, e2, _⟩ := F.ns
      rw [e] at e1
      cases e1
      exact hd _ _ e2
    exact ⟨_, News.cons News.nil e hL q, fun p hp => by rw [List.mem_singleton.mp hp], fun h' st N' => (N' _ (.head _)).1⟩
theorem ats_news {α : Type} {P : Heap → Addr → α → Prop} (tp : TupP P) {h₀ h : Heap} {L : Addr} {m : Str → Option Value} (F : Fr h₀ L h m) : ∀ {as : List Addr} {ps : List α}, Ats P h as ps → ∃ prs, News h₀ L h prs ∧ (∀ p ∈ prs, ∃ vs n, p.2 = tupObj vs n) ∧ ∀ h', h₀.StaysIn h' → News h₀ L h' prs → Ats P h' as ps
  | _, _, .nil => ⟨[], News.nil, by simp, fun _ _ _ => .nil⟩
  | _, _, .cons e r => by
    obtain ⟨prs, N, H, K⟩ := ats_news tp F r
    obtain ⟨vs, n, e1, k⟩ := tp _ _ _ e
    obtain ⟨prs', N', H', K'⟩ := at_news F e1 (by simp)
    exact ⟨prs' ++ prs, News.app N' N, fun p hp => (List.mem_append.mp hp).elim (fun q => ⟨_, _, H' p q⟩) (H p), fun h' st M => .cons (k _ (K' h' st fun p hp => M p (List.mem_append_left _ hp))) (K h' st fun p hp => M p (List.mem_append_right _ hp))⟩
theorem ends_news {h₀ h : Heap} {L : Addr} {m : Str → Option Value} (F : Fr h₀ L h m) {as : List Addr} {ps : List End} (E : EndsAt h as ps) : ∃ prs, News h₀ L h prs ∧ (∀ p ∈ prs, ∃ vs n, p.2 = tupObj vs n) ∧ ∀ h', h₀.StaysIn h' → News h₀ L h' prs → EndsAt h' as ps := ats_news endTup F E
theorem concrete {K : Frag} {a : Addr} {o o' : Obj} {P : Prop} (h : K.lookup a = some o') (ho : K.lookup a = some o) (k : o' = o → P) : P := k (Option.some.inj (h.symm.trans ho))
/-- the product of all factors -/
def prodE (es : List End) : Int := es.foldl (fun a e => a * e.2) 1
theorem prodE_step {es : List End} {i : Nat} {e : End} (h : es[i]? = some e) : prodE (es.take (i + 1)) = prodE (es.take i) * e.2 := by
  unfold prodE
  rw [List.take_add_one, h, List.foldl_append]; rfl
end
section
open Rx
abbrev dnL : List Str := [Str.ofString "more", Str.ofString "q", Str.ofString "p", Str.ofString "alone", Str.ofString "ends"]
set_option maxRecDepth 100000 in
set_option maxHeartbeats 2000000 in
theorem law_D {w : World} {A : Around} {Q : Flow → Shared → Prop} {s : Shared} {mean : ExcName → Option Value} {mg mb : Str → Option Value} {hG : Heap}
  {name qual : Str} {params : Arguments} {body : List Stmt} {scope : Scope} {dV kV doc pm cdv cdv' ct oc : Value} {an od : Option Addr} {osl : Array (Option Value)} {f : Addr} {g : Heap} {L : Addr} {mr : Str → Option Value} {eL d : Addr}
  {eas : List Addr} {es : List End} {cs : List (Int × Int)} {ne : Nat} {prs : List (Addr × Obj)} {co : Obj}
  (ho : (hd.heap_39 w.params).lookup 247 = some ⟨oc, od, .func (fnOf name qual params body scope dV kV doc pm an cdv ct), osl⟩)
  (G : Ok w mean mg mb hG g) (R : Room A 40)
  (F : Fr g L s.heap fun y => if y = Str.ofString "ends" then some (.ref eL) else mr y)
  (N : News g L s.heap ((eL, lstObj (eas.map .ref) ne) :: (L + 1 + 1, co) :: prs)) (hco : co.data = .cell (some (.ref d))) (lo : (d == sysModules) = false)
  (KP : ∀ h', g.StaysIn h' → News g L h' prs → EndsAt h' eas es ∧ CntAt Challenge.rw_qj0003_01.row.prog w h' d cs)
  (hb : ∀ i, Bd (prodE (es.take i))) (hb2 : ∀ e ∈ es, Bd e.2)
  (h : ∀ h' tk, g.StaysIn h' → Q (.ret (.bool (sumC cs == prodE es))) { s with heap := h', toks := tk }) :
  wpAny (model Challenge.rw_qj0003_01.row.prog w) A (execs (body.drop 7) (envOfC qual scope L f cdv')) Q (fun _ _ => False) s := by
  refine' concrete ?h ho ?_
  case h => k_is
  intro e
  unfold fnOf at e
  cases e
  clear ho
  simp only [List.drop_succ_cons, List.drop_zero]
  have X := G.here
  have T := G.top
  have hA := R.handled
  (repeat' ((fail_if_success (with_reducible show wpAny _ _ (exec (Stmt.For _ _ _ _ _) _) _ _ _)); (fail_if_success (with_reducible show wpAny _ _ (eval (Expr.ListComp _ _ _ _) _) _ _ _)); (fail_if_success (with_reducible show wpAny _ _ (eval (Expr.DictComp _ _ _ _ _) _) _ _ _)); (fail_if_success (with_reducible show wpAny _ _ (pyIter _) _ _ _)); (fail_if_success (with_reducible show wpAny _ _ (exec (Stmt.While _ _ _ _) _) _ _ _)); (first | (k_unfold; (try dsimp only)) | walk1 | (dsimp only; walk1))))
  refine wpAny_For ?_
  (repeat' ((fail_if_success (with_reducible show wpAny _ _ (exec (Stmt.For _ _ _ _ _) _) _ _ _)); (fail_if_success (with_reducible show wpAny _ _ (eval (Expr.ListComp _ _ _ _) _) _ _ _)); (fail_if_success (with_reducible show wpAny _ _ (eval (Expr.DictComp _ _ _ _ _) _) _ _ _)); (fail_if_success (with_reducible show wpAny _ _ (pyIter _) _ _ _)); (fail_if_success (with_reducible show wpAny _ _ (exec (Stmt.While _ _ _ _) _) _ _ _)); (first | (k_unfold; (try dsimp only)) | walk1 | (dsimp only; walk1))))
  rename Fr g L _ _ => F2
  rename News g L _ _ => N2
  have KE := KP _ F2.keep (fun p hp => N2 p (.tail _ (.tail _ hp)))
  have hlen := KE.1.length
  have hel := (N2 _ (.head _)).1
  refine loop_list (items := eas.map .ref) (L := L) rfl (fun i m _ => ∃ u1 u2 u3 t, m = fun y => if y = Str.ofString "more" then u1 else if y = Str.ofString "q" then u2 else if y = Str.ofString "p" then u3 else if y = Str.ofString "alone" then some (.int (prodE (es.take i)) t) else if y = Str.ofString "ends" then some (.ref eL) else mr y) hA ⟨_, hel, rfl, _, rfl⟩ (.inr ⟨_, .head _⟩) F2 N2 (fun _ _ _ _ _ _ j _ _ _ => j) ?j0 ?turn ?done PassesOwn.never
  case j0 => exact fun _ _ => ⟨_, _, _, _, names_ext dnL (by (((repeat (refine And.intro rfl ?_)); exact trivial))) (by ((intro y hy; (simp only [List.contains_cons, List.contains_nil, Bool.or_false, Bool.or_eq_false_iff, beq_eq_false_iff_ne, ne_eq] at hy); simp [hy, lookup_ne, lookup_no])))⟩
  case turn =>
    rintro I i v m₁ hh tk io hv ⟨u1, u2, u3, t, rfl⟩ hio F3 N3
    rw [List.getElem?_map] at hv
    obtain ⟨a, ha, rfl⟩ := Option.map_eq_some_iff.mp hv
    obtain ⟨KE3, _⟩ := KP _ F3.keep (fun p hp => N3 p (.tail _ (.tail _ (.tail _ hp))))
    obtain ⟨e, he, t1, t2, t3, n, hpa⟩ := KE3.get i ha
    have hia : IsTup hh a #[.int e.1.1 t1, .int e.1.2 t2, .int e.2 t3] := ⟨_, hpa, rfl, _, rfl⟩
    have hb3 := hb2 e (List.mem_of_getElem? he)
    clear F2 N2
    (repeat' ((fail_if_success (with_reducible show wpAny _ _ (exec (Stmt.For _ _ _ _ _) _) _ _ _)); (fail_if_success (with_reducible show wpAny _ _ (eval (Expr.ListComp _ _ _ _) _) _ _ _)); (fail_if_success (with_reducible show wpAny _ _ (eval (Expr.DictComp _ _ _ _ _) _) _ _ _)); (fail_if_success (with_reducible show wpAny _ _ (pyIter _) _ _ _)); (fail_if_success (with_reducible show wpAny _ _ (exec (Stmt.While _ _ _ _) _) _ _ _)); (first | (k_unfold; (try dsimp only)) | walk1 | (dsimp only; walk1))))
    refine imul_int ?_ ?_
    rotate_left
    · exact Bd.mulOk (hb i) hb3
    (repeat' ((fail_if_success (with_reducible show wpAny _ _ (exec (Stmt.For _ _ _ _ _) _) _ _ _)); (fail_if_success (with_reducible show wpAny _ _ (eval (Expr.ListComp _ _ _ _) _) _ _ _)); (fail_if_success (with_reducible show wpAny _ _ (eval (Expr.DictComp _ _ _ _ _) _) _ _ _)); (fail_if_success (with_reducible show wpAny _ _ (pyIter _) _ _ _)); (fail_if_success (with_reducible show wpAny _ _ (exec (Stmt.While _ _ _ _) _) _ _ _)); (first | (k_unfold; (try dsimp only)) | walk1 | (dsimp only; walk1))))
    rename Fr g L _ _ => F4
    rename News g L _ _ => N4
    exact ⟨_, _, _, rfl, F4, N4, _, _, _, _, by rw [prodE_step he]; exact names_ext dnL (by (((repeat (refine And.intro rfl ?_)); exact trivial))) (by ((intro y hy; (simp only [List.contains_cons, List.contains_nil, Bool.or_false, Bool.or_eq_false_iff, beq_eq_false_iff_ne, ne_eq] at hy); simp [hy, lookup_ne, lookup_no])))⟩
  case done =>
    rintro m₁ hh tk ⟨u1, u2, u3, t, rfl⟩ F3 N3
    clear F2 N2
    (repeat' ((fail_if_success (with_reducible show wpAny _ _ (exec (Stmt.For _ _ _ _ _) _) _ _ _)); (fail_if_success (with_reducible show wpAny _ _ (eval (Expr.ListComp _ _ _ _) _) _ _ _)); (fail_if_success (with_reducible show wpAny _ _ (eval (Expr.DictComp _ _ _ _ _) _) _ _ _)); (fail_if_success (with_reducible show wpAny _ _ (pyIter _) _ _ _)); (fail_if_success (with_reducible show wpAny _ _ (exec (Stmt.While _ _ _ _) _) _ _ _)); (first | (k_unfold; (try dsimp only)) | walk1 | (dsimp only; walk1))))
    rename Fr g L _ _ => F4
    rename News g L _ _ => N4
    refine count_spec (G.keep F4.keep) (R.le (by decide)) (KP _ F4.keep (fun p hp => N4 p (.tail _ (.tail _ hp)))).2 lo ?_
    intro h5 t5 tk5 st5
    have F5 := Fr.on F4 st5
    have N5 := News.on N4 st5
    clear F4 N4
    rw [List.take_of_length_le (by rw [List.length_map, hlen]; exact Nat.le_refl _)] at F5
    show wpAny _ _ _ _ _ _
    (repeat' ((fail_if_success (with_reducible show wpAny _ _ (exec (Stmt.For _ _ _ _ _) _) _ _ _)); (fail_if_success (with_reducible show wpAny _ _ (eval (Expr.ListComp _ _ _ _) _) _ _ _)); (fail_if_success (with_reducible show wpAny _ _ (eval (Expr.DictComp _ _ _ _ _) _) _ _ _)); (fail_if_success (with_reducible show wpAny _ _ (pyIter _) _ _ _)); (fail_if_success (with_reducible show wpAny _ _ (exec (Stmt.While _ _ _ _) _) _ _ _)); (first | (k_unfold; (try dsimp only)) | walk1 | (dsimp only; walk1))))
    exact h _ _ F5.keep
end
section
set_option maxRecDepth 100000
section
variable {prog : Program} {w : World} {A : Around} {E : Value → Shared → Prop} {s : Shared} {env : Env} {h₀ : Heap} {target : Expr} {body : List Stmt} {Q : Flow → Shared → Prop}

/-- a for over an iterator that is one object I, new, with a state of its own -/
theorem loop_own {I : Addr} {n : Nat} {St : Nat → Heap → Prop} {V : Nat → Value → Prop} {m₀ : Str → Option Value} {news : List (Addr × Obj)} {L : Addr} (hL : env.locals = L) (J : Nat → (Str → Option Value) → Heap → Prop)
    (hSI : ∀ i h, St i h → ∃ io, h.get? I = some io ∧ ∃ fs, io.data = .fields fs)
    (hS : ∀ i h h' io, St i h → h.get? I = some io → h'.get? I = some io → (∀ p ∈ news, h'.get? p.1 = some p.2) → St i h')
    (hItem : ∀ i (s : Shared) (Q : Value → Shared → Prop), i < n → St i s.heap → (∀ p ∈ news, s.heap.get? p.1 = some p.2) → (∀ v h' tk, V i v → St (i + 1) h' → StaysBut [I] s.heap h' → Q v { s with heap := h', toks := tk }) →
      wpAny (model prog w) A (pyNext (.ref I)) (fun r s₁ => ∃ v, r = some v ∧ wpAny (model prog w) A (letOwnedTupleGo target (.ref I) v) (fun _ s₂ => Q v s₂) (fun _ _ => False) s₁) (fun _ _ => False) s)
    (hEnd : ∀ (s : Shared) (Q : Option Value → Shared → Prop), St n s.heap → (∀ p ∈ news, s.heap.get? p.1 = some p.2) → (∀ h' tk, StaysBut [I] s.heap h' → Q none { s with heap := h', toks := tk }) → wpAny (model prog w) A (pyNext (.ref I)) Q (fun _ _ => False) s)
    (hst : St 0 s.heap) (hIL : I ≠ L) (hI0 : h₀.get? I = none) (hnI : ∀ p ∈ news, p.1 ≠ I)
    (F : Fr h₀ L s.heap m₀) (N : News h₀ L s.heap news)
    (hJf : ∀ i m h h' io, J i m h → h.get? I = some io → (∃ fs, io.data = .fields fs) → (∀ b o, b ≠ I → h.get? b = some o → h'.get? b = some o) → J i m h')
    (hj : J 0 m₀ s.heap)
    (turn : ∀ i v m₁ h tk io, i < n → V i v → J i m₁ h → (∃ fs, io.data = .fields fs) → Fr h₀ L h m₁ → News h₀ L h ((I, io) :: news) →
      wpAny (model prog w) A (assign target env v) (fun _ s₂ => wpAny (model prog w) A (execs body env) (TurnEnd h₀ L I s news io (J (i + 1)) Q) (fun _ _ => False) s₂) (fun _ _ => False) { s with heap := h, toks := tk })
    (done : ∀ m₁ h tk, J n m₁ h → Fr h₀ L h m₁ → News h₀ L h news → Q .next { s with heap := h, toks := tk }) :
    codeAny (model prog w) A (.forLoop target (.ref I) body [] env) (fun r s' => match r with | .ok f => Q f s' | .error e => cameBackBy (model prog w) A env (fun _ _ => False) e s') s := by
  subst hL
  refine codeAny_forLoop_any (fun k s' => ∃ h' tk m' i, s' = { s with heap := h', toks := tk } ∧ St i h' ∧ Fr h₀ env.locals h' m' ∧ News h₀ env.locals h' news ∧ J i m' h' ∧ i ≤ n ∧ k = n + 1 - i) ?_ (n + 1) ⟨s.heap, s.toks, m₀, 0, rfl, hst, F, N, hj, Nat.zero_le _, rfl⟩
  rintro k s' ⟨h', tk, m', i, rfl, hst', F', N', hJ, hi, rfl⟩
  obtain ⟨oi, hoi, hdi⟩ := hSI _ _ hst'
  have step : ∀ h₁, StaysBut [I] h' h₁ → Fr h₀ env.locals h₁ m' ∧ News h₀ env.locals h₁ news ∧ J i m' h₁ := fun h₁ sb => by
    have hk₁ : ∀ b o, b ≠ I → h'.get? b = some o → h₁.get? b = some o := fun b o nb e => sb b o (by simpa using nb) e
    exact ⟨Fr.onBut F' (fun b hb => by rw [List.mem_singleton.mp hb]; exact ⟨hIL, hI0⟩) sb, News.onBut N' (fun p hp => by simpa using hnI p hp) sb, hJf i m' h' h₁ oi hJ hoi hdi hk₁⟩
  have here : ∀ p ∈ news, h'.get? p.1 = some p.2 := fun p hp => (N' p hp).1
  by_cases q : i < n
  · refine wpAny_mono (hItem i { s with heap := h', toks := tk } (fun v s₂ => wpAny (model prog w) A (assign target env v) (fun _ s₂ => wpAny (model prog w) A (execs body env) (fun f s₃ => match f with
            | .next | .cont => ∃ m, m < n + 1 - i ∧ ∃ h' tk m' i, s₃ = { s with heap := h', toks := tk } ∧ St i h' ∧ Fr h₀ env.locals h' m' ∧ News h₀ env.locals h' news ∧ J i m' h' ∧ i ≤ n ∧ m = n + 1 - i
            | .brk => Q .next s₃
            | .ret v => Q (.ret v) s₃) (fun _ _ => False) s₂) (fun _ _ => False) s₂) q hst' here fun v h₁ tk₁ hV hst₁ sb => ?_) (fun r s₁ hr => ?_) (fun _ _ x => x.elim)
    · obtain ⟨io, hio, hfs⟩ := hSI _ _ hst₁
      obtain ⟨F₁, N₁, J₁⟩ := step h₁ sb
      refine wpAny_mono (turn i v m' h₁ tk₁ io q hV J₁ hfs F₁ (News.cons N₁ hio hIL hI0)) (fun _ s₂ h₂ => wpAny_mono h₂ (fun f s₃ h₃ => ?_) fun _ _ x => x.elim) fun _ _ x => x.elim
      have go : (∃ h' tk' m', s₃ = { s with heap := h', toks := tk' } ∧ Fr h₀ env.locals h' m' ∧ News h₀ env.locals h' ((I, io) :: news) ∧ J (i + 1) m' h') →
          ∃ m, m < n + 1 - i ∧ ∃ h' tk m' i, s₃ = { s with heap := h', toks := tk } ∧ St i h' ∧ Fr h₀ env.locals h' m' ∧ News h₀ env.locals h' news ∧ J i m' h' ∧ i ≤ n ∧ m = n + 1 - i := by
        rintro ⟨hz, tk₃, m₃, rfl, F₃, N₃, J₃⟩
        have N₃' : News h₀ env.locals hz news := fun p hp => N₃ p (.tail _ hp)
        exact ⟨n + 1 - (i + 1), by omega, hz, tk₃, m₃, i + 1, rfl, hS _ _ _ _ hst₁ hio (N₃ _ (.head _)).1 (fun p hp => (N₃' p hp).1), F₃, N₃', J₃, q, rfl⟩
      cases f with
      | ret v => exact h₃
      | brk => exact h₃
      | next => exact go h₃
      | cont => exact go h₃
    · obtain ⟨v, rfl, hr⟩ := hr
      refine wpAny_mono hr (fun _ s₂ h₂ => wpAny_mono h₂ (fun _ s₃ h₃ => wpAny_mono h₃ (fun f s₄ h₄ => ?_) fun _ _ x => x.elim) fun _ _ x => x.elim) fun _ _ x => x.elim
      cases f <;> exact h₄
  · have hin : i = n := by omega
    subst hin
    refine wpAny_mono (hEnd { s with heap := h', toks := tk } (fun r s₁ => r = none ∧ ∃ h₁ tk₁, s₁ = { s with heap := h₁, toks := tk₁ } ∧ StaysBut [I] h' h₁) hst' here fun h₁ tk₁ sb => ⟨rfl, h₁, tk₁, rfl, sb⟩) (fun r s₁ hr => ?_) (fun _ _ x => x.elim)
    obtain ⟨rfl, h₁, tk₁, rfl, sb⟩ := hr
    obtain ⟨F₁, N₁, J₁⟩ := step h₁ sb
    exact wpAny_execs_nil (done m' h₁ tk₁ J₁ F₁ N₁)

/-- for .. in a tuple of the ledger -/
theorem loop_tup {T : Addr} {items : List Value} {nT : Nat} {m₀ : Str → Option Value} {news : List (Addr × Obj)} {L : Addr} (hL : env.locals = L) (J : Nat → (Str → Option Value) → Heap → Prop)
    (hh : A.handled = none) (hT : (T, tupObj items nT) ∈ news)
    (F : Fr h₀ L s.heap m₀) (N : News h₀ L s.heap news)
    (hJf : ∀ I i m h h' io, J i m h → h.get? I = some io → (∃ fs, io.data = .fields fs) → (∀ b o, b ≠ I → h.get? b = some o → h'.get? b = some o) → J i m h')
    (hj : ∀ h, s.heap.StaysIn h → J 0 m₀ h)
    (turn : ∀ I i v m₁ h tk io, items[i]? = some v → J i m₁ h → (∃ fs, io.data = .fields fs) → Fr h₀ L h m₁ → News h₀ L h ((I, io) :: news) →
      wpAny (model prog w) A (assign target env v) (fun _ s₂ => wpAny (model prog w) A (execs body env) (TurnEnd h₀ L I s news io (J (i + 1)) Q) (fun _ _ => False) s₂) (fun _ _ => False) { s with heap := h, toks := tk })
    (done : ∀ m₁ h tk, J items.length m₁ h → Fr h₀ L h m₁ → News h₀ L h news → Q .next { s with heap := h, toks := tk }) :
    wpAny (model prog w) A (pyIter (.ref T)) (fun it s₂ => codeAny (model prog w) A (.forLoop target it body [] env) (fun r s' => match r with | .ok f => Q f s' | .error e => cameBackBy (model prog w) A env (fun _ _ => False) e s') s₂) (fun _ _ => False) s := by
  have hT1 : s.heap.IsTuple T items.toArray := ⟨_, (N _ hT).1, rfl, _, rfl⟩
  refine wpAny_pyIter_tuple hT1 ?_
  have st : ∀ o : Obj, s.heap.StaysIn (s.heap.push o) := fun o b o' e => Heap.get?_push_of_some _ e
  have hI0 : h₀.get? s.heap.objs.size = none := next_is_new F
  have hne : T ≠ s.heap.objs.size := Nat.ne_of_lt (Heap.lt_size (N _ hT).1)
  refine loop_own (s := { s with heap := s.heap.push { cls := .type "tuple_iterator", data := .fields #[.ref T, .int 0 0] } }) (I := s.heap.objs.size) (n := items.length) (St := fun i h => h.IsTupleIter s.heap.objs.size T i) (V := fun i v => items[i]? = some v) hL J ?_ ?_ ?_ ?_
    ⟨_, Heap.get?_push_size _ rfl, rfl, rfl⟩ (Ne.symm (Nat.ne_of_lt F.ns.lt)) hI0 (fun p hp => Nat.ne_of_lt (Heap.lt_size (N p hp).1)) (F.push _) (fun p hp => ⟨st _ _ _ (N p hp).1, (N p hp).2⟩) (hJf _) (hj _ (st _)) (fun i v m₁ h tk io _ hv j hf F' N' => turn _ i v m₁ h tk io hv j hf F' N') done
  · intro i h hi
    obtain ⟨o, e, c, d⟩ : h.IsTupleIter s.heap.objs.size T i := hi
    exact ⟨o, e, _, d⟩
  · intro i h h' io hi e1 e2 _
    obtain ⟨o, e, c, d⟩ : h.IsTupleIter s.heap.objs.size T i := hi
    rw [e] at e1; cases e1
    exact ⟨_, e2, c, d⟩
  · intro i s' Q' hi hst hn hQ
    have ht : s'.heap.IsTuple T items.toArray := ⟨_, hn _ hT, rfl, _, rfl⟩
    refine wpAny_pyNext_tuple_item hst ht (x := items[i]) (by simp [hi]) fun h' hit' hs' => ⟨_, rfl, ?_⟩
    exact letGo_tupleiter hit' (hQ _ h' s'.toks (by simp [hi]) hit' fun b o hb' e => hs'.extBut b o (by simpa using hb') e)
  · intro s' Q' hst hn hQ
    have ht : s'.heap.IsTuple T items.toArray := ⟨_, hn _ hT, rfl, _, rfl⟩
    exact wpAny_pyNext_tuple_end hh hst ht (by simp) fun h' he' => hQ h' s'.toks fun b o hb' e => he' b o (by simpa using hb') e

/-- for .. in range(n) -/
theorem loop_range {x : Str} {pos : Pos} {r : Addr} {n : Nat} {t u v : Tok} {m₀ : Str → Option Value} {news : List (Addr × Obj)} {L : Addr} (hL : env.locals = L) (J : Nat → (Str → Option Value) → Heap → Prop)
    (hh : A.handled = none) (hr : IsRange s.heap r 0 n 1 t u v) (hn : n ≤ 1000)
    (F : Fr h₀ L s.heap m₀) (N : News h₀ L s.heap news)
    (hJf : ∀ I i m h h' io, J i m h → h.get? I = some io → (∃ fs, io.data = .fields fs) → (∀ b o, b ≠ I → h.get? b = some o → h'.get? b = some o) → J i m h')
    (hj : ∀ h, s.heap.StaysIn h → J 0 m₀ h)
    (turn : ∀ I i t m₁ h tk io, i < n → J i m₁ h → (∃ fs, io.data = .fields fs) → Fr h₀ L h m₁ → News h₀ L h ((I, io) :: news) →
      wpAny (model prog w) A (assign (.Name x pos) env (.int i t)) (fun _ s₂ => wpAny (model prog w) A (execs body env) (TurnEnd h₀ L I s news io (J (i + 1)) Q) (fun _ _ => False) s₂) (fun _ _ => False) { s with heap := h, toks := tk })
    (done : ∀ m₁ h tk, J n m₁ h → Fr h₀ L h m₁ → News h₀ L h news → Q .next { s with heap := h, toks := tk }) :
    wpAny (model prog w) A (pyIter (.ref r)) (fun it s₂ => codeAny (model prog w) A (.forLoop (.Name x pos) it body [] env) (fun r s' => match r with | .ok f => Q f s' | .error e => cameBackBy (model prog w) A env (fun _ _ => False) e s') s₂) (fun _ _ => False) s := by
  have hsz : Builtin.Range.rangeSize 0 (n : Int) 1 = n := by
    unfold Builtin.Range.rangeSize
    simp
    omega
  have hsm : Builtin.Range.small 0 (n : Int) 1 = true := by
    unfold Builtin.Range.small
    rw [hsz]
    unfold Builtin.Range.rangeFitsLong
    simp
    omega
  refine wpAny_pyIter_range hr hsm ?_
  rw [hsz]
  have st : ∀ o : Obj, s.heap.StaysIn (s.heap.push o) := fun o b o' e => Heap.get?_push_of_some _ e
  have hI0 : h₀.get? s.heap.objs.size = none := next_is_new F
  refine loop_own (s := { s with heap := s.heap.push { cls := .type "range_iterator", data := .fields #[rawInt 0, rawInt n, rawInt 1] } }) (I := s.heap.objs.size) (n := n) (St := fun i h => IsRangeIter h s.heap.objs.size i ((n : Int) - i) 1) (V := fun i v => ∃ t, v = .int i t) hL J ?_ ?_ ?_ ?_
    ?_ (Ne.symm (Nat.ne_of_lt F.ns.lt)) hI0 (fun p hp => Nat.ne_of_lt (Heap.lt_size (N p hp).1)) (F.push _) (fun p hp => ⟨st _ _ _ (N p hp).1, (N p hp).2⟩) (hJf _) (hj _ (st _)) ?_ done
  · intro i h hi
    exact ⟨_, hi, _, rfl⟩
  · intro i h h' io hi e1 e2 _
    have hi' : h.get? s.heap.objs.size = _ := hi
    rw [hi'] at e1; cases e1
    exact e2
  · intro i s' Q' hi hst hn' hQ
    refine wpAny_pyNext_range_item hst (by omega) fun h' hit' hs' => ⟨_, rfl, letGo_other (hQ _ h' _ ⟨_, rfl⟩ ?_ fun b o hb' e => hs'.extBut b o (by simpa using hb') e)⟩
    have e1 : ((i : Int) + 1) = ((i + 1 : Nat) : Int) := by omega
    have e2 : ((n : Int) - i - 1) = (n : Int) - ((i + 1 : Nat) : Int) := by omega
    rw [e1, e2] at hit'
    exact hit'
  · intro s' Q' hst hn' hQ
    exact wpAny_pyNext_range_end hh hst (by omega) fun h' he' => hQ h' s'.toks fun b o hb' e => he' b o (by simpa using hb') e
  · show IsRangeIter _ _ _ _ _
    simpa using Heap.get?_push_size _ rfl
  · rintro i v m₁ h tk io hi ⟨t, rfl⟩ hJ hf F' N'
    exact turn _ i t m₁ h tk io hi hJ hf F' N'
end
end
section
set_option maxRecDepth 100000
section
variable {prog : Program} {w : World} {K : Type} [DecidableEq K] {knd : KeyKind prog w K} {A : Around} {E : Value → Shared → Prop} {env : Env}
/-- a comprehension over the keys of a dict -/
theorem comp_keys {s : Shared} {elt : Expr} {x : Str} {xp : Pos} {ifs : List Expr} {scope : Scope} {cl : List (Str × Addr)} {fin : Nat → (Nat → List Value → Heap → Prop) → Heap → Shared → Prop} {d : Addr} {kvs : List (K × Value)} {ep : Nat}
    (hh : A.handled = none) (lo : (d == sysModules) = false) (hd : s.heap.DictAt knd d kvs ep) (hsz : kvs.length ≤ sizeLine) (J : Nat → List Value → Heap → Prop)
    (hJf : ∀ wr' i ys h h', J i ys h → (∀ b ∈ wr', NotTup h b ∧ s.heap.get? b = none) → StaysBut wr' h h' → J i ys h') (hJl : ∀ i ys h, J i ys h → ys.length ≤ i) (hj : ∀ h, s.heap.StaysIn h → J 0 [] h)
    (turn : ∀ C D I io i k vv key m₂ ys h tk, kvs[i]? = some (k, vv) → knd.is k key = true → J i ys h → D ≠ I → Fr s.heap C h m₂ → News s.heap C h [(D, lst ys), (I, io)] →
        wpAny (model prog w) A (assign (.Name x xp) (compEnvC scope cl C env) key) (fun _ s₃ => wpAny (model prog w) A (forIn ifs true fun c r => if r = true then do let ok ← isTrue c (compEnvC scope cl C env) (eval c (compEnvC scope cl C env)); pure (ForInStep.yield ok) else pure (ForInStep.yield r))
          (fun ok s₄ => if ok = true then wpAny (model prog w) A (eval elt (compEnvC scope cl C env)) (fun y s₅ => CEnd s.heap C D s ys [(I, io)] (J (i + 1)) (ys ++ [y]) s₅) (fun _ _ => False) s₄ else CEnd s.heap C D s ys [(I, io)] (J (i + 1)) ys s₄) (fun _ _ => False) s₃) (fun _ _ => False) { s with heap := h, toks := tk })
    (hfin : ∀ h₂, fin kvs.length J s.heap { s with heap := h₂ }) :
    wpAny (model prog w) A (pyIter (.ref d)) (CompAt prog w A env (.Name x xp) elt ifs scope cl fin) E s := by
  refine wpAny_pyIter_dict lo hd ?_
  have hI : s.heap.get? s.heap.objs.size = none := Heap.get?_none_of_le (Nat.le_refl _)
  have st : ∀ o : Obj, s.heap.StaysIn (s.heap.push o) := fun o b o' e => Heap.get?_push_of_some _ e
  refine ⟨s.heap.objs.size, s.heap, kvs.length, _, _, [s.heap.objs.size], rfl, It.keys (knd := knd) hh hd hI, hsz, ⟨⟨_, Heap.get?_push_size _ rfl, rfl, rfl⟩, hd.keep (st _)⟩, st _, fun b hb => by rw [List.mem_singleton.mp hb]; exact hI, ?_, J, hJf, hJl, fun h st' => hj h fun b o e => st' b o (Heap.get?_push_of_some _ e), ?_, ?_⟩
  · show s.heap.objs.size ≤ (s.heap.push _).objs.size
    rw [Heap.size_push]; exact Nat.le_succ _
  · intro C D i v m₂ ys h tk ino hi hP hJ hino hD F N
    obtain ⟨⟨I', io⟩, rfl, hI'⟩ := List.map_eq_singleton_iff.mp hino
    have hI' : I' = s.heap.objs.size := hI'
    subst hI'
    obtain ⟨k, vv, hx, hk⟩ := hP
    exact turn C D _ io i k vv v m₂ ys h tk hx hk hJ (fun q => hD (by rw [q]; exact List.mem_singleton.mpr rfl)) F N
  · exact hfin _

/-- the pairs of enumerate(list) -/
theorem It.enum (hh : A.handled = none) {e it l : Addr} {hb : Heap} {items : List Value} {elts : List Expr} {x1 : Nat} {pos : Pos} (hei : e ≠ it) (hl : hb.IsList l items.toArray) (he0 : hb.get? e = none) (hi0 : hb.get? it = none) :
    It prog w A (.Tuple elts x1 pos) e hb items.length (fun i v h => ∃ x a t, items[i]? = some x ∧ v = .ref a ∧ h.get? a = some (tupObj [.int i t, x] 0))
      (fun i h => (∃ old, IsEnum h e it i old) ∧ h.IsListIter it l i ∧ h.IsList l items.toArray) [e, it] where
  mem := by simp
  frame := fun i h h' st hk hw => by
    obtain ⟨⟨old, h1⟩, h2, h3⟩ := st
    exact ⟨⟨old, hw e (by simp) _ h1⟩, h2.at fun o e' => hw it (by simp) o e', hl.at fun o e' => hk _ _ e'⟩
  here := fun i h st b hb' => by
    obtain ⟨⟨old, h1⟩, ⟨o2, h2, c2, d2⟩, h3⟩ := st
    rcases List.mem_cons.mp hb' with rfl | hb'
    · exact ⟨_, h1, by simp, by simp, fun es n => by simp⟩
    · rcases List.mem_singleton.mp hb' with rfl
      exact ⟨o2, h2, by rw [c2]; simp, by rw [c2]; simp, fun es n => by rw [d2]; simp⟩
  item := fun i s Q hi st hQ => by
    obtain ⟨⟨old, h1⟩, h2, h3⟩ := st
    have hle : l ≠ e := by
      obtain ⟨o, e', _⟩ := hl
      rintro rfl; rw [he0] at e'; cases e'
    have hli : l ≠ it := by
      obtain ⟨o, e', _⟩ := hl
      rintro rfl; rw [hi0] at e'; cases e'
    have heS : e < s.heap.objs.size := Heap.lt_size h1
    refine wpAny_pyNext_enum_item h1 h2 h3 (x := items[i]) (by simp [hi]) hei fun h₁ heo hit₁ ht₁ hz₁ hk₁ => ⟨_, rfl, ?_⟩
    refine wpAny_letOwnedTupleGo_enum heo fun h₂ he₂ hs₂ => ?_
    replace hs₂ : Heap.SameBut e h₁ h₂ := hs₂
    have e1 : ((i : Int) + 1) = ((i + 1 : Nat) : Int) := by omega
    refine hQ _ h₂ _ ⟨items[i], _, _, by simp [hi], rfl, hs₂.extBut _ _ (Nat.ne_of_gt heS) ht₁⟩ ⟨⟨_, e1 ▸ he₂⟩, hit₁.extBut hs₂.extBut (Ne.symm hei), (h3.at fun o e' => hk₁ _ _ hle hli e').extBut hs₂.extBut hle⟩ fun b o nb e' => ?_
    have nb1 : b ≠ e := fun q => nb (by simp [q])
    have nb2 : b ≠ it := fun q => nb (by simp [q])
    exact hs₂.extBut _ _ nb1 (hk₁ _ _ nb1 nb2 e')
  done := fun s Q st hQ => by
    obtain ⟨⟨old, h1⟩, h2, h3⟩ := st
    exact wpAny_pyNext_enum_end hh h1 h2 h3 (by simp) fun h' he' => hQ h' s.toks fun b o nb e' => he' b o (fun q => nb (by simp [q])) e'
  self := fun _ _ _ st hQ => by
    obtain ⟨⟨old, h1⟩, h2, h3⟩ := st
    exact wpAny_pyIter_enum h1 hQ

/-- a comprehension over enumerate(list) -/
theorem comp_enum {s : Shared} {elt : Expr} {elts : List Expr} {x1 : Nat} {tpos : Pos} {ifs : List Expr} {scope : Scope} {cl : List (Str × Addr)} {fin : Nat → (Nat → List Value → Heap → Prop) → Heap → Shared → Prop} {l : Addr} {items : List Value}
    (hh : A.handled = none) (hl : s.heap.IsList l items.toArray) (hsz : items.length ≤ sizeLine) (J : Nat → List Value → Heap → Prop)
    (hJf : ∀ wr' i ys h h', J i ys h → (∀ b ∈ wr', NotTup h b ∧ s.heap.get? b = none) → StaysBut wr' h h' → J i ys h') (hJl : ∀ i ys h, J i ys h → ys.length ≤ i) (hj : ∀ h, s.heap.StaysIn h → J 0 [] h)
    (turn : ∀ C D e it eo io (i : Nat) x a t m₂ ys h tk, items[i]? = some x → h.get? a = some (tupObj [.int i t, x] 0) → J i ys h → D ≠ e → D ≠ it → Fr s.heap C h m₂ → News s.heap C h [(D, lst ys), (e, eo), (it, io)] →
        wpAny (model prog w) A (assign (.Tuple elts x1 tpos) (compEnvC scope cl C env) (.ref a)) (fun _ s₃ => wpAny (model prog w) A (forIn ifs true fun c r => if r = true then do let ok ← isTrue c (compEnvC scope cl C env) (eval c (compEnvC scope cl C env)); pure (ForInStep.yield ok) else pure (ForInStep.yield r))
          (fun ok s₄ => if ok = true then wpAny (model prog w) A (eval elt (compEnvC scope cl C env)) (fun y s₅ => CEnd s.heap C D s ys [(e, eo), (it, io)] (J (i + 1)) (ys ++ [y]) s₅) (fun _ _ => False) s₄ else CEnd s.heap C D s ys [(e, eo), (it, io)] (J (i + 1)) ys s₄) (fun _ _ => False) s₃) (fun _ _ => False) { s with heap := h, toks := tk })
    (hfin : ∀ h₂, fin items.length J s.heap { s with heap := h₂ }) :
    wpAny (model prog w) A (call (.type "enumerate") [.ref l]) (fun xv s₁ => wpAny (model prog w) A (pyIter xv) (CompAt prog w A env (.Tuple elts x1 tpos) elt ifs scope cl fin) E s₁) E s := by
  refine call_enumerate_list hl fun h' he hit hz hk => ?_
  have he0 : s.heap.get? (s.heap.objs.size + 1) = none := Heap.get?_none_of_le (Nat.le_succ _)
  have hi0 : s.heap.get? s.heap.objs.size = none := Heap.get?_none_of_le (Nat.le_refl _)
  refine wpAny_pyIter_enum he ?_
  refine ⟨s.heap.objs.size + 1, s.heap, items.length, _, _, [s.heap.objs.size + 1, s.heap.objs.size], rfl, It.enum hh (Nat.succ_ne_self _) hl he0 hi0, hsz, ⟨⟨_, he⟩, hit, hl.at fun o e => hk _ _ e⟩, hk, ?_, ?_, J, hJf, hJl, fun h st' => hj h fun b o e => st' b o (hk _ _ e), ?_, ?_⟩
  · intro b hb
    rcases List.mem_cons.mp hb with rfl | hb
    · exact he0
    · rw [List.mem_singleton.mp hb]; exact hi0
  · show s.heap.objs.size ≤ h'.objs.size
    omega
  · intro C D i v m₂ ys h tk ino hi hP hJ hino hD F N
    obtain ⟨x, a, t, hx, rfl, ha⟩ := hP
    obtain ⟨⟨e, eo⟩, r, rfl, he1, hr⟩ := List.map_eq_cons_iff.mp hino
    obtain ⟨⟨it, io⟩, rfl, hi1⟩ := List.map_eq_singleton_iff.mp hr
    have he1 : e = s.heap.objs.size + 1 := he1
    have hi1 : it = s.heap.objs.size := hi1
    subst hi1
    have hD1 : D ≠ e := fun q => hD (by rw [q, he1]; exact .head _)
    have hD2 : D ≠ s.heap.objs.size := fun q => hD (by rw [q]; exact .tail _ (.head _))
    exact turn C D e _ eo io i x a t m₂ ys h tk hx ha hJ hD1 hD2 F N
  · exact hfin _
end
end
section
set_option maxRecDepth 100000
def shade (h code p : Nat) : Nat := if p = 0 then 0 else if p = 1 then code % h else if p = 2 then code / h % h else code / h ^ 2
def prodS (f : Nat → Nat) (es : List End) : Int := es.foldl (fun a e => if f e.1.1 = f e.1.2 then a * e.2 else a) 1
def dueF (h : Nat) (es : List End) (n : Nat) : Int := ((List.range n).map fun code => prodS (shade h code) es).sum
def telF (h : Nat) (cs : List (Int × Int)) : Int := (cs.map fun kc => kc.2 * (h : Int) ^ kc.1.toNat).sum
theorem prodS_step {f : Nat → Nat} {es : List End} {i : Nat} {e : End} (h : es[i]? = some e) : prodS f (es.take (i + 1)) = if f e.1.1 = f e.1.2 then prodS f (es.take i) * e.2 else prodS f (es.take i) := by
  unfold prodS
  rw [List.take_add_one, h, List.foldl_append]; rfl
theorem dueF_step (h : Nat) (es : List End) (n : Nat) : dueF h es (n + 1) = dueF h es n + prodS (shade h n) es := by
  unfold dueF
  rw [List.range_succ, List.map_append, List.sum_append]; simp
def pick4 (a b c d : Int) (p : Nat) : Int := if p = 0 then a else if p = 1 then b else if p = 2 then c else d
theorem pick_shade {h i : Nat} {k : Int} (hh : h = 2 ∨ h = 3) (hk : (h : Int) ^ Int.toNat 2 = k) (p : Nat) : pick4 0 ((i : Int).fmod h) (((i : Int).fdiv h).fmod h) ((i : Int).fdiv k) p = (shade h i p : Int) := by
  have h2 : k = ((h ^ 2 : Nat) : Int) := by rw [← hk, Int.natCast_pow]; rfl
  subst h2
  unfold pick4 shade
  repeat' split
  · rfl
  · rw [Int.fmod_eq_emod_of_nonneg _ (by omega)]; rfl
  · rw [Int.fmod_eq_emod_of_nonneg _ (by omega), Int.fdiv_eq_ediv_of_nonneg _ (by omega)]; rfl
  · rw [Int.fdiv_eq_ediv_of_nonneg _ (by omega)]; rfl
theorem getD_shade {h i : Nat} {k : Int} (hh : h = 2 ∨ h = 3) (hk : (h : Int) ^ Int.toNat 2 = k) {p : Nat} (hp : p < 4) : [0, (i : Int).fmod h, ((i : Int).fdiv h).fmod h, (i : Int).fdiv k].getD (p : Int).toNat 0 = (shade h i p : Int) := by
  rw [← pick_shade hh hk, Int.toNat_natCast]
  match p, hp with
  | 0, _ => rfl
  | 1, _ => rfl
  | 2, _ => rfl
  | 3, _ => rfl
theorem newsAt {h₀ h : Heap} {L a : Addr} {o : Obj} {news : List (Addr × Obj)} (N : News h₀ L h news) (hm : (a, o) ∈ news) : h.get? a = some o := (N _ hm).1
def intVals (ps : List (Int × Tok)) : List Value := ps.map fun p => .int p.1 p.2
theorem intVals_snoc (ps : List (Int × Tok)) (n : Int) (t : Tok) : intVals ps ++ [.int n t] = intVals (ps ++ [(n, t)]) := by
  unfold intVals; simp
theorem ints_vals {vs : List Value} {ns : List Int} (h : IntsAre vs ns) : ∃ ps, vs = intVals ps ∧ ps.map (·.1) = ns := by
  induction h with
  | nil => exact ⟨[], rfl, rfl⟩
  | cons n t _ ih =>
    obtain ⟨ps, rfl, rfl⟩ := ih
    exact ⟨(n, t) :: ps, rfl, rfl⟩
section
variable {prog : Program} {w : World} {A : Around} {E : Value → Shared → Prop} {s : Shared} {K : Type} [DecidableEq K] {knd : KeyKind prog w K}
theorem sum_rule {l : Addr} {ps : List (Int × Tok)} {Q : Value → Shared → Prop} (hh : A.handled = none) (hl : s.heap.IsList l (intVals ps).toArray)
    (h : ∀ h' tk t', s.heap.StaysIn h' → Q (.int (ps.map (·.1)).sum t') { s with heap := h', toks := tk }) : wpAny (model prog w) A (call (.builtin "sum") [.ref l]) Q E s := by
  have e : (intVals ps).toArray = intItems ps.toArray := by unfold intVals intItems; simp
  rw [e] at hl
  refine sum_intListG hh hl fun h' tk t' hk => ?_
  have := h h' tk t' hk
  rw [preSum_eq, List.take_of_length_le (by simp)]
  simpa using this
theorem valueAt_get {kvs : List (K × Value)} {i : Nat} {k : K} {v : Value} (hn : (kvs.map (·.1)).Nodup) (h : kvs[i]? = some (k, v)) : valueAt kvs k = some v := by
  unfold valueAt
  induction kvs generalizing i with
  | nil => simp at h
  | cons p r ih =>
    have hn' := List.nodup_cons.mp hn
    cases i with
    | zero =>
      simp only [List.getElem?_cons_zero, Option.some.injEq] at h
      subst h
      simp
    | succ j =>
      simp only [List.getElem?_cons_succ] at h
      have hne : ¬ p.1 = k := by
        rintro rfl
        exact hn'.1 (List.mem_map.mpr ⟨_, List.mem_of_getElem? h, rfl⟩)
      rw [List.find?_cons_of_neg (by simpa using hne)]
      exact ih hn'.2 h
theorem item_dict {d : Addr} {kvs : List (K × Value)} {k : K} {key v : Value} {value slice : PySem.Expr} {Q : Value → Shared → Prop} (hD : s.heap.DictOf knd d kvs) (hkey : knd.is k key = true) (hl : valueAt kvs k = some v) (h : Q v { s with toks := s.toks + 1 })
    (hs : subscripted slice false (.ref d) key = operate [.ref d, key] (getItem (.ref d) key) := by with_unfolding_all rfl) :
    wpAny (model prog w) A (subscriptTail value slice (.ref d) key) Q E s :=
  tail_any hD.typeIs slot_dict_getitem.lookup (wpAny_getItem_of hkey hD.mapOf hl h) hs
end
theorem pow_bd {h : Nat} {k : Int} (hh : h = 2 ∨ h = 3) (h1 : 1 ≤ k) (h4 : k ≤ 4) : Bd ((h : Int) ^ k.toNat) := by
  have hk : k = 1 ∨ k = 2 ∨ k = 3 ∨ k = 4 := by omega
  unfold Bd
  rcases hk with rfl | rfl | rfl | rfl <;> rcases hh with rfl | rfl <;> decide
end
section
open Rx
/-- the names in the loop over the hues -/
@[simp] def hnN (eL : Addr) (mr : Str → Option Value) (u1 u2 u3 u4 u5 u6 u7 : Option Value) (y : Str) : Option Value := if y = Str.ofString "more" then u1 else if y = Str.ofString "q" then u2 else if y = Str.ofString "p" then u3 else if y = Str.ofString "product" then u4 else if y = Str.ofString "shades" then u5 else if y = Str.ofString "code" then u6 else if y = Str.ofString "due" then u7 else if y = Str.ofString "ends" then some (.ref eL) else mr y
abbrev hnL : List Str := [Str.ofString "more", Str.ofString "q", Str.ofString "p", Str.ofString "product", Str.ofString "shades", Str.ofString "code", Str.ofString "due", Str.ofString "ends"]
set_option maxRecDepth 100000 in
set_option maxHeartbeats 2000000 in
theorem law_C {w : World} {A : Around} {Q : Flow → Shared → Prop} {s : Shared} {mean : ExcName → Option Value} {mg mb : Str → Option Value} {hG : Heap}
  {name qual : Str} {params : Arguments} {body : List Stmt} {scope : Scope} {dV kV doc pm cdv cdv' ct oc : Value} {an od : Option Addr} {osl : Array (Option Value)} {f : Addr} {g : Heap} {L : Addr} {mr : Str → Option Value} {eL d : Addr}
  {eas : List Addr} {es : List End} {cs : List (Int × Int)} {ne : Nat} {prs : List (Addr × Obj)} {co co3 : Obj} {v3 : Option Value}
  (ho : (hd.heap_39 w.params).lookup 247 = some ⟨oc, od, .func (fnOf name qual params body scope dV kV doc pm an cdv ct), osl⟩)
  (G : Ok w mean mg mb hG g) (R : Room A 40)
  (F : Fr g L s.heap fun y => if y = Str.ofString "ends" then some (.ref eL) else mr y)
  (N : News g L s.heap ((L + 1 + 1 + 1, co3) :: (eL, lstObj (eas.map .ref) ne) :: (L + 1 + 1, co) :: prs)) (hprs : ∀ p ∈ prs, p.1 ≠ L + 1 + 1 + 1) (hco3 : co3.data = .cell v3) (hco : co.data = .cell (some (.ref d))) (lo : (d == sysModules) = false)
  (KP : ∀ h', g.StaysIn h' → News g L h' prs → EndsAt h' eas es ∧ CntAt Challenge.rw_qj0003_01.row.prog w h' d cs)
  (hb : ∀ i, Bd (prodE (es.take i))) (hb2 : ∀ e ∈ es, Bd e.2) (hes : ∀ e ∈ es, e.1.1 < 4 ∧ e.1.2 < 4)
  (hbS : ∀ f i, Bd (prodS f (es.take i))) (hbD : ∀ (h n : Nat), n ≤ 27 → Bd (dueF h es n))
  (hcs : ∀ c ∈ cs, 1 ≤ c.1 ∧ c.1 ≤ 4 ∧ Bd c.2) (hcl : cs.length ≤ 100)
  (hC : ∀ h : Nat, h = 2 ∨ h = 3 → (h : Int) * dueF h es (h ^ 3) = telF h cs)
  (h : ∀ h' tk, g.StaysIn h' → Q (.ret (.bool (sumC cs == prodE es))) { s with heap := h', toks := tk }) :
  wpAny (model Challenge.rw_qj0003_01.row.prog w) A (execs (body.drop 6) (envOfC qual scope L f cdv')) Q (fun _ _ => False) s := by
  refine' concrete ?h ho ?_
  case h => k_is
  intro e
  unfold fnOf at e
  cases e
  simp only [List.drop_succ_cons, List.drop_zero]
  have X := G.here
  have T := G.top
  have hA := R.handled
  (repeat' ((fail_if_success (with_reducible show wpAny _ _ (exec (Stmt.For _ _ _ _ _) _) _ _ _)); (fail_if_success (with_reducible show wpAny _ _ (eval (Expr.ListComp _ _ _ _) _) _ _ _)); (fail_if_success (with_reducible show wpAny _ _ (eval (Expr.DictComp _ _ _ _ _) _) _ _ _)); (fail_if_success (with_reducible show wpAny _ _ (pyIter _) _ _ _)); (fail_if_success (with_reducible show wpAny _ _ (exec (Stmt.While _ _ _ _) _) _ _ _)); (first | (k_unfold; (try dsimp only)) | walk1 | (dsimp only; walk1))))
  refine wpAny_For ?_
  (repeat' ((fail_if_success (with_reducible show wpAny _ _ (exec (Stmt.For _ _ _ _ _) _) _ _ _)); (fail_if_success (with_reducible show wpAny _ _ (eval (Expr.ListComp _ _ _ _) _) _ _ _)); (fail_if_success (with_reducible show wpAny _ _ (eval (Expr.DictComp _ _ _ _ _) _) _ _ _)); (fail_if_success (with_reducible show wpAny _ _ (pyIter _) _ _ _)); (fail_if_success (with_reducible show wpAny _ _ (exec (Stmt.While _ _ _ _) _) _ _ _)); (first | (k_unfold; (try dsimp only)) | walk1 | (dsimp only; walk1))))
  rename Fr g L _ _ => F2
  rename_i T2 hz2 N2 lt2
  have N2' : News g L hz2 ((T2, tupObj [.int 2 s.toks, .int 3 (s.toks + 1)] 0) :: (eL, lstObj (eas.map .ref) ne) :: (L + 1 + 1, co) :: prs) := by
    intro p hp
    rcases List.mem_cons.mp hp with rfl | hp
    · exact N2 _ (.head _)
    · exact N2 _ (.tail _ (.tail _ hp))
  have hc3 := N2 _ (.tail _ (.head _))
  refine loop_tup (items := [.int 2 s.toks, .int 3 (s.toks + 1)]) (nT := 0) (L := L) rfl (fun i m h => ∃ u1 u2 u3 u4 u5 u6 u7 cz vz, m = hnN eL mr u1 u2 u3 u4 u5 u6 u7 ∧ (h.get? (L + 1 + 1 + 1) = some cz ∧ L + 1 + 1 + 1 ≠ L ∧ g.get? (L + 1 + 1 + 1) = none) ∧ cz.data = .cell vz) hA (.head _) F2 N2' ?jf ?j0 ?turn ?done
  case jf =>
    rintro I i m h h' io ⟨u1, u2, u3, u4, u5, u6, u7, cz, vz, e, ⟨h1, h2, h3⟩, hd⟩ hI ⟨fs, hf⟩ st
    refine ⟨u1, u2, u3, u4, u5, u6, u7, cz, vz, e, ⟨st _ _ (fun q => ?_) h1, h2, h3⟩, hd⟩
    rw [← q, h1] at hI
    cases hI
    rw [hd] at hf; cases hf
  case j0 => exact fun h st => ⟨_, _, _, _, _, _, _, co3, v3, names_ext hnL (by (((repeat (refine And.intro rfl ?_)); exact trivial))) (by ((intro y hy; (simp only [List.contains_cons, List.contains_nil, Bool.or_false, Bool.or_eq_false_iff, beq_eq_false_iff_ne, ne_eq] at hy); simp [hy, lookup_ne, lookup_no]))), ⟨st _ _ hc3.1, hc3.2⟩, hco3⟩
  case turn =>
    rintro I i v m₁ hh tk io hv ⟨u1, u2, u3, u4, u5, u6, u7, cz, vz, rfl, hcz, hczd⟩ ⟨fs, hio⟩ F3 N3
    obtain ⟨hn, tkv, rfl, hh2⟩ : ∃ (hn : Nat) (tok : Tok), v = .int hn tok ∧ (hn = 2 ∨ hn = 3) := by
      match i, hv with
      | 0, hv => exact ⟨2, _, (Option.some.inj hv).symm, .inl rfl⟩
      | 1, hv => exact ⟨3, _, (Option.some.inj hv).symm, .inr rfl⟩
    have N4 := News.cons N3 hcz.1 hcz.2.1 hcz.2.2
    clear F2 N2 N2' N3
    unfold hnN at F3
    (repeat' ((fail_if_success (with_reducible show wpAny _ _ (exec (Stmt.For _ _ _ _ _) _) _ _ _)); (fail_if_success (with_reducible show wpAny _ _ (eval (Expr.ListComp _ _ _ _) _) _ _ _)); (fail_if_success (with_reducible show wpAny _ _ (eval (Expr.DictComp _ _ _ _ _) _) _ _ _)); (fail_if_success (with_reducible show wpAny _ _ (pyIter _) _ _ _)); (fail_if_success (with_reducible show wpAny _ _ (exec (Stmt.While _ _ _ _) _) _ _ _)); (first | (k_unfold; (try dsimp only)) | walk1 | (dsimp only; walk1))))
    have hne3 : ∀ p ∈ (I, io) :: (T2, tupObj [.int 2 s.toks, .int 3 (s.toks + 1)] 0) :: (eL, lstObj (eas.map .ref) ne) :: (L + 1 + 1, co) :: prs, p.1 ≠ L + 1 + 1 + 1 := by
      intro p hp q
      have e := (N4 p (.tail _ hp)).1
      rw [q, hcz.1] at e
      have e := Option.some.inj e
      simp only [List.mem_cons] at hp
      rcases hp with rfl | rfl | rfl | rfl | hp
      · dsimp only at e; rw [← e, hczd] at hio; cases hio
      · rw [e] at hczd; cases hczd
      · rw [e] at hczd; cases hczd
      · exact absurd q (by dsimp only; exact Nat.ne_of_lt (Nat.lt_succ_self _))
      · exact hprs p hp q
    refine storeX_C F3 N4 rfl (UpdF.head hne3) hczd ?_ rfl rfl
    intro h5 o5 F5 N5 hd5
    clear F3 N4
    (repeat' ((fail_if_success (with_reducible show wpAny _ _ (exec (Stmt.For _ _ _ _ _) _) _ _ _)); (fail_if_success (with_reducible show wpAny _ _ (eval (Expr.ListComp _ _ _ _) _) _ _ _)); (fail_if_success (with_reducible show wpAny _ _ (eval (Expr.DictComp _ _ _ _ _) _) _ _ _)); (fail_if_success (with_reducible show wpAny _ _ (pyIter _) _ _ _)); (fail_if_success (with_reducible show wpAny _ _ (exec (Stmt.While _ _ _ _) _) _ _ _)); (first | (k_unfold; (try dsimp only)) | walk1 | (dsimp only; walk1))))
    refine wpAny_For ?_
    (repeat' ((fail_if_success (with_reducible show wpAny _ _ (exec (Stmt.For _ _ _ _ _) _) _ _ _)); (fail_if_success (with_reducible show wpAny _ _ (eval (Expr.ListComp _ _ _ _) _) _ _ _)); (fail_if_success (with_reducible show wpAny _ _ (eval (Expr.DictComp _ _ _ _ _) _) _ _ _)); (fail_if_success (with_reducible show wpAny _ _ (pyIter _) _ _ _)); (fail_if_success (with_reducible show wpAny _ _ (exec (Stmt.While _ _ _ _) _) _ _ _)); (first | (k_unfold; (try dsimp only)) | walk1 | (dsimp only; walk1))))
    rename_i h5b F5 N5 h6 tk6 tr ur vr hr6 F6 N6 st6
    clear F5 N5 st6
    have hpow : (hn : Int) ^ Int.toNat 3 = ((hn ^ 3 : Nat) : Int) := by rw [Int.natCast_pow]; rfl
    rw [hpow] at hr6
    have hle27 : hn ^ 3 ≤ 27 := by rcases hh2 with rfl | rfl <;> decide
    refine loop_range (L := L) (n := hn ^ 3) rfl (fun i m _ => ∃ u1 u2 u3 u4 u5 u6 td, m = hnN eL mr u1 u2 u3 u4 u5 u6 (some (.int (dueF hn es i) td))) hA hr6 (Nat.le_trans hle27 (by decide)) F6 N6 (fun _ _ _ _ _ _ j _ _ _ => j) ?k0 ?kturn ?kdone
    case k0 => exact fun _ _ => ⟨_, _, _, _, _, _, _, names_ext hnL (by (((repeat (refine And.intro rfl ?_)); exact trivial))) (by ((intro y hy; (simp only [List.contains_cons, List.contains_nil, Bool.or_false, Bool.or_eq_false_iff, beq_eq_false_iff_ne, ne_eq] at hy); simp [hy, lookup_ne, lookup_no])))⟩
    case kturn =>
      clear F6 N6 hr6
      clear u1 u2 u3 u4 u5 u6 u7
      rintro I7 i7 t7 m₁ h7 tk7 io7 hi7 ⟨u1, u2, u3, u4, u5, u6, td, rfl⟩ hf7 F7 N7
      unfold hnN at F7
      (repeat' ((fail_if_success (with_reducible show wpAny _ _ (exec (Stmt.For _ _ _ _ _) _) _ _ _)); (fail_if_success (with_reducible show wpAny _ _ (eval (Expr.ListComp _ _ _ _) _) _ _ _)); (fail_if_success (with_reducible show wpAny _ _ (eval (Expr.DictComp _ _ _ _ _) _) _ _ _)); (fail_if_success (with_reducible show wpAny _ _ (pyIter _) _ _ _)); (fail_if_success (with_reducible show wpAny _ _ (exec (Stmt.While _ _ _ _) _) _ _ _)); (first | (k_unfold; (try dsimp only)) | walk1 | (dsimp only; walk1))))
      have hk9 : (hn : Int) ^ Int.toNat 2 = 4 ∨ (hn : Int) ^ Int.toNat 2 = 9 := by rcases hh2 with rfl | rfl <;> simp
      generalize hk0 : (hn : Int) ^ Int.toNat 2 = k9 at hk9
      (repeat' ((fail_if_success (with_reducible show wpAny _ _ (exec (Stmt.For _ _ _ _ _) _) _ _ _)); (fail_if_success (with_reducible show wpAny _ _ (eval (Expr.ListComp _ _ _ _) _) _ _ _)); (fail_if_success (with_reducible show wpAny _ _ (eval (Expr.DictComp _ _ _ _ _) _) _ _ _)); (fail_if_success (with_reducible show wpAny _ _ (pyIter _) _ _ _)); (fail_if_success (with_reducible show wpAny _ _ (exec (Stmt.While _ _ _ _) _) _ _ _)); (first | (k_unfold; (try dsimp only)) | walk1 | (dsimp only; walk1))))
      refine wpAny_For ?_
      (repeat' ((fail_if_success (with_reducible show wpAny _ _ (exec (Stmt.For _ _ _ _ _) _) _ _ _)); (fail_if_success (with_reducible show wpAny _ _ (eval (Expr.ListComp _ _ _ _) _) _ _ _)); (fail_if_success (with_reducible show wpAny _ _ (eval (Expr.DictComp _ _ _ _ _) _) _ _ _)); (fail_if_success (with_reducible show wpAny _ _ (pyIter _) _ _ _)); (fail_if_success (with_reducible show wpAny _ _ (exec (Stmt.While _ _ _ _) _) _ _ _)); (first | (k_unfold; (try dsimp only)) | walk1 | (dsimp only; walk1))))
      rename Fr g L _ _ => F8
      rename_i l8 _ lt8 _ h8 N8
      have KE8 := KP _ F8.keep (fun p hp => N8 p (.tail _ (.tail _ (.tail _ (.tail _ (.tail _ (.tail _ (.tail _ hp))))))))
      have hlen8 := KE8.1.length
      have hel8 := (N8 _ (.tail _ (.tail _ (.tail _ (.tail _ (.tail _ (.head _))))))).1
      refine loop_list (items := eas.map .ref) (L := L) rfl (fun i m _ => ∃ u1 u2 u3 tp, m = hnN eL mr u1 u2 u3 (some (.int (prodS (shade hn i7) (es.take i)) tp)) (some (.ref l8)) (some (.int i7 t7)) (some (.int (dueF hn es i7) td))) hA ⟨_, hel8, rfl, _, rfl⟩ (.inr ⟨_, .tail _ (.tail _ (.tail _ (.tail _ (.tail _ (.head _)))))⟩) F8 N8 (fun _ _ _ _ _ _ j _ _ _ => j) ?l0 ?lturn ?ldone PassesOwn.never
      case l0 => exact fun _ _ => ⟨_, _, _, _, names_ext hnL (by (((repeat (refine And.intro rfl ?_)); exact trivial))) (by ((intro y hy; (simp only [List.contains_cons, List.contains_nil, Bool.or_false, Bool.or_eq_false_iff, beq_eq_false_iff_ne, ne_eq] at hy); simp [hy, lookup_ne, lookup_no])))⟩
      case lturn =>
        clear F8 N8 u1 u2 u3 u4 u5 u6
        rintro I9 i9 v9 m₁ h9 tk9 io9 hv9 ⟨u1, u2, u3, tp, rfl⟩ hio9 F9 N9
        unfold hnN at F9
        rw [List.getElem?_map] at hv9
        obtain ⟨a, ha, rfl⟩ := Option.map_eq_some_iff.mp hv9
        obtain ⟨KE9, _⟩ := KP _ F9.keep (fun p hp => N9 p (.tail _ (.tail _ (.tail _ (.tail _ (.tail _ (.tail _ (.tail _ (.tail _ hp)))))))))
        obtain ⟨e, he, t1, t2, t3, n, hpa⟩ := KE9.get i9 ha
        have hia : IsTup h9 a #[.int e.1.1 t1, .int e.1.2 t2, .int e.2 t3] := ⟨_, hpa, rfl, _, rfl⟩
        have hb3 := hb2 e (List.mem_of_getElem? he)
        have hp1 := (hes e (List.mem_of_getElem? he)).1
        have hp2 := (hes e (List.mem_of_getElem? he)).2
        (repeat' ((fail_if_success (with_reducible show wpAny _ _ (exec (Stmt.For _ _ _ _ _) _) _ _ _)); (fail_if_success (with_reducible show wpAny _ _ (eval (Expr.ListComp _ _ _ _) _) _ _ _)); (fail_if_success (with_reducible show wpAny _ _ (eval (Expr.DictComp _ _ _ _ _) _) _ _ _)); (fail_if_success (with_reducible show wpAny _ _ (pyIter _) _ _ _)); (fail_if_success (with_reducible show wpAny _ _ (exec (Stmt.While _ _ _ _) _) _ _ _)); (first | (k_unfold; (try dsimp only)) | walk1 | (dsimp only; walk1))))
        · rename List.getD _ _ _ = List.getD _ _ _ => hq
          rw [getD_shade hh2 hk0 hp1, getD_shade hh2 hk0 hp2] at hq
          have hq := Int.ofNat.inj hq
          refine imul_int ?_ ?_
          rotate_left
          · exact Bd.mulOk (hbS _ i9) hb3
          (repeat' ((fail_if_success (with_reducible show wpAny _ _ (exec (Stmt.For _ _ _ _ _) _) _ _ _)); (fail_if_success (with_reducible show wpAny _ _ (eval (Expr.ListComp _ _ _ _) _) _ _ _)); (fail_if_success (with_reducible show wpAny _ _ (eval (Expr.DictComp _ _ _ _ _) _) _ _ _)); (fail_if_success (with_reducible show wpAny _ _ (pyIter _) _ _ _)); (fail_if_success (with_reducible show wpAny _ _ (exec (Stmt.While _ _ _ _) _) _ _ _)); (first | (k_unfold; (try dsimp only)) | walk1 | (dsimp only; walk1))))
          rename Fr g L _ _ => F10
          rename News g L _ _ => N10
          exact ⟨_, _, _, rfl, F10, N10, _, _, _, _, by rw [prodS_step he, if_pos hq]; exact names_ext hnL (by (((repeat (refine And.intro rfl ?_)); exact trivial))) (by ((intro y hy; (simp only [List.contains_cons, List.contains_nil, Bool.or_false, Bool.or_eq_false_iff, beq_eq_false_iff_ne, ne_eq] at hy); simp [hy, lookup_ne, lookup_no])))⟩
        · rename List.getD _ _ _ ≠ List.getD _ _ _ => hq
          rw [getD_shade hh2 hk0 hp1, getD_shade hh2 hk0 hp2] at hq
          have hq : ¬ shade hn i7 e.1.1 = shade hn i7 e.1.2 := fun q => hq (congrArg _ q)
          rename Fr g L _ _ => F10
          rename News g L _ _ => N10
          exact ⟨_, _, _, rfl, F10, N10, _, _, _, _, by rw [prodS_step he, if_neg hq]; exact names_ext hnL (by (((repeat (refine And.intro rfl ?_)); exact trivial))) (by ((intro y hy; (simp only [List.contains_cons, List.contains_nil, Bool.or_false, Bool.or_eq_false_iff, beq_eq_false_iff_ne, ne_eq] at hy); simp [hy, lookup_ne, lookup_no])))⟩
      case ldone =>
        clear F8 N8 u1 u2 u3 u4 u5 u6
        rintro m₁ h9 tk9 ⟨u1, u2, u3, tp, rfl⟩ F9 N9
        rw [List.take_of_length_le (by rw [List.length_map, hlen8]; exact Nat.le_refl _)] at F9
        unfold hnN at F9
        show wpAny _ _ _ _ _ _
        (repeat' ((fail_if_success (with_reducible show wpAny _ _ (exec (Stmt.For _ _ _ _ _) _) _ _ _)); (fail_if_success (with_reducible show wpAny _ _ (eval (Expr.ListComp _ _ _ _) _) _ _ _)); (fail_if_success (with_reducible show wpAny _ _ (eval (Expr.DictComp _ _ _ _ _) _) _ _ _)); (fail_if_success (with_reducible show wpAny _ _ (pyIter _) _ _ _)); (fail_if_success (with_reducible show wpAny _ _ (exec (Stmt.While _ _ _ _) _) _ _ _)); (first | (k_unfold; (try dsimp only)) | walk1 | (dsimp only; walk1))))
        rename Fr g L _ _ => F10
        rename News g L _ _ => N10
        exact ⟨_, _, _, rfl, F10, News.sub N10 (fun p hp => .tail _ hp), _, _, _, _, _, _, _, by rw [dueF_step]; exact names_ext hnL (by (((repeat (refine And.intro rfl ?_)); exact trivial))) (by ((intro y hy; (simp only [List.contains_cons, List.contains_nil, Bool.or_false, Bool.or_eq_false_iff, beq_eq_false_iff_ne, ne_eq] at hy); simp [hy, lookup_ne, lookup_no])))⟩
    case kdone =>
      clear F6 N6 hr6
      clear u1 u2 u3 u4 u5 u6 u7
      rintro m₁ h8 tk8 ⟨u1, u2, u3, u4, u5, u6, td, rfl⟩ F8 N8
      unfold hnN at F8
      show wpAny _ _ _ _ _ _
      (repeat' ((fail_if_success (with_reducible show wpAny _ _ (exec (Stmt.For _ _ _ _ _) _) _ _ _)); (fail_if_success (with_reducible show wpAny _ _ (eval (Expr.ListComp _ _ _ _) _) _ _ _)); (fail_if_success (with_reducible show wpAny _ _ (eval (Expr.DictComp _ _ _ _ _) _) _ _ _)); (fail_if_success (with_reducible show wpAny _ _ (pyIter _) _ _ _)); (fail_if_success (with_reducible show wpAny _ _ (exec (Stmt.While _ _ _ _) _) _ _ _)); (first | (k_unfold; (try dsimp only)) | walk1 | (dsimp only; walk1))))
      refine comp_eval (cl := [(Str.ofString "tally", L + 1 + 1), (Str.ofString "hues", L + 1 + 1 + 1)]) rfl (by decide) rfl (by decide) ?_
      (repeat' ((fail_if_success (with_reducible show wpAny _ _ (exec (Stmt.For _ _ _ _ _) _) _ _ _)); (fail_if_success (with_reducible show wpAny _ _ (eval (Expr.ListComp _ _ _ _) _) _ _ _)); (fail_if_success (with_reducible show wpAny _ _ (eval (Expr.DictComp _ _ _ _ _) _) _ _ _)); (fail_if_success (with_reducible show wpAny _ _ (pyIter _) _ _ _)); (fail_if_success (with_reducible show wpAny _ _ (exec (Stmt.While _ _ _ _) _) _ _ _)); (first | (k_unfold; (try dsimp only)) | walk1 | (dsimp only; walk1))))
      rename Fr g L _ _ => F11
      rename News g L _ _ => N11
      have ecl3 := (N11 _ (.head _)).1
      have ecl2 := (N11 _ (.tail _ (.tail _ (.tail _ (.tail _ (.head _)))))).1
      dsimp only at ecl2 ecl3
      obtain ⟨kvs, D, C⟩ := (KP _ F11.keep (fun p hp => N11 p (.tail _ (.tail _ (.tail _ (.tail _ (.tail _ hp))))))).2
      have hnd : (kvs.map (·.1)).Nodup := let ⟨_, _, _, _, _, _, _, _, hn⟩ := D; hn
      obtain ⟨ep, D'⟩ := D.dictAt
      have X11 := X.keeps F11.keep
      have T11 := T.keeps F11.keep
      refine comp_keys (knd := intKind _ _) hA lo D' ?csz (fun i ys _ => ∃ ps, ys = intVals ps ∧ ps.map (·.1) = (cs.take i).map fun kc => kc.2 * (hn : Int) ^ kc.1.toNat) ?cf ?cl ?c0 ?cturn ?cfin
      case csz => rw [C.length, sizeLine_eq]; omega
      case cf => exact fun _ _ _ _ _ j _ _ => j
      case cl =>
        rintro i ys _ ⟨ps, rfl, hl⟩
        have := congrArg List.length hl
        rw [List.length_map, List.length_map, List.length_take] at this
        simp only [intVals, List.length_map]
        omega
      case c0 => exact fun hh st => ⟨[], rfl, by simp⟩
      case cturn =>
        intro C' D12 I12 io12 i k vv key m₂ ys hh tk hx hkey hJ hDI F12 N12
        dsimp only at F12 N12
        obtain ⟨c, t2, rfl, hc⟩ := C.get i hx
        obtain ⟨tk2, rfl⟩ := intKey hkey
        have hk3 := hcs _ (List.mem_of_getElem? hc)
        obtain ⟨hk1, hk2, hkb⟩ := hk3
        dsimp only at hk1 hk2 hkb
        obtain ⟨ps, rfl, hps⟩ := hJ
        clear F11 N11
        (repeat' ((fail_if_success (with_reducible show wpAny _ _ (exec (Stmt.For _ _ _ _ _) _) _ _ _)); (fail_if_success (with_reducible show wpAny _ _ (eval (Expr.ListComp _ _ _ _) _) _ _ _)); (fail_if_success (with_reducible show wpAny _ _ (eval (Expr.DictComp _ _ _ _ _) _) _ _ _)); (fail_if_success (with_reducible show wpAny _ _ (pyIter _) _ _ _)); (fail_if_success (with_reducible show wpAny _ _ (exec (Stmt.While _ _ _ _) _) _ _ _)); (first | (k_unfold; (try dsimp only)) | walk1 | (dsimp only; walk1))))
        refine item_dict (knd := intKind _ _) (D'.keep (Fr.keep (by k_asm))).dictOf (intKind_is _ _ _ _) (valueAt_get hnd hx) ?_
        (repeat' ((fail_if_success (with_reducible show wpAny _ _ (exec (Stmt.For _ _ _ _ _) _) _ _ _)); (fail_if_success (with_reducible show wpAny _ _ (eval (Expr.ListComp _ _ _ _) _) _ _ _)); (fail_if_success (with_reducible show wpAny _ _ (eval (Expr.DictComp _ _ _ _ _) _) _ _ _)); (fail_if_success (with_reducible show wpAny _ _ (pyIter _) _ _ _)); (fail_if_success (with_reducible show wpAny _ _ (exec (Stmt.While _ _ _ _) _) _ _ _)); (first | (k_unfold; (try dsimp only)) | walk1 | (dsimp only; walk1))))
        refine PyProof.Rows.mul_int ?_ ?_
        rotate_left
        · exact Bd.mulOk hkb (pow_bd hh2 hk1 hk2)
        rename Fr _ C' _ _ => F13
        rename News _ C' _ _ => N13
        refine ⟨_, _, _, rfl, F13, N13, ps ++ [(c * (hn : Int) ^ k.toNat, _)], intVals_snoc _ _ _, ?_⟩
        rw [List.take_add_one, hc, List.map_append, List.map_append, hps]
        rfl
      case cfin =>
        rintro h2 D12 hh tk ys ⟨ps, rfl, hps⟩ st hD hD0
        dsimp only at st hD0 ⊢
        have F12 := Fr.on F11 st
        have N12 := News.on N11 st
        clear F11 N11
        (repeat' ((fail_if_success (with_reducible show wpAny _ _ (exec (Stmt.For _ _ _ _ _) _) _ _ _)); (fail_if_success (with_reducible show wpAny _ _ (eval (Expr.ListComp _ _ _ _) _) _ _ _)); (fail_if_success (with_reducible show wpAny _ _ (eval (Expr.DictComp _ _ _ _ _) _) _ _ _)); (fail_if_success (with_reducible show wpAny _ _ (pyIter _) _ _ _)); (fail_if_success (with_reducible show wpAny _ _ (exec (Stmt.While _ _ _ _) _) _ _ _)); (first | (k_unfold; (try dsimp only)) | walk1 | (dsimp only; walk1))))
        refine sum_rule hA ⟨_, hD, rfl, _, rfl⟩ ?_
        intro h13 tk13 t13 st13
        have F13 := Fr.on F12 st13
        have N13 := News.on N12 st13
        clear F12 N12
        rw [hps, List.take_of_length_le (by rw [C.length]; exact Nat.le_refl _), show (List.map (fun kc : Int × Int => kc.2 * (hn : Int) ^ kc.1.toNat) cs).sum = telF hn cs from rfl]
        have hCe := hC hn hh2
        show wpAny _ _ _ _ _ _
        (repeat' ((fail_if_success (with_reducible show wpAny _ _ (exec (Stmt.For _ _ _ _ _) _) _ _ _)); (fail_if_success (with_reducible show wpAny _ _ (eval (Expr.ListComp _ _ _ _) _) _ _ _)); (fail_if_success (with_reducible show wpAny _ _ (eval (Expr.DictComp _ _ _ _ _) _) _ _ _)); (fail_if_success (with_reducible show wpAny _ _ (pyIter _) _ _ _)); (fail_if_success (with_reducible show wpAny _ _ (exec (Stmt.While _ _ _ _) _) _ _ _)); (first | (k_unfold; (try dsimp only)) | walk1 | (dsimp only; walk1))))
        · exact absurd hCe (by assumption)
        · exact ⟨_, _, _, rfl, F13, News.sub N13 (fun p hp => .tail _ hp), _, _, _, _, _, _, _, o5, _, names_ext hnL (by (((repeat (refine And.intro rfl ?_)); exact trivial))) (by ((intro y hy; (simp only [List.contains_cons, List.contains_nil, Bool.or_false, Bool.or_eq_false_iff, beq_eq_false_iff_ne, ne_eq] at hy); simp [hy, lookup_ne, lookup_no]))), N13 _ (.head _), hd5⟩
  case done =>
    rintro m₁ hh tk ⟨u1, u2, u3, u4, u5, u6, u7, cz, vz, rfl, hcz, hczd⟩ F3 N3
    show wpAny _ _ _ _ _ _
    refine law_D ho G R (mr := hnN eL mr u1 u2 u3 u4 u5 u6 u7) ?_ (News.sub N3 (fun p hp => .tail _ hp)) hco lo KP hb hb2 h
    have : hnN eL mr u1 u2 u3 u4 u5 u6 u7 = fun y => if y = Str.ofString "ends" then some (.ref eL) else hnN eL mr u1 u2 u3 u4 u5 u6 u7 y := by
      funext y
      by_cases q : y = Str.ofString "ends"
      · rw [if_pos q, q]; rfl
      · rw [if_neg q]
    rw [← this]
    exact F3
end
section
set_option maxRecDepth 100000
section
variable {prog : Program} {w : World} {A : Around} {E : Value → Shared → Prop} {env : Env}
/-- what stands behind x = [..] -/
def CFin (env : Env) (y : Str) (Q : Flow → Shared → Prop) (n : Nat) (J : Nat → List Value → Heap → Prop) (hb : Heap) (s₂ : Shared) : Prop :=
  ∃ m, hb.Ns env.locals m ∧ (∀ ys h h', J n ys h → NotTup h env.locals → StaysBut [env.locals] h h' → J n ys h') ∧
    ∀ D h tk ys, J n ys h → StaysBut [env.locals] hb h → h.Ns env.locals (fun z => if z = y then some (.ref D) else m z) → h.get? D = some (lst ys) → hb.get? D = none → D ≠ env.locals → Q .next { s₂ with heap := h, toks := tk }
/-- x = [..] -/
theorem comp_assign {s : Shared} {elt target iter : Expr} {ifs : List Expr} {scope : Scope} {cl : List (Str × Addr)} {pos spos : Pos} {y : Str} {py : Pos} {Q : Flow → Shared → Prop}
    (hsw : swapsWith (.ListComp elt [⟨target, iter, ifs, 0⟩] scope pos) (some (.Name y py)) spos.line env = pure true)
    (hclos : closureFor scope env = pure cl) (hcell : ∀ y ∈ scope.names, y.2 ≠ .cell) (hkind : scope.kind = .function)
    (hnames : ∀ y ∈ scope.names, y.2 = .local → scope.names.lookup y.1 = some .local)
    (hy : env.kindOf y = some .local) (hp : (env.scope.kind == .class || (env.scope.kind == .module && env.locals != env.globals)) = false)
    (h : wpAny (model prog w) A (eval iter env) (fun xv s₁ => wpAny (model prog w) A (pyIter xv) (CompAt prog w A env target elt ifs scope cl (CFin env y Q)) E s₁) E s)
    (hs : ∀ x, foldedSetIterable iter env x = pure x := by intro _; rfl) :
    wpAny (model prog w) A (exec (.Assign [.Name y py] (.ListComp elt [⟨target, iter, ifs, 0⟩] scope pos) spos) env) Q E s := by
  rw [exec_Assign_Name_used _ _ _ _ hsw]
  refine wpAny_bind (wpAny_standAt (wpAny_bind ?_))
  show wpAny _ A (do let _ ← comprehension (.ListComp elt [⟨target, iter, ifs, 0⟩] scope pos) scope env _ (newList []) false (eval iter env) (some (assign (.Name y py) env))) _ _ s
  refine wpAny_bind (wpAny_mono (wpAny_comprehension_free (use := some (assign (.Name y py) env)) (Q := fun _ s' => Q .next s') rfl hs hclos hkind hnames
    (wpAny_mono h (fun xv s₁ h₁ => wpAny_mono h₁ (fun it s₂ h₂ => ?_) fun _ _ e => e) fun _ _ e => e)) (fun _ s' hq => wpAny_pure (wpAny_pure hq)) fun _ _ e => e)
  obtain ⟨I, hb, n, P, St, wr, rfl, W, hsz, hst, hbs, hwb, hbsz, J, hJf, hJl, hj, turn, m, hn, hJL, hQ⟩ := h₂
  refine comp_block (RR := fun acc C => compPost (model prog w) A E (some (assign (.Name y py) env)) (fun _ s' => Q .next s') acc C) W hsz hcell hkind hst hbs hwb hbsz J hJf hJl hj turn ?_
  intro D C h tk m' ys hJ F hD hD0 hC0 hDC hDs hCs
  have hLb : ∃ o, hb.get? env.locals = some o := let ⟨o, _, _, e, _⟩ := hn; ⟨o, e⟩
  have hLC : env.locals ≠ C := by
    obtain ⟨o, e⟩ := hLb
    rintro q; rw [q, hC0] at e; cases e
  have hLD : env.locals ≠ D := by
    obtain ⟨o, e⟩ := hLb
    rintro q; rw [q, hD0] at e; cases e
  have hnh : h.Ns env.locals m := hn.at' fun o e => F.keep _ o e
  have hNT : NotTup h env.locals := by
    obtain ⟨o, es, ep, eo, ed, _⟩ := hnh
    exact notTup_of eo (.inr fun vs n => by rw [ed]; simp)
  show wpAny _ A (assign (.Name y py) env (.ref D)) _ _ _
  refine wpAny_assign_Name (wpAny_storeName_local hy hnh (fun h₂ hn₂ hs₂ => ?_) hp)
  have sb₂ : StaysBut [env.locals] h h₂ := fun b o nb e => hs₂.extBut b o (by simpa using nb) e
  have hC2 : h₂.Ns C m' := F.ns.sameBut hs₂ (Ne.symm hLC)
  refine ⟨m', hC2, fun h₃ hs₃ => ?_⟩
  have sb₃ : StaysBut [C] h₂ h₃ := fun b o nb e => hs₃.extBut b o (by simpa using nb) e
  have hJ₂ := hJL _ _ _ hJ hNT sb₂
  refine hQ D h₃ _ ys (hJf [C] _ _ _ _ hJ₂ (fun b hb' => ?_) sb₃) (fun b o nb e => ?_) (hn₂.sameBut hs₃ hLC) (sb₃ _ _ (by simpa using hDC) (sb₂ _ _ (by simpa using Ne.symm hLD) hD)) hD0 (Ne.symm hLD)
  · rcases List.mem_singleton.mp hb' with rfl
    obtain ⟨o, es, ep, eo, ed, _⟩ := hC2
    exact ⟨notTup_of eo (.inr fun vs n => by rw [ed]; simp), hC0⟩
  · have nbC : b ≠ C := fun q => by rw [q, hC0] at e; cases e
    exact sb₃ _ _ (by simpa using nbC) (sb₂ _ _ nb (F.keep _ _ e))
theorem fr_stored {h₀ hb h : Heap} {L : Addr} {m m' : Str → Option Value} (F : Fr h₀ L hb m) (sb : StaysBut [L] hb h) (hn : h.Ns L m') : Fr h₀ L h m' :=
  ⟨hn, fun b o e => sb b o (fun q => by
    rw [List.mem_singleton.mp q] at e
    exact absurd (Heap.lt_size e) (Nat.not_lt.mpr F.above)) (F.keep b o e), F.above⟩
theorem news_stored {h₀ hb h : Heap} {L : Addr} {news : List (Addr × Obj)} (N : News h₀ L hb news) (sb : StaysBut [L] hb h) : News h₀ L h news := News.onBut N (fun p hp q => (N p hp).2.1 (List.mem_singleton.mp q)) sb
end
end
section
set_option maxRecDepth 100000
def TieAt (h : Heap) (a : Addr) (n : Int) : Prop := ∃ t1 t2 np, h.get? a = some (tupObj [.str (tieNm n) t1, .bool (tieGr n), .int (tieV n) t2] np)
abbrev TiesAt (h : Heap) (as : List Addr) (ps : List Int) : Prop := Ats TieAt h as ps
theorem tieTup : TupP TieAt := fun _ _ _ ⟨t1, t2, n, e⟩ => ⟨_, n, e, fun _ e' => ⟨t1, t2, n, e'⟩⟩
theorem ties_news {h₀ h : Heap} {L : Addr} {m : Str → Option Value} (F : Fr h₀ L h m) {as : List Addr} {ps : List Int} (E : TiesAt h as ps) : ∃ prs, News h₀ L h prs ∧ (∀ p ∈ prs, ∃ vs n, p.2 = tupObj vs n) ∧ ∀ h', h₀.StaysIn h' → News h₀ L h' prs → TiesAt h' as ps := ats_news tieTup F E
/-- which tie -/
def tieK (n : Int) : Nat := (n.fmod 6).toNat
theorem tieK_lt (n : Int) : tieK n < 6 := by
  unfold tieK
  rw [Int.fmod_eq_emod_of_nonneg _ (by decide)]
  omega
def idx (k : Nat) : Nat × Nat := [(0, 1), (0, 2), (0, 3), (1, 2), (1, 3), (2, 3)].getD k (0, 1)
def endOf (n : Int) : End := (idx (tieK n), 1 + tieV n)
theorem tie_six (n : Int) : (tieNm n = Str.ofString "ab" ∧ idx (tieK n) = (0, 1)) ∨ (tieNm n = Str.ofString "ac" ∧ idx (tieK n) = (0, 2)) ∨ (tieNm n = Str.ofString "ad" ∧ idx (tieK n) = (0, 3)) ∨
    (tieNm n = Str.ofString "bc" ∧ idx (tieK n) = (1, 2)) ∨ (tieNm n = Str.ofString "bd" ∧ idx (tieK n) = (1, 3)) ∨ (tieNm n = Str.ofString "cd" ∧ idx (tieK n) = (2, 3)) := by
  have h := tieK_lt n
  have e : tieNm n = tieNames.getD (tieK n) (Str.ofString "ab") := rfl
  rw [e]
  generalize tieK n = k at h ⊢
  match k, h with
  | 0, _ => exact .inl ⟨rfl, rfl⟩
  | 1, _ => exact .inr (.inl ⟨rfl, rfl⟩)
  | 2, _ => exact .inr (.inr (.inl ⟨rfl, rfl⟩))
  | 3, _ => exact .inr (.inr (.inr (.inl ⟨rfl, rfl⟩)))
  | 4, _ => exact .inr (.inr (.inr (.inr (.inl ⟨rfl, rfl⟩))))
  | 5, _ => exact .inr (.inr (.inr (.inr (.inr ⟨rfl, rfl⟩))))
section
variable {prog : Program} {w : World} {A : Around} {E : Value → Shared → Prop} {s : Shared}
theorem ne_empties {a b : Addr} {Q : Value → Shared → Prop} (hl : s.heap.IsList a #[]) (hb : s.heap.IsList b #[]) (hu : A.units + 64 < cLine) (h : Q (.bool false) s) : wpAny (model prog w) A (compareOp .NotEq (.ref a) (.ref b)) Q E s :=
  ne_intsK (vs := []) (us := []) (ns := []) (ms := []) hl .nil hb .nil hu h
theorem get_dict {K : Type} [DecidableEq K] {knd : KeyKind prog w K} {d : Addr} {kvs : List (K × Value)} {k : K} {key v : Value} {Q : Value → Shared → Prop} (hD : s.heap.DictOf knd d kvs) (lo : (d == sysModules) = false) (hkey : knd.is k key = true) (hl : valueAt kvs k = some v) (h : Q v { s with toks := s.toks + 1 }) :
    wpAny (model prog w) A (call (.builtin "dict.get") [.ref d, key]) Q E s :=
  call_meetsIn PySem.F.slot_dict_get hD.typeIs PySem.F.entry_dict_get (PySem.F.args_dict_get_2 _ _) (meets_dict_get knd d hkey lo) ⟨_, hD.mapOf, by rw [hl]; exact h⟩
theorem index_rule {x y : Str} {t u : Tok} {i : Nat} {Q : Value → Shared → Prop} (hA : A.handled = none) (hi : Txt.find x y = (i : Int)) (h : Q (.int i s.toks) { s with toks := s.toks + 1 }) :
    wpAny (model prog w) A (call (.builtin "str.index") [.str x t, .str y u]) Q E s := by
  refine index_or hA (fun e _ => ?_) (fun _ _ => ?_)
  · rw [hi] at e; omega
  · rw [hi]; exact h
end
theorem find0 (n : Int) : Txt.find (Str.ofString "abcd") (Txt.item (tieNm n) 0) = ((idx (tieK n)).1 : Int) := by
  rcases tie_six n with ⟨e1, e2⟩ | ⟨e1, e2⟩ | ⟨e1, e2⟩ | ⟨e1, e2⟩ | ⟨e1, e2⟩ | ⟨e1, e2⟩ <;> rw [e1, e2] <;> decide +kernel
theorem find1 (n : Int) : Txt.find (Str.ofString "abcd") (Txt.item (tieNm n) 1) = ((idx (tieK n)).2 : Int) := by
  rcases tie_six n with ⟨e1, e2⟩ | ⟨e1, e2⟩ | ⟨e1, e2⟩ | ⟨e1, e2⟩ | ⟨e1, e2⟩ | ⟨e1, e2⟩ <;> rw [e1, e2] <;> decide +kernel
theorem nm_len (n : Int) : (tieNm n).length = 2 := by
  rcases tie_six n with ⟨e1, e2⟩ | ⟨e1, e2⟩ | ⟨e1, e2⟩ | ⟨e1, e2⟩ | ⟨e1, e2⟩ | ⟨e1, e2⟩ <;> rw [e1] <;> rfl
end
section
open Rx
set_option maxRecDepth 100000 in
set_option maxHeartbeats 2000000 in
theorem law_B {w : World} {A : Around} {Q : Flow → Shared → Prop} {s : Shared} {mean : ExcName → Option Value} {mg mb : Str → Option Value} {hG : Heap}
  {name qual : Str} {params : Arguments} {body : List Stmt} {scope : Scope} {dV kV doc pm cdv cdv' ct oc : Value} {an od : Option Addr} {osl : Array (Option Value)} {f : Addr} {g : Heap} {L : Addr} {mr : Str → Option Value} {tL d : Addr}
  {tas : List Addr} {ns : List Int} {cs : List (Int × Int)} {nt : Nat} {prs : List (Addr × Obj)} {co co3 : Obj} {v3 : Option Value}
  (ho : (hd.heap_39 w.params).lookup 247 = some ⟨oc, od, .func (fnOf name qual params body scope dV kV doc pm an cdv ct), osl⟩)
  (G : Ok w mean mg mb hG g) (R : Room A 40)
  (F : Fr g L s.heap fun y => if y = Str.ofString "ties" then some (.ref tL) else mr y)
  (N : News g L s.heap ((L + 1 + 1 + 1, co3) :: (tL, lstObj (tas.map .ref) nt) :: (L + 1 + 1, co) :: prs)) (hprs : ∀ p ∈ prs, p.1 ≠ L + 1 + 1 + 1) (hco3 : co3.data = .cell v3) (hco : co.data = .cell (some (.ref d))) (lo : (d == sysModules) = false)
  (KP : ∀ h', g.StaysIn h' → News g L h' prs → TiesAt h' tas ns ∧ CntAt Challenge.rw_qj0003_01.row.prog w h' d cs)
  (hnl : ns.length ≤ 10)
  (hb : ∀ i, Bd (prodE ((ns.map endOf).take i))) (hb2 : ∀ e ∈ ns.map endOf, Bd e.2) (hes : ∀ e ∈ ns.map endOf, e.1.1 < 4 ∧ e.1.2 < 4)
  (hbS : ∀ f i, Bd (prodS f ((ns.map endOf).take i))) (hbD : ∀ (h n : Nat), n ≤ 27 → Bd (dueF h (ns.map endOf) n))
  (hcs : ∀ c ∈ cs, 1 ≤ c.1 ∧ c.1 ≤ 4 ∧ Bd c.2) (hcl : cs.length ≤ 100) (h4 : cntAt cs 4 = some 1)
  (hC : ∀ h : Nat, h = 2 ∨ h = 3 → (h : Int) * dueF h (ns.map endOf) (h ^ 3) = telF h cs)
  (h : ∀ h' tk, g.StaysIn h' → Q (.ret (.bool (sumC cs == prodE (ns.map endOf)))) { s with heap := h', toks := tk }) :
  wpAny (model Challenge.rw_qj0003_01.row.prog w) A (execs (body.drop 4) (envOfC qual scope L f cdv')) Q (fun _ _ => False) s := by
  refine' concrete ?h ho ?_
  case h => k_is
  intro e
  unfold fnOf at e
  cases e
  simp only [List.drop_succ_cons, List.drop_zero]
  have X := G.here
  have T := G.top
  have hA := R.handled
  (repeat' ((fail_if_success (with_reducible show wpAny _ _ (exec (Stmt.For _ _ _ _ _) _) _ _ _)); (fail_if_success (with_reducible show wpAny _ _ (eval (Expr.ListComp _ _ _ _) _) _ _ _)); (fail_if_success (with_reducible show wpAny _ _ (exec (Stmt.Assign _ (Expr.ListComp _ _ _ _) _) _) _ _ _)); (fail_if_success (with_reducible show wpAny _ _ (call (Value.type "enumerate") _) _ _ _)); (fail_if_success (with_reducible show wpAny _ _ (pyIter _) _ _ _)); (first | (k_unfold; (try dsimp only)) | walk1 | (dsimp only; walk1))))
  refine comp_eval (cl := []) rfl (by decide) rfl (by decide) ?_
  (repeat' ((fail_if_success (with_reducible show wpAny _ _ (exec (Stmt.For _ _ _ _ _) _) _ _ _)); (fail_if_success (with_reducible show wpAny _ _ (eval (Expr.ListComp _ _ _ _) _) _ _ _)); (fail_if_success (with_reducible show wpAny _ _ (exec (Stmt.Assign _ (Expr.ListComp _ _ _ _) _) _) _ _ _)); (fail_if_success (with_reducible show wpAny _ _ (call (Value.type "enumerate") _) _ _ _)); (fail_if_success (with_reducible show wpAny _ _ (pyIter _) _ _ _)); (first | (k_unfold; (try dsimp only)) | walk1 | (dsimp only; walk1))))
  rename Fr g L _ _ => F1
  rename News g L _ _ => N1
  obtain ⟨kvs, D, C⟩ := (KP _ F1.keep (fun p hp => N1 p (.tail _ (.tail _ (.tail _ hp))))).2
  obtain ⟨ep, D'⟩ := D.dictAt
  refine comp_keys (knd := intKind _ _) hA lo D' ?csz (fun i ys _ => ys = []) ?cf ?cl ?c0 ?cturn ?cfin
  case csz => rw [C.length, sizeLine_eq]; omega
  case cf => exact fun _ _ _ _ _ j _ _ => j
  case cl =>
    rintro i ys _ rfl
    exact Nat.zero_le _
  case c0 => exact fun hh st => rfl
  case cturn =>
    intro C' D12 I12 io12 i k vv key m₂ ys hh tk hx hkey hJ hDI F12 N12
    obtain ⟨c, t2, rfl, hc⟩ := C.get i hx
    obtain ⟨tk2, rfl⟩ := intKey hkey
    obtain ⟨hk1, hk2, hkb⟩ := hcs _ (List.mem_of_getElem? hc)
    dsimp only at hk1 hk2 hkb
    have hJ' := hJ
    subst hJ'
    clear F1 N1
    (repeat' ((fail_if_success (with_reducible show wpAny _ _ (exec (Stmt.For _ _ _ _ _) _) _ _ _)); (fail_if_success (with_reducible show wpAny _ _ (eval (Expr.ListComp _ _ _ _) _) _ _ _)); (fail_if_success (with_reducible show wpAny _ _ (exec (Stmt.Assign _ (Expr.ListComp _ _ _ _) _) _) _ _ _)); (fail_if_success (with_reducible show wpAny _ _ (call (Value.type "enumerate") _) _ _ _)); (fail_if_success (with_reducible show wpAny _ _ (pyIter _) _ _ _)); (first | (k_unfold; (try dsimp only)) | walk1 | (dsimp only; walk1))))
    · rename Fr _ C' _ _ => F13
      rename News _ C' _ _ => N13
      exact ⟨_, _, _, rfl, F13, News.sub N13 (fun p hp => .tail _ hp), rfl⟩
    · rename List.any _ _ = false => hno
      exfalso
      have hk : k = 1 ∨ k = 2 ∨ k = 3 ∨ k = 4 := by omega
      rcases hk with rfl | rfl | rfl | rfl <;> exact absurd hno (by decide)
  case cfin =>
    rintro h2 D2 hh tk ys hys st hD hD0
    subst hys
    dsimp only at st hD0 ⊢
    have hDL := new_ne F1 hD0
    have hDg := new_base F1 hD0
    have F2 := Fr.on F1 st
    have N2 := News.cons (News.on N1 st) hD hDL hDg
    clear F1 N1
    (repeat' ((fail_if_success (with_reducible show wpAny _ _ (exec (Stmt.For _ _ _ _ _) _) _ _ _)); (fail_if_success (with_reducible show wpAny _ _ (eval (Expr.ListComp _ _ _ _) _) _ _ _)); (fail_if_success (with_reducible show wpAny _ _ (exec (Stmt.Assign _ (Expr.ListComp _ _ _ _) _) _) _ _ _)); (fail_if_success (with_reducible show wpAny _ _ (call (Value.type "enumerate") _) _ _ _)); (fail_if_success (with_reducible show wpAny _ _ (pyIter _) _ _ _)); (first | (k_unfold; (try dsimp only)) | walk1 | (dsimp only; walk1))))
    rename Fr g L _ _ => F3
    rename News g L _ _ => N3
    refine ne_empties ⟨_, (N3 _ (.tail _ (.head _))).1, rfl, _, rfl⟩ ⟨_, (N3 _ (.head _)).1, rfl, _, rfl⟩ (by have := R.units; have e : cLine = 9900 := rfl; omega) ?_
    (repeat' ((fail_if_success (with_reducible show wpAny _ _ (exec (Stmt.For _ _ _ _ _) _) _ _ _)); (fail_if_success (with_reducible show wpAny _ _ (eval (Expr.ListComp _ _ _ _) _) _ _ _)); (fail_if_success (with_reducible show wpAny _ _ (exec (Stmt.Assign _ (Expr.ListComp _ _ _ _) _) _) _ _ _)); (fail_if_success (with_reducible show wpAny _ _ (call (Value.type "enumerate") _) _ _ _)); (fail_if_success (with_reducible show wpAny _ _ (pyIter _) _ _ _)); (first | (k_unfold; (try dsimp only)) | walk1 | (dsimp only; walk1))))
    obtain ⟨kvs3, D3, C3⟩ := (KP _ F3.keep (fun p hp => N3 p (.tail _ (.tail _ (.tail _ (.tail _ (.tail _ hp))))))).2
    refine getM_dict (knd := intKind _ _) PySem.F.slot_dict_get PySem.F.type_dict_get D3 ?_
    (repeat' ((fail_if_success (with_reducible show wpAny _ _ (exec (Stmt.For _ _ _ _ _) _) _ _ _)); (fail_if_success (with_reducible show wpAny _ _ (eval (Expr.ListComp _ _ _ _) _) _ _ _)); (fail_if_success (with_reducible show wpAny _ _ (exec (Stmt.Assign _ (Expr.ListComp _ _ _ _) _) _) _ _ _)); (fail_if_success (with_reducible show wpAny _ _ (call (Value.type "enumerate") _) _ _ _)); (fail_if_success (with_reducible show wpAny _ _ (pyIter _) _ _ _)); (first | (k_unfold; (try dsimp only)) | walk1 | (dsimp only; walk1))))
    have hv4 : ∃ t, valueAt kvs3 4 = some (.int 1 t) := by
      rcases C3.at 4 with ⟨e1, _⟩ | ⟨c, t, e1, e2⟩
      · rw [h4] at e1; cases e1
      · rw [h4] at e1; cases e1; exact ⟨t, e2⟩
    obtain ⟨t4, hv4⟩ := hv4
    refine get_dict (knd := intKind _ _) D3 lo (intKind_is _ _ _ _) hv4 ?_
    (repeat' ((fail_if_success (with_reducible show wpAny _ _ (exec (Stmt.For _ _ _ _ _) _) _ _ _)); (fail_if_success (with_reducible show wpAny _ _ (eval (Expr.ListComp _ _ _ _) _) _ _ _)); (fail_if_success (with_reducible show wpAny _ _ (exec (Stmt.Assign _ (Expr.ListComp _ _ _ _) _) _) _ _ _)); (fail_if_success (with_reducible show wpAny _ _ (call (Value.type "enumerate") _) _ _ _)); (fail_if_success (with_reducible show wpAny _ _ (pyIter _) _ _ _)); (first | (k_unfold; (try dsimp only)) | walk1 | (dsimp only; walk1))))
    clear D3 C3 hv4 kvs3
    refine comp_assign (cl := []) (by with_unfolding_all rfl) rfl (by decide) rfl (by decide) rfl (by with_unfolding_all rfl) ?_
    (repeat' ((fail_if_success (with_reducible show wpAny _ _ (exec (Stmt.For _ _ _ _ _) _) _ _ _)); (fail_if_success (with_reducible show wpAny _ _ (eval (Expr.ListComp _ _ _ _) _) _ _ _)); (fail_if_success (with_reducible show wpAny _ _ (exec (Stmt.Assign _ (Expr.ListComp _ _ _ _) _) _) _ _ _)); (fail_if_success (with_reducible show wpAny _ _ (call (Value.type "enumerate") _) _ _ _)); (fail_if_success (with_reducible show wpAny _ _ (pyIter _) _ _ _)); (first | (k_unfold; (try dsimp only)) | walk1 | (dsimp only; walk1))))
    rename Fr g L _ _ => F4
    rename News g L _ _ => N4
    have KT := (KP _ F4.keep (fun p hp => N4 p (.tail _ (.tail _ (.tail _ (.tail _ (.tail _ hp))))))).1
    have htl := (N4 _ (.tail _ (.tail _ (.tail _ (.head _))))).1
    have hlen := KT.length
    have X4 := X.keeps F4.keep
    have T4 := T.keeps F4.keep
    refine comp_list hA ⟨_, htl, rfl, _, rfl⟩ ?dsz (fun i ys h => ∃ as, ys = as.map Value.ref ∧ EndsAt h as ((ns.take i).map endOf)) ?df ?dl ?d0 ?dturn ?dfin
    case dsz => rw [List.length_map, hlen, sizeLine_eq]; omega
    case df => exact fun wr i ys h h' ⟨as, e, hE⟩ nt sb => ⟨as, e, Ats.but endTup (fun b hb => (nt b hb).1) sb hE⟩
    case dl =>
      rintro i ys h ⟨as, rfl, hE⟩
      rw [List.length_map, hE.length, List.length_map, List.length_take]
      exact Nat.min_le_left _ _
    case d0 => exact fun hh st => ⟨[], rfl, by simp; exact .nil⟩
    case dturn =>
      intro C5 D5 I5 io5 i v m₂ ys hh tk hv hJ hDI F5 N5
      dsimp only at F5 N5
      rw [List.getElem?_map] at hv
      obtain ⟨a, ha, rfl⟩ := Option.map_eq_some_iff.mp hv
      obtain ⟨n, hn, t1, t2, np, hpa⟩ := KT.get i ha
      have hia : IsTup _ a #[.str (tieNm n) t1, .bool (tieGr n), .int (tieV n) t2] := ⟨_, F5.keep _ _ hpa, rfl, _, rfl⟩
      obtain ⟨as, rfl, hE⟩ := hJ
      obtain ⟨prs5, NE5, _, KE5⟩ := ends_news F5 hE
      have N5' : News _ C5 hh ((D5, lst (as.map Value.ref)) :: (I5, io5) :: prs5) := News.app N5 NE5
      clear F4 N4 N5
      have hl2 := nm_len n
      (repeat' ((fail_if_success (with_reducible show wpAny _ _ (exec (Stmt.For _ _ _ _ _) _) _ _ _)); (fail_if_success (with_reducible show wpAny _ _ (eval (Expr.ListComp _ _ _ _) _) _ _ _)); (fail_if_success (with_reducible show wpAny _ _ (exec (Stmt.Assign _ (Expr.ListComp _ _ _ _) _) _) _ _ _)); (fail_if_success (with_reducible show wpAny _ _ (call (Value.type "enumerate") _) _ _ _)); (fail_if_success (with_reducible show wpAny _ _ (pyIter _) _ _ _)); (first | (k_unfold; (try dsimp only)) | walk1 | (dsimp only; walk1))))
      refine index_rule hA (find0 n) ?_
      (repeat' ((fail_if_success (with_reducible show wpAny _ _ (exec (Stmt.For _ _ _ _ _) _) _ _ _)); (fail_if_success (with_reducible show wpAny _ _ (eval (Expr.ListComp _ _ _ _) _) _ _ _)); (fail_if_success (with_reducible show wpAny _ _ (exec (Stmt.Assign _ (Expr.ListComp _ _ _ _) _) _) _ _ _)); (fail_if_success (with_reducible show wpAny _ _ (call (Value.type "enumerate") _) _ _ _)); (fail_if_success (with_reducible show wpAny _ _ (pyIter _) _ _ _)); (first | (k_unfold; (try dsimp only)) | walk1 | (dsimp only; walk1))))
      refine index_rule hA (find1 n) ?_
      (repeat' ((fail_if_success (with_reducible show wpAny _ _ (exec (Stmt.For _ _ _ _ _) _) _ _ _)); (fail_if_success (with_reducible show wpAny _ _ (eval (Expr.ListComp _ _ _ _) _) _ _ _)); (fail_if_success (with_reducible show wpAny _ _ (exec (Stmt.Assign _ (Expr.ListComp _ _ _ _) _) _) _ _ _)); (fail_if_success (with_reducible show wpAny _ _ (call (Value.type "enumerate") _) _ _ _)); (fail_if_success (with_reducible show wpAny _ _ (pyIter _) _ _ _)); (first | (k_unfold; (try dsimp only)) | walk1 | (dsimp only; walk1))))
      rename Fr _ C5 _ _ => F6
      rename News _ C5 _ _ => N6
      rename_i D6 h6 lt6
      refine ⟨_, _, _, rfl, F6, News.sub N6 (fun p hp => ?_), as ++ [D6], by simp, ?_⟩
      · simp only [List.mem_cons, List.not_mem_nil, or_false] at hp
        rcases hp with rfl | rfl
        · exact .tail _ (.head _)
        · exact .tail _ (.tail _ (.head _))
      · rw [List.take_add_one, hn, List.map_append]
        exact (KE5 _ F6.keep (fun p hp => N6 p (.tail _ (.tail _ (.tail _ hp))))).snoc ⟨_, _, _, _, (N6 _ (.head _)).1⟩
    case dfin =>
      intro h₂
      refine ⟨_, F4.ns, fun ys h h' ⟨as, e, hE⟩ nt sb => ⟨as, e, Ats.but endTup (fun b hb => by rw [List.mem_singleton.mp hb]; exact nt) sb hE⟩, ?_⟩
      rintro D6 h6 tk6 ys ⟨as, rfl, hE⟩ sb hn hD hD0 hDL
      have F6 := fr_stored F4 sb hn
      have N6 := news_stored N4 sb
      obtain ⟨prsE, NE6, HE6, KE6⟩ := ends_news F6 hE
      rw [List.take_of_length_le (by rw [List.length_map, hlen]; exact Nat.le_refl _)] at KE6
      have N7 := News.cons N6 hD hDL (new_base F4 hD0)
      have e3 := (N6 _ (.tail _ (.tail _ (.head _)))).1
      show wpAny _ _ _ _ _ _
      refine law_C ho G R (mr := fun y => if y = Str.ofString "ties" then some (.ref tL) else mr y) (es := ns.map endOf) (prs := prs ++ prsE) (eas := as) (eL := D6) (ne := (as.map Value.ref).length) F6 ?_ ?_ hco3 hco lo ?_ hb hb2 hes hbS hbD hcs hcl hC h
      · intro p hp
        simp only [List.mem_cons, List.mem_append] at hp
        rcases hp with rfl | rfl | rfl | hp | hp
        · exact N6 _ (.tail _ (.tail _ (.head _)))
        · exact N7 _ (.head _)
        · exact N6 _ (.tail _ (.tail _ (.tail _ (.tail _ (.head _)))))
        · exact N6 _ (.tail _ (.tail _ (.tail _ (.tail _ (.tail _ hp)))))
        · exact NE6 _ hp
      · intro p hp q
        rcases List.mem_append.mp hp with hp | hp
        · exact hprs p hp q
        · obtain ⟨vs, n, e⟩ := HE6 p hp
          have e4 := (NE6 p hp).1
          rw [q, e3, e] at e4
          have this : co3 = tupObj vs n := Option.some.inj e4
          rw [this] at hco3
          cases hco3
      · intro h' st M
        exact ⟨KE6 h' st fun p hp => M p (List.mem_append_right _ hp), (KP h' st fun p hp => M p (List.mem_append_left _ hp)).2⟩
end
section
set_option maxRecDepth 100000
/-- the tie of a number as it is laid -/
def tieT (n : Int) : Tie := (((if tieGr n then 65 else 97) + (idx (tieK n)).1, (if tieGr n then 65 else 97) + (idx (tieK n)).2), tieV n)
theorem idx_lt (k : Nat) : (idx k).1 < (idx k).2 ∧ (idx k).2 < 4 := by
  unfold idx
  match k with
  | 0 => decide
  | 1 => decide
  | 2 => decide
  | 3 => decide
  | 4 => decide
  | 5 => decide
  | n + 6 => exact (by decide : (0 : Nat) < 1 ∧ (1 : Nat) < 4)
theorem tieT_lt (n : Int) : (tieT n).Lt := by
  have := idx_lt (tieK n)
  unfold tieT Tie.Lt Mine.Lt
  dsimp only
  split <;> omega
theorem tieT_lo (n : Int) : lo1 (tieT n).1.1 = 97 + (idx (tieK n)).1 ∧ lo1 (tieT n).1.2 = 97 + (idx (tieK n)).2 := by
  have := idx_lt (tieK n)
  unfold tieT lo1
  dsimp only
  cases tieGr n
  · simp only [Bool.false_eq_true, if_false]
    rw [if_neg (by omega), if_neg (by omega)]
    exact ⟨rfl, rfl⟩
  · simp only [if_true]
    rw [if_pos (by omega), if_pos (by omega)]
    omega
theorem tieV_bd (n : Int) : (tieV n).natAbs ≤ 1000001 := by
  unfold tieV
  rw [Int.fmod_eq_emod_of_nonneg _ (by decide)]
  omega
theorem tieT_nm (n : Int) : (tieT n).P.1 = if tieGr n then Txt.upper (tieNm n) else tieNm n := by
  unfold tieT Tie.P
  dsimp only
  rcases tie_six n with ⟨e1, e2⟩ | ⟨e1, e2⟩ | ⟨e1, e2⟩ | ⟨e1, e2⟩ | ⟨e1, e2⟩ | ⟨e1, e2⟩ <;> rw [e1, e2] <;> cases tieGr n <;> first | rfl | decide +kernel
theorem lays_lt (ns : List Int) : AllLt (ns.map tieT) := by
  intro t ht
  obtain ⟨n, _, rfl⟩ := List.mem_map.mp ht
  exact tieT_lt n
theorem pow_le6 {n : Nat} (h : n ≤ 6) : 1000002 ^ n ≤ 10 ^ 40 := Nat.le_trans (Nat.pow_le_pow_right (by decide) h) (by decide)
theorem wt_ties : ∀ ns : List Int, wt (ns.map tieT) ≤ 1000002 ^ ns.length
  | [] => by rw [List.map_nil, wt_nil]; exact Nat.le_refl _
  | n :: r => by
    rw [List.map_cons, wt_cons, List.length_cons, Nat.pow_succ, Nat.mul_comm]
    exact Nat.mul_le_mul (wt_ties r) (by have := tieV_bd n; show (tieV n).natAbs + 1 ≤ _; omega)
theorem inv_ties (ns : List Int) : Inv [97, 98, 99, 100] (layAllT (ns.map tieT)) := by
  obtain ⟨a, _, b, _⟩ := layAll_all (fun x => x) (P := fun p => lo1 p.1 ∈ [97, 98, 99, 100] ∧ lo1 p.2 ∈ [97, 98, 99, 100] ∧ lo1 p.1 < lo1 p.2) _ (ns.map tieT) rfl (by
    intro p hp
    obtain ⟨n, _, rfl⟩ := List.mem_map.mp hp
    have h1 := tieT_lo n
    have h2 := idx_lt (tieK n)
    rw [h1.1, h1.2]
    simp only [List.mem_cons, List.not_mem_nil, or_false]
    omega)
  exact ⟨by decide, by intro x hx; simp only [List.mem_cons, List.not_mem_nil, or_false] at hx; omega, b, a⟩
theorem prodT_lays (σ : Nat → Nat) (qs : List Tie) : prodT σ (layAllT qs) = prodT σ qs := (layAll_all σ (P := fun _ => True) _ qs rfl fun _ _ => trivial).2.1
/-- the two products are one -/
theorem prodS_from (f : Nat → Nat) (es : List End) : ∀ a : Int, es.foldl (fun a e => if f e.1.1 = f e.1.2 then a * e.2 else a) a = a * prodS f es := by
  induction es with
  | nil => intro a; simp [prodS]
  | cons e r ih =>
    intro a
    unfold prodS at ih ⊢
    rw [List.foldl_cons, List.foldl_cons, ih, ih (if f e.1.1 = f e.1.2 then 1 * e.2 else 1)]
    split
    · rw [Int.one_mul, Int.mul_assoc]
    · rw [Int.one_mul]
theorem prodS_cons (f : Nat → Nat) (e : End) (r : List End) : prodS f (e :: r) = (if f e.1.1 = f e.1.2 then e.2 else 1) * prodS f r := by
  show List.foldl _ _ r = _
  rw [prodS_from]
  by_cases h : f e.1.1 = f e.1.2 <;> simp [h]
theorem prodS_T {f σ : Nat → Nat} (h : ∀ p, p < 4 → σ (97 + p) = f p) : ∀ ns : List Int, prodS f (ns.map endOf) = prodT σ (ns.map tieT)
  | [] => rfl
  | n :: r => by
    rw [List.map_cons, List.map_cons, prodS_cons, prodS_T h r]
    have h1 := tieT_lo n
    have h2 := idx_lt (tieK n)
    simp only [prodT]
    unfold fac
    rw [h1.1, h1.2, h _ (by omega), h _ h2.2]
    rfl
theorem prodE_S (es : List End) : prodE es = prodS (fun _ => 0) es := by unfold prodE prodS; simp
theorem prodS_bd (f : Nat → Nat) : ∀ ns : List Int, (prodS f (ns.map endOf)).natAbs ≤ 1000002 ^ ns.length
  | [] => by simp [prodS]
  | n :: r => by
    rw [List.map_cons, prodS_cons, Int.natAbs_mul, List.length_cons, Nat.pow_succ, Nat.mul_comm]
    refine Nat.mul_le_mul (prodS_bd f r) ?_
    have h1 := tieV_bd n
    split
    · show (1 + tieV n).natAbs ≤ _
      omega
    · decide
theorem Bd.of40 {z : Int} (h : z.natAbs ≤ 10 ^ 40) : Bd z := by
  unfold Bd
  exact Nat.lt_of_le_of_lt h (by decide)
theorem dueF_bd (h : Nat) {ns : List Int} (h6 : ns.length ≤ 6) : ∀ n, (dueF h (ns.map endOf) n).natAbs ≤ n * 10 ^ 40
  | 0 => by simp [dueF]
  | n + 1 => by
    rw [dueF_step]
    have h1 := dueF_bd h h6 n
    have h2 := Nat.le_trans (prodS_bd (shade h n) ns) (pow_le6 h6)
    have h3 := Int.natAbs_add_le (dueF h (ns.map endOf) n) (prodS (shade h n) (ns.map endOf))
    rw [Nat.add_mul, Nat.one_mul]
    omega
theorem telF_ev (h : Nat) : ∀ cs, telF h cs = ev h cs
  | [] => rfl
  | p :: r => by
    have := telF_ev h r
    unfold telF at this ⊢
    rw [List.map_cons, List.sum_cons, this]; rfl
theorem sumC_ev : ∀ cs, sumC cs = ev 1 cs
  | [] => rfl
  | p :: r => by
    have := sumC_ev r
    unfold sumC at this ⊢
    rw [List.map_cons, List.sum_cons, this]
    simp [ev, Int.one_pow]
/-- other colours, the same products -/
theorem prodT_perm {π : Nat → Nat} (hπ : ∀ x y, π x = π y → x = y) {ts : List Tie} (hl : ∀ t ∈ ts, (97 ≤ lo1 t.1.1 ∧ lo1 t.1.1 ≤ 100) ∧ 97 ≤ lo1 t.1.2 ∧ lo1 t.1.2 ≤ 100) (a b c d : Nat) : prodT (col (π a) (π b) (π c) (π d)) ts = prodT (col a b c d) ts := by
  induction ts with
  | nil => rfl
  | cons t r ih =>
    simp only [prodT]
    rw [ih fun u hu => hl u (.tail _ hu)]
    congr 1
    have h1 := hl t (.head _)
    have key : ∀ x, 97 ≤ x → x ≤ 100 → col (π a) (π b) (π c) (π d) x = π (col a b c d x) := by
      intro x h1 h2
      have : x = 97 ∨ x = 98 ∨ x = 99 ∨ x = 100 := by omega
      rcases this with rfl | rfl | rfl | rfl <;> rfl
    unfold fac
    rw [key _ h1.1.1 h1.1.2, key _ h1.2.1 h1.2.2]
    by_cases e : col a b c d (lo1 t.1.1) = col a b c d (lo1 t.1.2)
    · rw [if_pos e, if_pos (congrArg π e)]
    · rw [if_neg e, if_neg fun q => e (hπ _ _ q)]
def rot2 (x : Nat) : Nat := if x = 0 then 1 else if x = 1 then 0 else x
def rot3 (x : Nat) : Nat := if x = 0 then 1 else if x = 1 then 2 else if x = 2 then 0 else x
theorem rot2_inj : ∀ x y, rot2 x = rot2 y → x = y := by
  intro x y; unfold rot2; repeat' split
  all_goals omega
theorem rot3_inj : ∀ x y, rot3 x = rot3 y → x = y := by
  intro x y; unfold rot3; repeat' split
  all_goals omega
theorem low_ties (ns : List Int) : ∀ t ∈ ns.map tieT, (97 ≤ lo1 t.1.1 ∧ lo1 t.1.1 ≤ 100) ∧ 97 ≤ lo1 t.1.2 ∧ lo1 t.1.2 ≤ 100 := by
  intro t ht
  obtain ⟨n, _, rfl⟩ := List.mem_map.mp ht
  have h1 := tieT_lo n
  have h2 := idx_lt (tieK n)
  omega
theorem sumR_add (f g : Nat → Int) : ∀ q, sumR q (fun a => f a + g a) = sumR q f + sumR q g
  | 0 => by simp [sumR]
  | q + 1 => by simp only [sumR, sumR_add f g q]; omega
theorem sumR_zero : ∀ q, sumR q (fun _ => 0) = 0
  | 0 => rfl
  | q + 1 => by simp only [sumR, sumR_zero q]; rfl
theorem sumR_comm (f : Nat → Nat → Int) (n : Nat) : ∀ m, sumR m (fun i => sumR n fun j => f i j) = sumR n fun j => sumR m fun i => f i j
  | 0 => by simp only [sumR, sumR_zero]
  | m + 1 => by simp only [sumR, sumR_comm f n m, sumR_add]
theorem sumR_three (f : Nat → Nat → Nat → Int) (q : Nat) : (sumR q fun b => sumR q fun c => sumR q fun d => f b c d) = sumR q fun d => sumR q fun c => sumR q fun b => f b c d := by
  rw [show (fun b => sumR q fun c => sumR q fun d => f b c d) = fun b => sumR q fun d => sumR q fun c => f b c d from funext fun b => sumR_comm (fun c d => f b c d) q q, sumR_comm (fun b d => sumR q fun c => f b c d)]
  refine sumR_congr fun d _ => ?_
  exact sumR_comm (fun b c => f b c d) q q
theorem sumR_split (n : Nat) (g : Nat → Int) : ∀ m, sumR (m * n) g = sumR m fun i => sumR n fun j => g (i * n + j)
  | 0 => by simp [sumR]
  | m + 1 => by
    have key : ∀ k, sumR (m * n + k) g = sumR (m * n) g + sumR k fun j => g (m * n + j) := by
      intro k
      induction k with
      | zero => simp [sumR]
      | succ k ih =>
        rw [← Nat.add_assoc]
        simp only [sumR, ih]
        omega
    rw [Nat.succ_mul, key, sumR_split n g m]
    rfl
theorem dueF_sum (h : Nat) (es : List End) : ∀ n, dueF h es n = sumR n fun code => prodS (shade h code) es
  | 0 => rfl
  | n + 1 => by rw [dueF_step, dueF_sum h es n]; rfl
theorem place_cases {f : Nat → Nat} {a b c d : Nat} (h : a = f 0 ∧ b = f 1 ∧ c = f 2 ∧ d = f 3) : ∀ p, p < 4 → col a b c d (97 + p) = f p := by
  intro p hp
  match p, hp with
  | 0, _ => exact h.1
  | 1, _ => exact h.2.1
  | 2, _ => exact h.2.2.1
  | 3, _ => exact h.2.2.2
theorem sumR_rot2 (f : Nat → Int) : sumR 2 (fun b => f (rot2 b)) = sumR 2 f := by
  show (0 + f 1) + f 0 = (0 + f 0) + f 1
  omega
theorem sumR_rot3 (f : Nat → Int) : sumR 3 (fun b => f (rot3 b)) = sumR 3 f := by
  show ((0 + f 1) + f 2) + f 0 = ((0 + f 0) + f 1) + f 2
  omega
/-- the law's sum is a part of all colourings -/
theorem due_two (ns : List Int) : (2 : Int) * dueF 2 (ns.map endOf) 8 = Zq 2 fun σ => prodT σ (ns.map tieT) := by
  have hp := prodT_perm rot2_inj (low_ties ns)
  generalize hF : (fun a b c d => prodT (col a b c d) (ns.map tieT)) = F
  have hF' : ∀ a b c d, prodT (col a b c d) (ns.map tieT) = F a b c d := fun a b c d => by rw [← hF]
  have hr : ∀ a, (sumR 2 fun b => sumR 2 fun c => sumR 2 fun d => F (rot2 a) b c d) = sumR 2 fun b => sumR 2 fun c => sumR 2 fun d => F a b c d := by
    intro a
    rw [← sumR_rot2]
    refine sumR_congr fun b _ => ?_
    rw [← sumR_rot2]
    refine sumR_congr fun c _ => ?_
    rw [← sumR_rot2]
    refine sumR_congr fun d _ => ?_
    rw [← hF', ← hF']
    exact hp a b c d
  have hd : dueF 2 (ns.map endOf) 8 = sumR 2 fun b => sumR 2 fun c => sumR 2 fun d => F 0 b c d := by
    rw [sumR_three fun b c d => F 0 b c d, dueF_sum, show (8 : Nat) = 2 * 4 from rfl, sumR_split]
    refine sumR_congr fun d hd => ?_
    rw [show (4 : Nat) = 2 * 2 from rfl, sumR_split]
    refine sumR_congr fun c hc => sumR_congr fun b hb => ?_
    rw [← hF']
    refine prodS_T (place_cases ⟨rfl, ?_, ?_, ?_⟩) ns
    · show b = _ % 2; omega
    · show c = _ / 2 % 2; omega
    · show d = _ / 2 ^ 2; omega
  unfold Zq
  simp only [hF']
  have h0 := hr 0
  rw [hd]
  simp only [show rot2 0 = 1 from rfl] at h0
  generalize hS : (fun a => sumR 2 fun b => sumR 2 fun c => sumR 2 fun d => F a b c d) = S
  have e0 : (sumR 2 fun b => sumR 2 fun c => sumR 2 fun d => F 0 b c d) = S 0 := by rw [← hS]
  have e1 : (sumR 2 fun b => sumR 2 fun c => sumR 2 fun d => F 1 b c d) = S 1 := by rw [← hS]
  rw [e0, e1] at h0
  rw [e0]
  show 2 * S 0 = (0 + S 0) + S 1
  omega
theorem due_three (ns : List Int) : (3 : Int) * dueF 3 (ns.map endOf) 27 = Zq 3 fun σ => prodT σ (ns.map tieT) := by
  have hp := prodT_perm rot3_inj (low_ties ns)
  generalize hF : (fun a b c d => prodT (col a b c d) (ns.map tieT)) = F
  have hF' : ∀ a b c d, prodT (col a b c d) (ns.map tieT) = F a b c d := fun a b c d => by rw [← hF]
  have hr : ∀ a, (sumR 3 fun b => sumR 3 fun c => sumR 3 fun d => F (rot3 a) b c d) = sumR 3 fun b => sumR 3 fun c => sumR 3 fun d => F a b c d := by
    intro a
    rw [← sumR_rot3]
    refine sumR_congr fun b _ => ?_
    rw [← sumR_rot3]
    refine sumR_congr fun c _ => ?_
    rw [← sumR_rot3]
    refine sumR_congr fun d _ => ?_
    rw [← hF', ← hF']
    exact hp a b c d
  have hd : dueF 3 (ns.map endOf) 27 = sumR 3 fun b => sumR 3 fun c => sumR 3 fun d => F 0 b c d := by
    rw [sumR_three fun b c d => F 0 b c d, dueF_sum, show (27 : Nat) = 3 * 9 from rfl, sumR_split]
    refine sumR_congr fun d hd => ?_
    rw [show (9 : Nat) = 3 * 3 from rfl, sumR_split]
    refine sumR_congr fun c hc => sumR_congr fun b hb => ?_
    rw [← hF']
    refine prodS_T (place_cases ⟨rfl, ?_, ?_, ?_⟩) ns
    · show b = _ % 3; omega
    · show c = _ / 3 % 3; omega
    · show d = _ / 3 ^ 2; omega
  unfold Zq
  simp only [hF']
  have h0 := hr 0
  have h1 := hr 1
  rw [hd]
  simp only [show rot3 0 = 1 from rfl, show rot3 1 = 2 from rfl] at h0 h1
  generalize hS : (fun a => sumR 3 fun b => sumR 3 fun c => sumR 3 fun d => F a b c d) = S
  have e0 : (sumR 3 fun b => sumR 3 fun c => sumR 3 fun d => F 0 b c d) = S 0 := by rw [← hS]
  have e1 : (sumR 3 fun b => sumR 3 fun c => sumR 3 fun d => F 1 b c d) = S 1 := by rw [← hS]
  have e2 : (sumR 3 fun b => sumR 3 fun c => sumR 3 fun d => F 2 b c d) = S 2 := by rw [← hS]
  rw [e0, e1] at h0
  rw [e1, e2] at h1
  rw [e0]
  show 3 * S 0 = ((0 + S 0) + S 1) + S 2
  omega
end
section
set_option maxRecDepth 100000
abbrev laidT (ns : List Int) : List Tie := layAllT (ns.map tieT)
abbrev cntsT (ns : List Int) : List (Int × Int) := tallyF 6 (laidT ns) 4
structure LawFacts (ns : List Int) : Prop where
  lt : AllLt (laidT ns)
  len : (laidT ns).length ≤ 6
  wt : Mine.wt (laidT ns) < 10 ^ 45
  b : ∀ i, Bd (prodE ((ns.map endOf).take i))
  b2 : ∀ e ∈ ns.map endOf, Bd e.2
  es : ∀ e ∈ ns.map endOf, e.1.1 < 4 ∧ e.1.2 < 4
  bS : ∀ f i, Bd (prodS f ((ns.map endOf).take i))
  bD : ∀ (h n : Nat), n ≤ 27 → Bd (dueF h (ns.map endOf) n)
  cs : ∀ c ∈ cntsT ns, 1 ≤ c.1 ∧ c.1 ≤ 4 ∧ Bd c.2
  cl : (cntsT ns).length ≤ 100
  c4 : cntAt (cntsT ns) 4 = some 1
  C : ∀ h : Nat, h = 2 ∨ h = 3 → (h : Int) * dueF h (ns.map endOf) (h ^ 3) = telF h (cntsT ns)
  one : (sumC (cntsT ns) == prodE (ns.map endOf)) = true
theorem law_facts {ns : List Int} (h6 : ns.length ≤ 6) : LawFacts ns := by
  have hlt : AllLt (laidT ns) := layAllT_lt (lays_lt ns)
  have hlen : (laidT ns).length ≤ 6 := by
    have := (layAll_all (fun x => x) (P := fun _ => True) _ (ns.map tieT) rfl fun _ _ => trivial).2.2.2
    rw [List.length_map] at this
    exact Nat.le_trans this h6
  have hw : Mine.wt (laidT ns) ≤ 10 ^ 40 := Nat.le_trans (wt_layAll _ _ rfl) (Nat.le_trans (wt_ties ns) (pow_le6 h6))
  have hS : ∀ f i, Bd (prodS f ((ns.map endOf).take i)) := by
    intro f i
    rw [← List.map_take]
    exact Bd.of40 (Nat.le_trans (prodS_bd f _) (pow_le6 (Nat.le_trans (by rw [List.length_take]; exact Nat.min_le_right _ _) h6)))
  have hT := fun q hq => tally_is (q := q) hq 6 (laidT ns) [97, 98, 99, 100] (inv_ties ns) hlen (by decide) (by decide)
  have hev : ∀ q : Nat, q = 1 ∨ q = 2 ∨ q = 3 → ev q (cntsT ns) = Zq q fun σ => prodT σ (ns.map tieT) := by
    intro q hq
    have := (hT q hq).ev
    simp only [List.length_cons, List.length_nil] at this
    simp only [prodT_lays] at this
    simpa using this
  have habs := tallyF_abs 6 (laidT ns) 4
  refine ⟨hlt, hlen, Nat.lt_of_le_of_lt hw (by decide), fun i => by rw [prodE_S]; exact hS _ i, ?_, ?_, hS, ?_, ?_, ?_, ?_, ?_, ?_⟩
  · intro e he
    obtain ⟨n, _, rfl⟩ := List.mem_map.mp he
    have := tieV_bd n
    refine Bd.of40 (Nat.le_trans (m := 1000002) ?_ (by decide))
    show (1 + tieV n).natAbs ≤ _
    omega
  · intro e he
    obtain ⟨n, _, rfl⟩ := List.mem_map.mp he
    have := idx_lt (tieK n)
    show (idx (tieK n)).1 < 4 ∧ (idx (tieK n)).2 < 4
    omega
  · intro h n hn
    have := dueF_bd h h6 n
    unfold Bd
    have h2 : n * 10 ^ 40 ≤ 27 * 10 ^ 40 := Nat.mul_le_mul_right _ hn
    exact Nat.lt_of_le_of_lt (Nat.le_trans this h2) (by decide)
  · intro c hc
    have hk := (hT 1 (.inl rfl)).keys c hc
    have := abs_mem hc
    refine ⟨hk.1, hk.2, Bd.of40 (Nat.le_trans this (Nat.le_trans habs hw))⟩
  · exact Nat.le_trans (tallyF_length _ _ _) (by decide)
  · exact (hT 1 (.inl rfl)).top
  · rintro h (rfl | rfl)
    · rw [telF_ev, hev 2 (.inr (.inl rfl))]
      exact due_two ns
    · rw [telF_ev, hev 3 (.inr (.inr rfl))]
      exact due_three ns
  · have h1 := hev 1 (.inl rfl)
    have h2 : Zq 1 (fun σ => prodT σ (ns.map tieT)) = prodT (col 0 0 0 0) (ns.map tieT) := by simp [Zq, sumR]
    have h3 : prodS (fun _ => 0) (ns.map endOf) = prodT (col 0 0 0 0) (ns.map tieT) := prodS_T (fun p hp => by
      match p, hp with
      | 0, _ => rfl
      | 1, _ => rfl
      | 2, _ => rfl
      | 3, _ => rfl) ns
    rw [beq_iff_eq, sumC_ev, prodE_S, h3, ← h2]
    exact h1
end
section
set_option maxRecDepth 100000
theorem pairs_it {h h' : Heap} {I : Addr} {io : Obj} (e : h.get? I = some io) (hc : io.cls = .type "list_iterator") (st : ∀ b o, b ≠ I → h.get? b = some o → h'.get? b = some o) : ∀ {as ps}, PairsAt h as ps → PairsAt h' as ps
  | _, _, .nil => .nil
  | _, _, .cons ⟨t1, t2, n, e1⟩ r => .cons ⟨t1, t2, n, st _ _ (fun q => by
      rw [q, e] at e1
      cases e1
      exact absurd hc (by simp)) e1⟩ (pairs_it e hc st r)
theorem lays_sm {ns : List Int} (h6 : ns.length ≤ 6) : ∀ i, ∀ p ∈ layAll ((ns.map tieT).take i), Sm p.2 := by
  intro i p hp
  have hl : AllLt ((ns.map tieT).take i) := fun q hq => lays_lt ns q (List.mem_of_mem_take hq)
  rw [layAll_P hl] at hp
  obtain ⟨q, hq, rfl⟩ := List.mem_map.mp hp
  have h1 := wt_mem hq
  have h2 := wt_layAll _ _ (rfl : ((ns.map tieT).take i).length = _)
  have h3 := wt_take (ns.map tieT) i
  have h4 := Nat.le_trans (wt_ties ns) (pow_le6 h6)
  show q.2.natAbs < 10 ^ 45
  have : (10 : Nat) ^ 40 < 10 ^ 45 := by decide
  omega
theorem tieV_sm (n : Int) : Sm (tieV n) := Nat.lt_of_le_of_lt (tieV_bd n) (by decide)
end
section
open Rx
abbrev laL : List Str := [Str.ofString "v", Str.ofString "great", Str.ofString "name", Str.ofString "table", Str.ofString "ties"]
local macro_rules | `(tactic| walk_at "call builtin:str.upper") => `(tactic| (refine SCL.upper (by rw [nm_len]; decide) ?_; intro _))
set_option maxRecDepth 100000 in
set_option maxHeartbeats 2000000 in
theorem law_A {w : World} {A : Around} {Q : Flow → Shared → Prop} {s : Shared} {mean : ExcName → Option Value} {mg mb : Str → Option Value} {hG : Heap}
  {name qual : Str} {params : Arguments} {body : List Stmt} {scope : Scope} {dV kV doc pm cdv cdv' ct oc : Value} {an od : Option Addr} {osl : Array (Option Value)} {f : Addr} {g : Heap} {L : Addr} {mr : Str → Option Value} {sL : Addr}
  {vs : List Value} {sc : List Int} {co1 co2 co3 : Obj} {v2 v3 : Option Value}
  (ho : (hd.heap_39 w.params).lookup 247 = some ⟨oc, od, .func (fnOf name qual params body scope dV kV doc pm an cdv ct), osl⟩)
  (G : Ok w mean mg mb hG g) (R : Room A 40)
  (F : Fr g L s.heap mr)
  (N : News g L s.heap [(L + 1 + 1 + 1, co3), (L + 1 + 1, co2), (L + 1, co1)]) (hco1 : co1.data = .cell (some (.ref sL))) (hco2 : co2.data = .cell v2) (hco3 : co3.data = .cell v3)
  (hsl : g.IsList sL vs.toArray) (hi : IntsAre vs sc) (hsz : sc.length ≤ 63)
  (h : ∀ h' tk, g.StaysIn h' → Q (.ret (.bool true)) { s with heap := h', toks := tk }) :
  wpAny (model Challenge.rw_qj0003_01.row.prog w) A (execs body (envOfC qual scope L f cdv')) Q (fun _ _ => False) s := by
  refine' concrete ?h ho ?_
  case h => k_is
  intro e
  unfold fnOf at e
  cases e
  have X := G.here
  have T := G.top
  have hA := R.handled
  (repeat' ((fail_if_success (with_reducible show wpAny _ _ (exec (Stmt.For _ _ _ _ _) _) _ _ _)); (fail_if_success (with_reducible show wpAny _ _ (eval (Expr.ListComp _ _ _ _) _) _ _ _)); (fail_if_success (with_reducible show wpAny _ _ (exec (Stmt.Assign _ (Expr.ListComp _ _ _ _) _) _) _ _ _)); (fail_if_success (with_reducible show wpAny _ _ (call (Value.type "enumerate") _) _ _ _)); (fail_if_success (with_reducible show wpAny _ _ (pyIter _) _ _ _)); (first | (k_unfold; (try dsimp only)) | walk1 | (dsimp only; walk1))))
  refine comp_assign (cl := [(Str.ofString "script", L + 1)]) (by with_unfolding_all rfl) rfl (by decide) rfl (by decide) rfl (by with_unfolding_all rfl) ?_
  (repeat' ((fail_if_success (with_reducible show wpAny _ _ (exec (Stmt.For _ _ _ _ _) _) _ _ _)); (fail_if_success (with_reducible show wpAny _ _ (eval (Expr.ListComp _ _ _ _) _) _ _ _)); (fail_if_success (with_reducible show wpAny _ _ (exec (Stmt.Assign _ (Expr.ListComp _ _ _ _) _) _) _ _ _)); (fail_if_success (with_reducible show wpAny _ _ (call (Value.type "enumerate") _) _ _ _)); (fail_if_success (with_reducible show wpAny _ _ (pyIter _) _ _ _)); (first | (k_unfold; (try dsimp only)) | walk1 | (dsimp only; walk1))))
  rename Fr g L _ _ => F1
  rename News g L _ _ => N1
  have hE := (N1 _ (.head _)).1
  have ecl := (N1 _ (.tail _ (.tail _ (.tail _ (.head _))))).1
  dsimp only at ecl
  have G1 := G.keep F1.keep
  have X1 := X.keeps F1.keep
  have T1 := T.keeps F1.keep
  have hsl1 := hsl.at fun o e => F1.keep _ _ e
  refine comp_enum hA ⟨_, hE, rfl, _, rfl⟩ ?esz (fun i ys h => ∃ as ns, ys = as.map Value.ref ∧ ns.length = i ∧ TiesAt h as ns) ?ef ?el ?e0 ?eturn ?efin
  case esz => rw [sizeLine_eq]; exact (by decide : 6 ≤ 16777216)
  case ef => exact fun wr i ys h h' ⟨as, ns, e, hl, hE⟩ nt sb => ⟨as, ns, e, hl, Ats.but tieTup (fun b hb => (nt b hb).1) sb hE⟩
  case el =>
    rintro i ys h ⟨as, ns, rfl, hl, hE⟩
    rw [List.length_map, hE.length, hl]
    exact Nat.le_refl _
  case e0 => exact fun hh st => ⟨[], [], rfl, rfl, .nil⟩
  case eturn =>
    intro C5 D5 e5 it5 eo5 io5 i x a t m₂ ys hh tk hx ha hJ hDe hDi F5 N5
    dsimp only at F5 N5
    obtain ⟨c, tc, rfl, hi6⟩ : ∃ c tc, x = .int c tc ∧ i < 6 := by
      match i, hx with
      | 0, hx => exact ⟨_, _, (Option.some.inj hx).symm, by decide⟩
      | 1, hx => exact ⟨_, _, (Option.some.inj hx).symm, by decide⟩
      | 2, hx => exact ⟨_, _, (Option.some.inj hx).symm, by decide⟩
      | 3, hx => exact ⟨_, _, (Option.some.inj hx).symm, by decide⟩
      | 4, hx => exact ⟨_, _, (Option.some.inj hx).symm, by decide⟩
      | 5, hx => exact ⟨_, _, (Option.some.inj hx).symm, by decide⟩
    have hia : IsTup hh a #[.int i t, .int c tc] := ⟨_, ha, rfl, _, rfl⟩
    obtain ⟨as, ns, rfl, hln, hT⟩ := hJ
    obtain ⟨prs5, NT5, _, KT5⟩ := ties_news F5 hT
    have N5' : News _ C5 hh ((D5, lst (as.map Value.ref)) :: (e5, eo5) :: (it5, io5) :: prs5) := News.app N5 NT5
    clear F1 N1 N5
    (repeat' ((fail_if_success (with_reducible show wpAny _ _ (exec (Stmt.For _ _ _ _ _) _) _ _ _)); (fail_if_success (with_reducible show wpAny _ _ (eval (Expr.ListComp _ _ _ _) _) _ _ _)); (fail_if_success (with_reducible show wpAny _ _ (exec (Stmt.Assign _ (Expr.ListComp _ _ _ _) _) _) _ _ _)); (fail_if_success (with_reducible show wpAny _ _ (call (Value.type "enumerate") _) _ _ _)); (fail_if_success (with_reducible show wpAny _ _ (pyIter _) _ _ _)); (first | (k_unfold; (try dsimp only)) | walk1 | (dsimp only; walk1))))
    rename Fr _ C5 _ _ => F6
    rename News _ C5 _ _ => N6
    have eS := (N6 _ (.head _)).1
    dsimp only at eS
    obtain ⟨ps, hps, _⟩ := ints_vals (hi.pick (some (i : Int)) none (some 6))
    have hps' : slicePick vs.toArray (some (i : Int)) none (some 6) = (intVals ps).toArray := by rw [← hps]
    rw [hps'] at eS
    refine sum_rule (ps := ps) hA ⟨_, eS, rfl, _, rfl⟩ ?_
    intro h7 tk7 t7 st7
    have F7 := Fr.on F6 st7
    have N7 : News _ C5 h7 ((D5, lst (as.map Value.ref)) :: (e5, eo5) :: (it5, io5) :: prs5) := News.on (News.sub N6 (fun p hp => .tail _ hp)) st7
    clear F6 N6 eS
    generalize (ps.map (·.1)).sum = sm
    (repeat' ((fail_if_success (with_reducible show wpAny _ _ (exec (Stmt.For _ _ _ _ _) _) _ _ _)); (fail_if_success (with_reducible show wpAny _ _ (eval (Expr.ListComp _ _ _ _) _) _ _ _)); (fail_if_success (with_reducible show wpAny _ _ (exec (Stmt.Assign _ (Expr.ListComp _ _ _ _) _) _) _ _ _)); (fail_if_success (with_reducible show wpAny _ _ (call (Value.type "enumerate") _) _ _ _)); (fail_if_success (with_reducible show wpAny _ _ (pyIter _) _ _ _)); (first | (k_unfold; (try dsimp only)) | walk1 | (dsimp only; walk1))))
    refine tie_spec (n := c + sm) (G1.keep F7.keep) (R.le (by decide)) ?_
    intro tp h8 tk8 t1 t2 np st8 ntp etp
    have F8 := Fr.on F7 st8
    have N8 := News.on N7 st8
    refine ⟨_, _, _, rfl, F8, News.sub N8 (fun p hp => ?_), as ++ [tp], ns ++ [c + sm], by simp, by simp [hln], (KT5 _ F8.keep (fun p hp => N8 p (.tail _ (.tail _ (.tail _ hp))))).snoc ⟨_, _, _, etp⟩⟩
    simp only [List.mem_cons, List.not_mem_nil, or_false] at hp
    rcases hp with rfl | rfl | rfl
    · exact .head _
    · exact .tail _ (.head _)
    · exact .tail _ (.tail _ (.head _))
  case efin =>
    intro h₂
    refine ⟨_, F1.ns, fun ys h h' ⟨as, ns, e, hl, hE⟩ nt sb => ⟨as, ns, e, hl, Ats.but tieTup (fun b hb => by rw [List.mem_singleton.mp hb]; exact nt) sb hE⟩, ?_⟩
    rintro D6 h6 tk6 ys ⟨as, ns, rfl, hln, hT⟩ sb hn hD hD0 hDL
    have F6 := fr_stored F1 sb hn
    obtain ⟨prsT, NT, HT, KT⟩ := ties_news F6 hT
    have N5 := news_stored N1 sb
    have N6 : News g L h6 ((D6, lst (as.map Value.ref)) :: (L + 1 + 1 + 1, co3) :: (L + 1 + 1, co2) :: (L + 1, co1) :: prsT) := News.cons (News.app (News.sub N5 (fun p hp => .tail _ hp)) NT) hD hDL (new_base F1 hD0)
    have hln : ns.length = 6 := hln
    clear F1 N1 X1 T1 G1 hsl1 N5 NT
    have L6 := law_facts (ns := ns) (by omega)
    show wpAny _ _ _ _ _ _
    (repeat' ((fail_if_success (with_reducible show wpAny _ _ (exec (Stmt.For _ _ _ _ _) _) _ _ _)); (fail_if_success (with_reducible show wpAny _ _ (eval (Expr.ListComp _ _ _ _) _) _ _ _)); (fail_if_success (with_reducible show wpAny _ _ (exec (Stmt.Assign _ (Expr.ListComp _ _ _ _) _) _) _ _ _)); (fail_if_success (with_reducible show wpAny _ _ (call (Value.type "enumerate") _) _ _ _)); (fail_if_success (with_reducible show wpAny _ _ (pyIter _) _ _ _)); (first | (k_unfold; (try dsimp only)) | walk1 | (dsimp only; walk1))))
    rename Fr g L _ _ => F7
    rename News g L _ _ => N7
    rename_i l0 h7 lt7
    refine make_spec (as := []) (ps := []) (G.keep F7.keep) (R.le (by decide)) F7 N7 ⟨0, (N7 _ (.head _)).1⟩ .nil (by simp) ?_
    intro x8 d8 hs8 tk8 n8 h8 tk8' F8 N8 st8 nx8 nd8
    clear F7 N7
    (repeat' ((fail_if_success (with_reducible show wpAny _ _ (exec (Stmt.For _ _ _ _ _) _) _ _ _)); (fail_if_success (with_reducible show wpAny _ _ (eval (Expr.ListComp _ _ _ _) _) _ _ _)); (fail_if_success (with_reducible show wpAny _ _ (exec (Stmt.Assign _ (Expr.ListComp _ _ _ _) _) _) _ _ _)); (fail_if_success (with_reducible show wpAny _ _ (call (Value.type "enumerate") _) _ _ _)); (fail_if_success (with_reducible show wpAny _ _ (pyIter _) _ _ _)); (first | (k_unfold; (try dsimp only)) | walk1 | (dsimp only; walk1))))
    refine wpAny_For ?_
    (repeat' ((fail_if_success (with_reducible show wpAny _ _ (exec (Stmt.For _ _ _ _ _) _) _ _ _)); (fail_if_success (with_reducible show wpAny _ _ (eval (Expr.ListComp _ _ _ _) _) _ _ _)); (fail_if_success (with_reducible show wpAny _ _ (exec (Stmt.Assign _ (Expr.ListComp _ _ _ _) _) _) _ _ _)); (fail_if_success (with_reducible show wpAny _ _ (call (Value.type "enumerate") _) _ _ _)); (fail_if_success (with_reducible show wpAny _ _ (pyIter _) _ _ _)); (first | (k_unfold; (try dsimp only)) | walk1 | (dsimp only; walk1))))
    rename Fr g L _ _ => F9
    rename News g L _ _ => N9
    rename_i h9
    have ex9 := N9 _ (.head _)
    have ed9 := N9 _ (.tail _ (.head _))
    have el9 := N9 _ (.tail _ (.tail _ (.head _)))
    have eD9 := N9 _ (.tail _ (.tail _ (.tail _ (.head _))))
    have hKT9 := KT h9 F9.keep (fun p hp => N9 p (.tail _ (.tail _ (.tail _ (.tail _ (.tail _ (.tail _ (.tail _ hp))))))))
    have hlen9 := hKT9.length
    have nex : x8 ≠ l0 := ne_cls ex9.1 el9.1 (by simp)
    have ned : d8 ≠ l0 := ne_cls ed9.1 el9.1 (by simp)
    have hGl : hG.get? l0 = none := by
      cases q : hG.get? l0 with
      | none => rfl
      | some o => have := G.st _ _ q; rw [el9.2.2] at this; cases this
    have N9' : News g L h9 ((D6, lst (as.map Value.ref)) :: (x8, instObj 184 d8) :: (d8, dictOf [⟨hs8, .str (Str.ofString "_headers") tk8, .ref l0⟩] n8) :: (L + 1 + 1 + 1, co3) :: (L + 1 + 1, co2) :: (L + 1, co1) :: prsT) := by
      intro p hp
      rcases List.mem_cons.mp hp with rfl | hp
      · exact eD9
      rcases List.mem_cons.mp hp with rfl | hp
      · exact ex9
      rcases List.mem_cons.mp hp with rfl | hp
      · exact ed9
      · exact N9 p (.tail _ (.tail _ (.tail _ (.tail _ hp))))
    refine loop_list (items := as.map .ref) (L := L) rfl (fun i m h => ∃ u1 u2 u3 as7 nl7, (m = fun y => if y = Str.ofString "v" then u1 else if y = Str.ofString "great" then u2 else if y = Str.ofString "name" then u3 else if y = Str.ofString "table" then some (.ref x8) else if y = Str.ofString "ties" then some (.ref D6) else mr y) ∧ (h.get? l0 = some (lstObj (as7.map .ref) nl7)) ∧ PairsAt h as7 (txs (layAll ((ns.map tieT).take i)))) hA ⟨_, eD9.1, rfl, _, rfl⟩ (.inr ⟨_, .head _⟩) F9 N9' ?jf ?j0 ?turn ?done PassesOwn.never
    case jf =>
      rintro I i m h h' io ⟨u1, u2, u3, as7, nl7, e, hl, hP⟩ hI hc st
      refine ⟨u1, u2, u3, as7, nl7, e, st _ _ (fun q => ?_) hl, pairs_it hI hc st hP⟩
      rw [q, hI] at hl
      cases hl
      exact absurd hc (by simp)
    case j0 => exact fun h st => ⟨_, _, _, [], 0, names_ext laL (by (((repeat (refine And.intro rfl ?_)); exact trivial))) (by ((intro y hy; (simp only [List.contains_cons, List.contains_nil, Bool.or_false, Bool.or_eq_false_iff, beq_eq_false_iff_ne, ne_eq] at hy); simp [hy, lookup_ne, lookup_no]))), st _ _ el9.1, .nil⟩
    case turn =>
      rintro I i v m₁ hh tk io hv ⟨u1, u2, u3, as7, nl7, rfl, hl0, hP7⟩ hio F10 N10
      rw [List.getElem?_map] at hv
      obtain ⟨a, ha, rfl⟩ := Option.map_eq_some_iff.mp hv
      have hKT := KT hh F10.keep (fun p hp => N10 p (.tail _ (.tail _ (.tail _ (.tail _ (.tail _ (.tail _ (.tail _ hp))))))))
      obtain ⟨n, hn, t1, t2, np, hpa⟩ := hKT.get i ha
      have hia : IsTup hh a #[.str (tieNm n) t1, .bool (tieGr n), .int (tieV n) t2] := ⟨_, hpa, rfl, _, rfl⟩
      obtain ⟨prsP, NP, KP7⟩ := pairs_news F10 hP7
      have N11 : News g L hh ((l0, lstObj (as7.map .ref) nl7) :: (I, io) :: (D6, lst (as.map Value.ref)) :: (x8, instObj 184 d8) :: (d8, dictOf [⟨hs8, .str (Str.ofString "_headers") tk8, .ref l0⟩] n8) :: (L + 1 + 1 + 1, co3) :: (L + 1 + 1, co2) :: (L + 1, co1) :: (prsT ++ prsP)) := News.cons (News.app N10 NP) hl0 el9.2.1 el9.2.2
      clear N10 F9 N9 N9' NP
      have hl2 := nm_len n
      have hnm := tieT_nm n
      have hi6 : i < 6 := by
        have := (List.getElem?_eq_some_iff.mp hn).1
        omega
      (repeat' ((fail_if_success (with_reducible show wpAny _ _ (exec (Stmt.For _ _ _ _ _) _) _ _ _)); (fail_if_success (with_reducible show wpAny _ _ (eval (Expr.ListComp _ _ _ _) _) _ _ _)); (fail_if_success (with_reducible show wpAny _ _ (exec (Stmt.Assign _ (Expr.ListComp _ _ _ _) _) _) _ _ _)); (fail_if_success (with_reducible show wpAny _ _ (call (Value.type "enumerate") _) _ _ _)); (fail_if_success (with_reducible show wpAny _ _ (pyIter _) _ _ _)); (first | (k_unfold; (try dsimp only)) | walk1 | (dsimp only; walk1))))
      all_goals
        first
          | (rename tieGr n = true => hgr; rw [show Txt.upper (tieNm n) = (tieT n).P.1 from by rw [hnm, hgr]; rfl])
          | (rename tieGr n = false => hgr; rw [show Value.str (tieNm n) t1 = Value.str (tieT n).P.1 t1 from by rw [hnm, hgr]; rfl])
        rename Fr g L _ _ => F12
        rename News g L _ _ => N12
        have ex12 := N12 _ (.tail _ (.tail _ (.tail _ (.head _))))
        have ed12 := N12 _ (.tail _ (.tail _ (.tail _ (.tail _ (.head _)))))
        have el12 := N12 _ (.head _)
        have hln2 := layAll_length ((ns.map tieT).take i)
        rw [List.length_take, List.length_map] at hln2
        refine lay_spec (ps := layAll ((ns.map tieT).take i)) (G.keep F12.keep) (R.le (by decide)) ⟨_, _, _, _, inst_of ex12.1 ed12.1⟩ el12.1 hGl (KP7 _ F12.keep (fun p hp => N12 p (.tail _ (.tail _ (.tail _ (.tail _ (.tail _ (.tail _ (.tail _ (.tail _ (List.mem_append_right _ hp))))))))))) (nm_ok (tieT_lt n).1 (tieT_lt n).2) (tieV_sm n) (fun p hp => ⟨layAll_name _ p hp, lays_sm (by omega) i p hp⟩) (by rw [sizeLine_eq]; omega) ?_
        intro as19 nl19 h19 tk19 sb19 e19 P19
        dsimp only at sb19
        have N13 := News.sub (b := (I, io) :: (D6, lst (as.map Value.ref)) :: (x8, instObj 184 d8) :: (d8, dictOf [⟨hs8, .str (Str.ofString "_headers") tk8, .ref l0⟩] n8) :: (L + 1 + 1 + 1, co3) :: (L + 1 + 1, co2) :: (L + 1, co1) :: prsT) N12 (fun p hp => by
          simp only [List.mem_cons] at hp
          simp only [List.mem_cons, List.mem_append]
          rcases hp with hp | hp | hp | hp | hp | hp | hp | hp
          · exact .inr (.inl hp)
          · exact .inr (.inr (.inl hp))
          · exact .inr (.inr (.inr (.inl hp)))
          · exact .inr (.inr (.inr (.inr (.inl hp))))
          · exact .inr (.inr (.inr (.inr (.inr (.inl hp)))))
          · exact .inr (.inr (.inr (.inr (.inr (.inr (.inl hp))))))
          · exact .inr (.inr (.inr (.inr (.inr (.inr (.inr (.inl hp)))))))
          · exact .inr (.inr (.inr (.inr (.inr (.inr (.inr (.inr (.inl hp)))))))))
        have hne : ∀ p ∈ (I, io) :: (D6, lst (as.map Value.ref)) :: (x8, instObj 184 d8) :: (d8, dictOf [⟨hs8, .str (Str.ofString "_headers") tk8, .ref l0⟩] n8) :: (L + 1 + 1 + 1, co3) :: (L + 1 + 1, co2) :: (L + 1, co1) :: prsT, p.1 ∉ [l0] := by
          intro p hp q
          have q := List.mem_singleton.mp q
          have e := (N13 p hp).1
          rw [q, el12.1] at e
          have e : lstObj (as7.map .ref) nl7 = p.2 := Option.some.inj e
          simp only [List.mem_cons] at hp
          rcases hp with rfl | rfl | rfl | rfl | rfl | rfl | rfl | hp
          · dsimp only at e; rw [← e] at hio; exact absurd hio (by simp)
          · exact absurd q (Nat.ne_of_lt lt7.1)
          · exact nex q
          · exact ned q
          · dsimp only at e; rw [← e] at hco3; cases hco3
          · dsimp only at e; rw [← e] at hco2; cases hco2
          · dsimp only at e; rw [← e] at hco1; cases hco1
          · obtain ⟨vs, nn, ee⟩ := HT p hp
            rw [ee] at e
            have := congrArg Obj.cls e
            exact absurd this (by simp)
        have F19 := Fr.onBut F12 (adr := [l0]) (fun a ha => by rw [List.mem_singleton.mp ha]; exact ⟨el9.2.1, el9.2.2⟩) sb19
        have N19 : News g L h19 ((I, io) :: (D6, lst (as.map Value.ref)) :: (x8, instObj 184 d8) :: (d8, dictOf [⟨hs8, .str (Str.ofString "_headers") tk8, .ref l0⟩] n8) :: (L + 1 + 1 + 1, co3) :: (L + 1 + 1, co2) :: (L + 1, co1) :: prsT) := News.onBut N13 hne sb19
        clear F12 N12 N13
        show wpAny _ _ _ _ _ _
        (repeat' ((fail_if_success (with_reducible show wpAny _ _ (exec (Stmt.For _ _ _ _ _) _) _ _ _)); (fail_if_success (with_reducible show wpAny _ _ (eval (Expr.ListComp _ _ _ _) _) _ _ _)); (fail_if_success (with_reducible show wpAny _ _ (exec (Stmt.Assign _ (Expr.ListComp _ _ _ _) _) _) _ _ _)); (fail_if_success (with_reducible show wpAny _ _ (call (Value.type "enumerate") _) _ _ _)); (fail_if_success (with_reducible show wpAny _ _ (pyIter _) _ _ _)); (first | (k_unfold; (try dsimp only)) | walk1 | (dsimp only; walk1))))
        exact ⟨_, _, _, rfl, F19, N19, _, _, _, as19, nl19, names_ext laL (by (((repeat (refine And.intro rfl ?_)); exact trivial))) (by ((intro y hy; (simp only [List.contains_cons, List.contains_nil, Bool.or_false, Bool.or_eq_false_iff, beq_eq_false_iff_ne, ne_eq] at hy); simp [hy, lookup_ne, lookup_no]))), e19, by rw [layAll_step (q := tieT n) (by rw [List.getElem?_map, hn]; rfl)]; exact P19⟩
    case done =>
      rintro m₁ hh tk ⟨u1, u2, u3, as7, nl7, rfl, hl0, hP7⟩ F10 N10
      rw [List.take_of_length_le (by rw [List.length_map, List.length_map, hlen9]; exact Nat.le_refl _)] at hP7
      obtain ⟨prsP, NP, KP7⟩ := pairs_news F10 hP7
      have N11 : News g L hh ((l0, lstObj (as7.map .ref) nl7) :: (D6, lst (as.map Value.ref)) :: (x8, instObj 184 d8) :: (d8, dictOf [⟨hs8, .str (Str.ofString "_headers") tk8, .ref l0⟩] n8) :: (L + 1 + 1 + 1, co3) :: (L + 1 + 1, co2) :: (L + 1, co1) :: (prsT ++ prsP)) := News.cons (News.app N10 NP) hl0 el9.2.1 el9.2.2
      clear N10 F9 N9 N9' NP
      (repeat' ((fail_if_success (with_reducible show wpAny _ _ (exec (Stmt.For _ _ _ _ _) _) _ _ _)); (fail_if_success (with_reducible show wpAny _ _ (eval (Expr.ListComp _ _ _ _) _) _ _ _)); (fail_if_success (with_reducible show wpAny _ _ (exec (Stmt.Assign _ (Expr.ListComp _ _ _ _) _) _) _ _ _)); (fail_if_success (with_reducible show wpAny _ _ (call (Value.type "enumerate") _) _ _ _)); (fail_if_success (with_reducible show wpAny _ _ (pyIter _) _ _ _)); (first | (k_unfold; (try dsimp only)) | walk1 | (dsimp only; walk1))))
      dsimp only
      rename Fr g L _ _ => F11
      rename News g L _ _ => N12
      have ex12 := N12 _ (.tail _ (.tail _ (.head _)))
      have ed12 := N12 _ (.tail _ (.tail _ (.tail _ (.head _))))
      have el12 := N12 _ (.head _)
      have P12 := KP7 _ F11.keep (fun p hp => N12 p (.tail _ (.tail _ (.tail _ (.tail _ (.tail _ (.tail _ (.tail _ (List.mem_append_right _ hp)))))))))
      rw [layAll_P (lays_lt ns)] at P12
      have hl12 := P12.length
      rw [txs, List.length_map, List.length_map] at hl12
      have hl12' : (layAllT (ns.map tieT)).length ≤ 6 := L6.len
      refine items_spec (as := as7) (G.keep F11.keep) (R.le (by decide)) ⟨_, _, _, _, inst_of ex12.1 ed12.1⟩ ⟨_, el12.1⟩ (by rw [sizeLine_eq]; omega) ?_
      intro l21 h21 tk21 st21 nl21 HL21
      have P21 := P12.on st21
      have F21 := Fr.on F11 st21
      have N21 : News g L h21 ((L + 1 + 1, co2) :: (D6, lst (as.map Value.ref)) :: (L + 1 + 1 + 1, co3) :: prsT) := by
        refine News.on (News.sub N12 (fun p hp => ?_)) st21
        simp only [List.mem_cons] at hp
        simp only [List.mem_cons, List.mem_append]
        rcases hp with hp | hp | hp | hp
        · exact .inr (.inr (.inr (.inr (.inr (.inl hp)))))
        · exact .inr (.inl hp)
        · exact .inr (.inr (.inr (.inr (.inl hp))))
        · exact .inr (.inr (.inr (.inr (.inr (.inr (.inr (.inl hp)))))))
      clear F11 N12
      show wpAny _ _ _ _ _ _
      (repeat' ((fail_if_success (with_reducible show wpAny _ _ (exec (Stmt.For _ _ _ _ _) _) _ _ _)); (fail_if_success (with_reducible show wpAny _ _ (eval (Expr.ListComp _ _ _ _) _) _ _ _)); (fail_if_success (with_reducible show wpAny _ _ (exec (Stmt.Assign _ (Expr.ListComp _ _ _ _) _) _) _ _ _)); (fail_if_success (with_reducible show wpAny _ _ (call (Value.type "enumerate") _) _ _ _)); (fail_if_success (with_reducible show wpAny _ _ (pyIter _) _ _ _)); (first | (k_unfold; (try dsimp only)) | walk1 | (dsimp only; walk1))))
      refine tally_spec 6 (by decide) (G.keep F21.keep) (R.le (by decide)) HL21 P21 L6.lt L6.len L6.wt ?_
      intro d22 h22 tk22 st22 nd22 C22
      obtain ⟨kv22, D22, C22⟩ := C22
      obtain ⟨o22, ho22, hi22⟩ := Heap.dictOf_iff.mp D22
      have hd22 := new_base F21 nd22
      have lo22 : (d22 == sysModules) = false := lo_new G hd22
      have hnd : ∀ b o, h21.get? b = some o → d22 ≠ b := fun b o e q => by rw [← q] at e; have e' : h21.get? d22 = none := nd22; rw [e'] at e; cases e
      have hdL := new_ne F21 nd22
      have e21 := N21 _ (.head _)
      have e21b := N21 _ (.tail _ (.tail _ (.head _)))
      have N22 : News g L h22 ((L + 1 + 1, co2) :: (d22, o22) :: (D6, lst (as.map Value.ref)) :: (L + 1 + 1 + 1, co3) :: prsT) := by
        intro p hp
        rcases List.mem_cons.mp hp with rfl | hp
        · exact News.on N21 st22 _ (.head _)
        rcases List.mem_cons.mp hp with rfl | hp
        · exact ⟨ho22, hdL, hd22⟩
        · exact News.on N21 st22 p (.tail _ hp)
      have F22 := Fr.on F21 st22
      have tupNe : ∀ (c : Addr) (oc : Obj) (x : Option Value), h21.get? c = some oc → oc.data = .cell x → ∀ p ∈ prsT, p.1 ≠ c := by
        intro c oc x hc hx p hp q
        have e := (N21 p (.tail _ (.tail _ (.tail _ hp)))).1
        obtain ⟨vs, nn, ee⟩ := HT p hp
        rw [q, hc, ee] at e
        have e : oc = tupObj vs nn := Option.some.inj e
        rw [e] at hx; cases hx
      clear F21
      show wpAny _ _ _ _ _ _
      have hne2 : ∀ p ∈ (d22, o22) :: (D6, lst (as.map Value.ref)) :: (L + 1 + 1 + 1, co3) :: prsT, p.1 ≠ L + 1 + 1 := by
        intro p hp
        rcases List.mem_cons.mp hp with rfl | hp
        · exact hnd _ _ e21.1
        rcases List.mem_cons.mp hp with rfl | hp
        · intro q
          have e := (N21 _ (.tail _ (.head _))).1
          dsimp only at e q
          rw [q, e21.1] at e
          have e : co2 = lst (as.map Value.ref) := Option.some.inj e
          rw [e] at hco2; cases hco2
        rcases List.mem_cons.mp hp with rfl | hp
        · exact Nat.ne_of_gt (Nat.lt_succ_self _)
        · exact tupNe _ _ _ e21.1 hco2 p hp
      refine storeX_C F22 N22 rfl (UpdF.head hne2) hco2 ?_ rfl rfl
      intro h24 o24 F24 N24 hd24
      refine law_B ho G R (mr := fun y => if y = Str.ofString "v" then u1 else if y = Str.ofString "great" then u2 else if y = Str.ofString "name" then u3 else if y = Str.ofString "table" then some (.ref x8) else if y = Str.ofString "ties" then some (.ref D6) else mr y) (tL := D6) (tas := as) (ns := ns) (nt := (as.map Value.ref).length) (prs := (d22, o22) :: prsT) (co := o24) (cs := cntsT ns) ?bF ?bN ?bp hco3 hd24 lo22 ?bK (by omega) L6.b L6.b2 L6.es L6.bS L6.bD L6.cs L6.cl L6.c4 L6.C ?bh
      case bF =>
        have e : (fun y => if y = Str.ofString "v" then u1 else if y = Str.ofString "great" then u2 else if y = Str.ofString "name" then u3 else if y = Str.ofString "table" then some (Value.ref x8) else if y = Str.ofString "ties" then some (Value.ref D6) else mr y) = fun y => if y = Str.ofString "ties" then some (Value.ref D6) else if y = Str.ofString "v" then u1 else if y = Str.ofString "great" then u2 else if y = Str.ofString "name" then u3 else if y = Str.ofString "table" then some (Value.ref x8) else if y = Str.ofString "ties" then some (Value.ref D6) else mr y := by
          funext y
          by_cases q : y = Str.ofString "ties"
          · rw [if_pos q, q]; rfl
          · rw [if_neg q, if_neg q]
        rw [e] at F24
        exact F24
      case bN =>
        intro p hp
        simp only [List.mem_cons] at hp
        rcases hp with rfl | rfl | rfl | hp
        · exact N24 _ (.tail _ (.tail _ (.tail _ (.head _))))
        · exact N24 _ (.tail _ (.tail _ (.head _)))
        · exact N24 _ (.head _)
        · rcases hp with rfl | hp
          · exact N24 _ (.tail _ (.head _))
          · exact N24 _ (.tail _ (.tail _ (.tail _ (.tail _ hp))))
      case bp =>
        intro p hp
        rcases List.mem_cons.mp hp with rfl | hp
        · exact hnd _ _ e21b.1
        · exact tupNe _ _ _ e21b.1 hco3 p hp
      case bK =>
        intro h' st M
        exact ⟨KT h' st fun p hp => M p (.tail _ hp), kv22, Heap.dictOf_iff.mpr ⟨o22, (M _ (.head _)).1, hi22⟩, C22⟩
      case bh =>
        intro h' tk st
        rw [L6.one]
        exact h h' tk st
end
section
set_option maxRecDepth 100000 in
set_option maxHeartbeats 4000000 in
theorem whole : PySem.Challenge.rw_qj0003_01.Holds := by
  refine hd ?_
  k_go0
  rename Frag.In _ _ => KX
  rename Top _ _ _ _ _ _ => T
  rename IntsAre _ _ => hI
  rename Heap.IsList _ _ _ => hL
  rename Fr _ _ _ _ => F
  rename News _ _ _ _ => N0
  rename ¬ (_ < _) => hc
  rename Shared.gens _ = #[] => hg
  rename_i c3 c2 c1 h1 h2 h3 X0
  refine wpAny_mono (law_A (Q := fun f s' => f = .ret (.bool true) ∧ (∀ b o, Heap.get? _ b = some o → s'.heap.get? b = some o) ∧ s'.os = _ ∧ s'.gens = #[]) (by k_is) (Ok.mk KX T (fun _ _ e => e)) (Room.deeper (A := callerA) ⟨rfl, by decide, by decide, rfl⟩) F N0 h3 h2 h1 hL hI (by omega) (fun h' tk st => ⟨rfl, st, rfl, hg⟩)) ?m1 (fun _ _ x => x.elim)
  rintro f s' ⟨rfl, k1, k2, k3⟩
  refine ⟨.inl ⟨.bool true, .bool true, [], rfl, raisesW_false ?kra, .bool true, ?krb, fun _ => ⟨.nil, fun a ha => absurd ha List.not_mem_nil⟩⟩, k1, k2, k3⟩
  case kra => wrow_none_raised
  case krb => wrow_post
end
end Mine
theorem PySem.Challenge.cw_qj0003_01_holds : PySem.Challenge.rw_qj0003_01.Holds := by
  exact Mine.whole
