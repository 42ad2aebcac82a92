import PyProof.Rows.All
import Wide.All
import OpenK.AllK
import Wide.FinOn
import Lean
import PySem.Challenge.RW_bq0010_01
set_option Elab.async false

section
open PySem PySem.W PyProof.Rows
set_option maxRecDepth 100000
set_option maxHeartbeats 8000000
namespace Mine
open_top hd for PySem.Challenge.rw_bq0010_01
end Mine
end

section
open PySem PySem.W PySem.Calls PySem.Spec PyProof.Rows
set_option maxRecDepth 100000
namespace Mine

/-- a mark in the context: the law's last part -/
structure TailMark : Prop where
/-- a halt for the walk -/
@[irreducible] def Stop (P : Prop) : Prop := P
theorem Stop.of {P : Prop} (h : Stop P) : P := by unfold Stop at h; exact h
theorem Stop.rev {P : Prop} (h : Stop P) : P := by unfold Stop at h; exact h
theorem Stop.out {P : Prop} (h : P) : Stop P := by unfold Stop; exact h

/-- the ledger, some entries left out -/
theorem newsSub {h₀ h : Heap} {L : Addr} {a b : List (Addr × Obj)} (N : News h₀ L h a) (hs : ∀ p ∈ b, p ∈ a) : News h₀ L h b := fun p hp => N p (hs p hp)

section
variable {prog : Program} {w : World} {A : Around} {E : Value → Shared → Prop} {s : Shared} {env : Env} {h₀ : Heap} {x : PySem.Str} {body : List Stmt} {Q : Flow → Shared → Prop} {b : Array UInt8} {tb : Tok}

/-- «for c in iter(data)» over bytes: a state of any kind that is turned by g, and the number of turns made so far -/
theorem iterB {σ : Type} {m₀ : PySem.Str → Option Value} {news : List (Addr × Obj)} (R : Nat → σ → (PySem.Str → Option Value) → List (Addr × Obj) → Prop) (g : σ → Int → σ) (c₀ : σ)
    (hh : A.handled = none) (F : Fr h₀ env.locals s.heap m₀) (N : News h₀ env.locals s.heap news) (hR : R 0 c₀ m₀ news)
    (turn : ∀ i k t q m₁ nx h tk own, i < b.size → 0 ≤ k → k < 256 → OwnOff own (news.map (·.1)) → R i q m₁ nx → Fr h₀ env.locals h (fun y => if y = x then some (.int k t) else m₁ y) → News h₀ env.locals h (nx ++ own) →
      wpAny (model prog w) A (execs body env) (InvPostN h₀ env.locals (R (i + 1) (g q k)) own (news.map (·.1)) { s with heap := h, toks := tk } Q) E { s with heap := h, toks := tk })
    (done : ∀ m₁ nx h tk, R b.size ((KBw.bInts b).foldl g c₀) m₁ nx → Fr h₀ env.locals h m₁ → News h₀ env.locals h nx → Q .next { s with heap := h, toks := tk }) :
    wpAny (model prog w) A (call (.builtin "iter") [.bytes b tb]) (fun xv s₁ => wpAny (model prog w) A (pyIter xv) (fun it s₂ => LoopAtV prog w A h₀ env x body Q E it s₂) E s₁) E s := by
  refine call_function_entry (by decide +kernel) (by decide +kernel) kdk_entry_iter (kdk_args_iter _) ?_
  unfold Builtin.«iter»
  refine wpAny_bind (m := someArgs "iter" 1 2 _) (wpAny_of_eq (a := [Value.bytes b tb]) (by first | rfl | kernel_rfl!) ?_)
  show wpAny _ _ (pyIter (.bytes b tb) >>= _) _ _ _
  refine wpAny_bind (KBw.pyIter_bytes (wpAny_pure ⟨_, rfl, ?_⟩))
  have hI : KBw.IsBytesIter (s.heap.push { cls := .type "bytes_iterator", data := .fields #[.bytes b tb, .int 0 0] }) s.heap.objs.size b tb 0 := ⟨_, Heap.get?_push_size _ rfl, rfl, rfl⟩
  refine KBw.pyIter_self (i := 0) hI ?_
  have hnew : ∀ p ∈ news, p.1 ∉ [s.heap.objs.size] := fun p hp hm => absurd (Heap.lt_size (N p hp).1) ((List.mem_singleton.mp hm) ▸ Nat.lt_irrefl _)
  refine loop_invN (fun i m nx => R i (((KBw.bInts b).take i).foldl g c₀) m nx) (KBw.walks hh s.heap.objs.size b tb) (fun hm => absurd F.ns.lt ((List.mem_singleton.mp hm) ▸ Nat.lt_irrefl _))
    (fun c hc => by rw [List.mem_singleton.mp hc]; exact next_is_new F) hnew hnew hI (F.push _) (fun p hp => ⟨Heap.get?_push_of_some _ (N p hp).1, (N p hp).2⟩) (by simpa using hR) ?_ ?_
  · rintro i v m₁ nx h tk own hi ⟨n, u, hn, rfl⟩ _ hoff hq F₁ N₁
    have hn' := KBw.ints_get hn
    have hb := KBw.ints_in (List.mem_of_getElem? hn')
    have hs : ((KBw.bInts b).take (i + 1)).foldl g c₀ = g (((KBw.bInts b).take i).foldl g c₀) (n.toNat : Int) := by
      rw [List.take_add_one, hn']; simp
    rw [hs]
    exact turn i _ u _ m₁ nx h tk own hi hb.1 hb.2 hoff hq F₁ N₁
  · intro m₁ nx h tk hq F₁ N₁
    have hz : (KBw.bInts b).take b.size = KBw.bInts b := List.take_of_length_le (Nat.le_of_eq (KBw.ints_length b))
    rw [hz] at hq
    exact done m₁ nx h tk hq F₁ N₁
end

section
variable {prog : Program} {w : World} {A : Around} {E : Value → Shared → Prop} {s : Shared} {h₀ : Heap} {L l : Addr} {m : PySem.Str → Option Value} {news : List (Addr × Obj)}
/-- list(xs) of a list of 256 ints -/
theorem listCopy {vs : List Value} {S : List Int} {c : Nat} {Q : Value → Shared → Prop} (F : Fr h₀ L s.heap m) (N : News h₀ L s.heap news) (hm : (l, listOf vs.toArray c) ∈ news) (hi : IntsAre vs S) (hlen : S.length = 256)
    (h : ∀ D c' h', Fr h₀ L h' m → News h₀ L h' ((D, listOf vs.toArray c') :: news) → (∀ q ∈ news, q.1 < D) → Q (.ref D) { s with heap := h' }) :
    wpAny (model prog w) A (call (.type "list") [.ref l]) Q E s :=
  list_copyK F N (N.isList hm) h (by rw [List.size_toArray, hi.length, hlen, sizeLine_eq]; exact Nat.le_of_ble_eq_true rfl)

/-- «for c in data» over bytes, as iterB -/
theorem iterY {env : Env} {x : PySem.Str} {body : List Stmt} {Q : Flow → Shared → Prop} {b : Array UInt8} {tb : Tok} {σ : Type} {m₀ : PySem.Str → Option Value} {news : List (Addr × Obj)} (R : Nat → σ → (PySem.Str → Option Value) → List (Addr × Obj) → Prop) (g : σ → Int → σ) (c₀ : σ)
    (hh : A.handled = none) (F : Fr h₀ env.locals s.heap m₀) (N : News h₀ env.locals s.heap news) (hR : R 0 c₀ m₀ news)
    (turn : ∀ i k t q m₁ nx h tk own, i < b.size → 0 ≤ k → k < 256 → OwnOff own (news.map (·.1)) → R i q m₁ nx → Fr h₀ env.locals h (fun y => if y = x then some (.int k t) else m₁ y) → News h₀ env.locals h (nx ++ own) →
      wpAny (model prog w) A (execs body env) (InvPostN h₀ env.locals (R (i + 1) (g q k)) own (news.map (·.1)) { s with heap := h, toks := tk } Q) E { s with heap := h, toks := tk })
    (done : ∀ m₁ nx h tk, R b.size ((KBw.bInts b).foldl g c₀) m₁ nx → Fr h₀ env.locals h m₁ → News h₀ env.locals h nx → Q .next { s with heap := h, toks := tk }) :
    wpAny (model prog w) A (pyIter (.bytes b tb)) (fun it s₂ => LoopAtV prog w A h₀ env x body Q E it s₂) E s := by
  refine KBw.pyIter_bytes ?_
  have hI : KBw.IsBytesIter (s.heap.push { cls := .type "bytes_iterator", data := .fields #[.bytes b tb, .int 0 0] }) s.heap.objs.size b tb 0 := ⟨_, Heap.get?_push_size _ rfl, rfl, rfl⟩
  have hnew : ∀ p ∈ news, p.1 ∉ [s.heap.objs.size] := fun p hp hm => absurd (Heap.lt_size (N p hp).1) ((List.mem_singleton.mp hm) ▸ Nat.lt_irrefl _)
  refine loop_invN (fun i m nx => R i (((KBw.bInts b).take i).foldl g c₀) m nx) (KBw.walks hh s.heap.objs.size b tb) (fun hm => absurd F.ns.lt ((List.mem_singleton.mp hm) ▸ Nat.lt_irrefl _))
    (fun c hc => by rw [List.mem_singleton.mp hc]; exact next_is_new F) hnew hnew hI (F.push _) (fun p hp => ⟨Heap.get?_push_of_some _ (N p hp).1, (N p hp).2⟩) (by simpa using hR) ?_ ?_
  · rintro i v m₁ nx h tk own hi ⟨n, u, hn, rfl⟩ _ hoff hq F₁ N₁
    have hn' := KBw.ints_get hn
    have hb := KBw.ints_in (List.mem_of_getElem? hn')
    have hs : ((KBw.bInts b).take (i + 1)).foldl g c₀ = g (((KBw.bInts b).take i).foldl g c₀) (n.toNat : Int) := by
      rw [List.take_add_one, hn']; simp
    rw [hs]
    exact turn i _ u _ m₁ nx h tk own hi hb.1 hb.2 hoff hq F₁ N₁
  · intro m₁ nx h tk hq F₁ N₁
    have hz : (KBw.bInts b).take b.size = KBw.bInts b := List.take_of_length_le (Nat.le_of_eq (KBw.ints_length b))
    rw [hz] at hq
    exact done m₁ nx h tk hq F₁ N₁

/-- a turn's end where the ledger may hold other objects than before -/
def EndZ (h₀ : Heap) (L : Addr) (J : (PySem.Str → Option Value) → List (Addr × Obj) → Prop) (own : List (Addr × Obj)) (s₁ s₂ : Shared) : Prop :=
  ∃ h' tk m' nx, s₂ = { s₁ with heap := h', toks := tk } ∧ Fr h₀ L h' m' ∧ News h₀ L h' (own ++ nx) ∧ (∀ p ∈ nx, ∀ q ∈ own, p.1 ≠ q.1) ∧ J m' nx
def PostZ (h₀ : Heap) (L : Addr) (J : (PySem.Str → Option Value) → List (Addr × Obj) → Prop) (own : List (Addr × Obj)) (s₁ : Shared) (Q : Flow → Shared → Prop) (f : Flow) (s₂ : Shared) : Prop :=
  match f with
  | .ret v => Q (.ret v) s₂
  | .brk => Q .next s₂
  | _ => EndZ h₀ L J own s₁ s₂

/-- «for c in data» over bytes, the ledger's objects new at each turn -/
theorem iterZ {env : Env} {x : PySem.Str} {body : List Stmt} {Q : Flow → Shared → Prop} {b : Array UInt8} {tb : Tok} {σ : Type} {m₀ : PySem.Str → Option Value} {news : List (Addr × Obj)} (R : Nat → σ → (PySem.Str → Option Value) → List (Addr × Obj) → Prop) (g : σ → Int → σ) (c₀ : σ)
    (hh : A.handled = none) (F : Fr h₀ env.locals s.heap m₀) (N : News h₀ env.locals s.heap news) (hR : R 0 c₀ m₀ news)
    (turn : ∀ i k t q m₁ nx h tk own, i < b.size → 0 ≤ k → k < 256 → (∀ p ∈ nx, ∀ q ∈ own, p.1 ≠ q.1) → R i q m₁ nx → Fr h₀ env.locals h (fun y => if y = x then some (.int k t) else m₁ y) → News h₀ env.locals h (own ++ nx) →
      wpAny (model prog w) A (execs body env) (PostZ h₀ env.locals (R (i + 1) (g q k)) own { s with heap := h, toks := tk } Q) E { s with heap := h, toks := tk })
    (done : ∀ m₁ nx h tk, R b.size ((KBw.bInts b).foldl g c₀) m₁ nx → Fr h₀ env.locals h m₁ → News h₀ env.locals h nx → Q .next { s with heap := h, toks := tk }) :
    wpAny (model prog w) A (pyIter (.bytes b tb)) (fun it s₂ => LoopAtV prog w A h₀ env x body Q E it s₂) E s := by
  refine KBw.pyIter_bytes ?_
  have hI : KBw.IsBytesIter (s.heap.push { cls := .type "bytes_iterator", data := .fields #[.bytes b tb, .int 0 0] }) s.heap.objs.size b tb 0 := ⟨_, Heap.get?_push_size _ rfl, rfl, rfl⟩
  have hnew : ∀ p ∈ news, p.1 ∉ [s.heap.objs.size] := fun p hp hm => absurd (Heap.lt_size (N p hp).1) ((List.mem_singleton.mp hm) ▸ Nat.lt_irrefl _)
  have hn0 : h₀.get? s.heap.objs.size = none := next_is_new F
  refine ⟨s.heap.objs.size, [s.heap.objs.size], [s.heap.objs.size], b.size, _, _, m₀, news, fun i m nx => R i (((KBw.bInts b).take i).foldl g c₀) m nx, rfl, KBw.walks hh s.heap.objs.size b tb, (fun hm => absurd F.ns.lt ((List.mem_singleton.mp hm) ▸ Nat.lt_irrefl _)),
    (fun c hc => by rw [List.mem_singleton.mp hc]; exact hn0), hnew, hI, F.push _, (fun p hp => ⟨Heap.get?_push_of_some _ (N p hp).1, (N p hp).2⟩), (by simpa using hR), ?_, ?_⟩
  · rintro i v m₁ nx s₁ own ⟨hh', tk', rfl⟩ hi ⟨n, u, hn, rfl⟩ hq hoff hown _ hall hst F₁ N₁
    have hn' := KBw.ints_get hn
    have hb := KBw.ints_in (List.mem_of_getElem? hn')
    have hs : ((KBw.bInts b).take (i + 1)).foldl g c₀ = g (((KBw.bInts b).take i).foldl g c₀) (n.toNat : Int) := by
      rw [List.take_add_one, hn']; simp
    obtain ⟨oI, hoI, _⟩ := id hst
    have hIown := hall s.heap.objs.size (.head _) hn0 oI hoI
    have hsep : ∀ p ∈ nx, ∀ q ∈ own, p.1 ≠ q.1 := fun p hp q hq' e => hoff p hp (e ▸ hown q hq')
    refine wpAny_mono (turn i _ u _ m₁ nx hh' tk' own hi hb.1 hb.2 hsep hq F₁ N₁) (fun f s₂ p => ?_) fun _ _ e => e
    have fin : EndZ h₀ env.locals (R (i + 1) (g (((KBw.bInts b).take i).foldl g c₀) (n.toNat : Int))) own { s with heap := hh', toks := tk' } s₂ →
        LoopStepU h₀ env.locals [s.heap.objs.size] own (fun m nx => R (i + 1) (((KBw.bInts b).take (i + 1)).foldl g c₀) m nx) { s with heap := hh', toks := tk' } .next s₂ := by
      rintro ⟨h', tk, m', nx', e, F', N', ho, hJ⟩
      refine ⟨rfl, h', tk, m', nx', e, F', N', fun p hp hq' => ho p hp _ hIown (List.mem_singleton.mp hq'), ?_⟩
      rw [hs]
      exact hJ
    cases f with
    | ret v => exact .ret p
    | brk => exact .brk p
    | next => exact .next (fin p)
    | cont => exact .cont (fin p)
  · intro h' tk m' nx F' N' _ hq
    have hz : (KBw.bInts b).take b.size = KBw.bInts b := List.take_of_length_le (Nat.le_of_eq (KBw.ints_length b))
    rw [hz] at hq
    exact done m' nx h' tk hq F' N'
end
end Mine
namespace Mine
theorem keep4 {h₀ h : Heap} {L : Addr} {p1 p2 p3 p4 p5 p6 x d l p7 p8 e : Addr × Obj} (N : News h₀ L h [p1, p2, p3, p4, p5, p6, x, d, l, p7, p8, e]) : News h₀ L h [x, d, l, e] := newsSub N fun p hp => by
  simp only [List.mem_cons, List.not_mem_nil, or_false] at hp ⊢
  rcases hp with h | h | h | h <;> simp [h]
end Mine
end

section
open PySem PySem.W PySem.Calls PySem.Spec PyProof.Rows
set_option maxRecDepth 100000
namespace Mine
section
variable {prog : Program} {w : World} {A : Around} {E : Value → Shared → Prop} {s : Shared}
/-- what a run of bytes.__new__ has to come to -/
def BytesEnd (prog : Program) (w : World) (A : Around) (Q : Value → Shared → Prop) (E : Value → Shared → Prop) : PySem.Fin → Shared → Prop
  | .done r, s => wants (fun o s₁ => s₁.TypeIs o "bytes" ∧ Q o s₁) E (.ok r) s
  | .again c, s => c.quiet = true ∧ codeAny (model prog w) A.in1 c (wants (fun o s₁ => s₁.TypeIs o "bytes" ∧ Q o s₁) E) s
/-- a call bytes(x) is a run of bytes.__new__ -/
theorem bytesRun {x : Value} {Q : Value → Shared → Prop}
    (h : wpAny (model prog w) A.in1.in1 (Builtin.«bytes.__new__» ⟨[.type "bytes", x], []⟩) (BytesEnd prog w A Q E) (fun e s₁ => wants (fun o s₂ => s₂.TypeIs o "bytes" ∧ Q o s₂) E (.error e) s₁) s) :
    wpAny (model prog w) A (call (.type "bytes") [x]) Q E s := by
  have hrun : codeAny (model prog w) A.in1 (Code.call (.builtin "bytes.__new__") ⟨[.type "bytes", x], []⟩) (wants (fun o s₁ => s₁.TypeIs o "bytes" ∧ Q o s₁) E) s := by
    apply codeAny_of_tree
    have hb : codeAny (model prog w) A.in1 (.builtin "bytes.__new__" ⟨[.type "bytes", x], []⟩) (wants (fun o s₁ => s₁.TypeIs o "bytes" ∧ Q o s₁) E) s :=
      codeAny_builtin F.bm_entry (by rw [Around.under_plainId F.bm_plain _]; exact wpAny_mono h (fun r _ hr => by cases r <;> exact hr) fun _ _ he => he)
    exact wpAny_bind (wpAny_of_eq (F.bm_newCall x) (wpAny_pure ⟨plainId_quiet F.bm_plain _, hb⟩))
  refine callType_codes F.bm_called (F.bm_typeCall x) F.entry_object_init hrun fun o s₁ ho => ⟨ho.1, F.args_object_init_2 o _, ?_⟩
  exact object_init_meets F.bm_called.init.lookup F.bm_called.made (by decide) prog w A.in1 _ s₁ ⟨ho.1, rfl, ho.2⟩
theorem tNoBytes : typeLookup (.type "tuple") "__bytes__" = pure none := by rw [typeLookup_type, builtinLookup_eq_fast]; kernel_rfl
theorem tNoIndex : typeLookup (.type "tuple") "__index__" = pure none := by rw [typeLookup_type, builtinLookup_eq_fast]; kernel_rfl
theorem tNoBuffer : typeLookup (.type "tuple") "__buffer__" = pure none := by rw [typeLookup_type, builtinLookup_eq_fast]; kernel_rfl
theorem iNoBytes : typeLookup (.type "int") "__bytes__" = pure none := by rw [typeLookup_type, builtinLookup_eq_fast]; kernel_rfl
theorem iIndex : typeLookup (.type "int") "__index__" = pure (some (.builtin "int.__index__")) := by rw [typeLookup_type, builtinLookup_eq_fast]; kernel_rfl
/-- bytes(n) -/
theorem bytesCount {n : Int} {t : Tok} {Q : Value → Shared → Prop} (h0 : 0 ≤ n) (h1 : n ≤ 1000)
    (hQ : ∀ t' k, Q (.bytes (Array.replicate n.toNat 0) t') { s with toks := k }) : wpAny (model prog w) A (call (.type "bytes") [.int n t]) Q E s := by
  refine bytesRun ?_
  have hT : s.TypeIs (.int n t) "int" := typeIs_int _ _ _
  have hz : (Array.replicate n.toNat (0 : UInt8)).size ≤ sizeLine := by rw [Array.size_replicate, sizeLine_eq]; omega
  have hfit : (!Builtin.Bytes.fitsIndex n) = false := by unfold Builtin.Bytes.fitsIndex; simp only [Bool.not_eq_false', Bool.and_eq_true, decide_eq_true_eq]; omega
  have hlong : Builtin.Bytes.tooLong n.toNat = false := by unfold Builtin.Bytes.tooLong; simp only [decide_eq_false_iff_not, sizeLine_eq]; omega
  unfold Builtin.«bytes.__new__»
  repeat first
    | dsimp only
    | rw [if_neg (show ¬ n < 0 by omega)]
    | rw [if_neg (show ¬ n > 2 ^ 63 - 34 by omega)]
    | refine bm_if_false (by first | rfl | assumption) ?_
    | refine wpAny_bind (wpAny_of_eq (by first | exact F.bm_sub | exact F.bm_bind _ | exact (rfl : _ = pure true) | exact (rfl : _ = pure false) | exact (rfl : _ = pure ())) ?_)
    | refine wpAny_bind (wpAny_specialOf hT iNoBytes ?_)
    | refine wpAny_bind (wpAny_specialOf hT iIndex ?_)
    | refine wpAny_bind (wpAny_attempt (wpAny_of_eq (rfl : asIndex (.int n t) = pure n) ?_))
    | refine wpAny_bind (wpAny_rule ?_)
    | refine wpAny_bind (wpAny_mkBytes ?_ hz)
  exact wpAny_of_eq rfl ⟨typeIs_bytes _ _ _, hQ _ _⟩
/-- a byte more onto a bytearray -/
theorem writeBa {S : Addr} {b : Array UInt8} {f : Array UInt8 → Array UInt8} {Q : Unit → Shared → Prop} (hS : s.heap.get? S = some { cls := .type "bytearray", data := .bytearray b }) (hz : (f b).size ≤ sizeLine)
    (h : ∀ h', h'.get? S = some { cls := .type "bytearray", data := .bytearray (f b) } → Heap.SameBut S s.heap h' → Q () { s with heap := h' }) :
    wpAny (model prog w) A (Builtin.Bytes.write (.ref S) f) Q E s := by
  have e : (s.heap.update S (Obj.mapBytearray f)).get? S = some { cls := .type "bytearray", data := .bytearray (f b) } := Heap.get?_update_self _ hS rfl
  have hp : (Data.bytearray (f b)).pastItsLine = none := if_neg (Nat.not_lt.mpr hz)
  exact wpAny_bind (wpAny_load hS (wpAny_bind (wpAny_update hS (wpAny_lookBehind e hp (h _ e (Heap.SameBut.update ..))))))
/-- both turns of the loop over a tuple of one int: the int is taken; the tuple has ended -/
theorem oneTurns {R : Result → Shared → Prop} {l I S : Addr} {n : Int} {t : Tok} (hh : A.handled = none) (hIS : S ≠ I) (hlI : l ≠ I) (hlS : l ≠ S)
    (hl : s.heap.IsTuple l #[.int n t]) (hit : s.heap.IsTupleIter I l 0) (h0 : 0 ≤ n) (h1 : n < 256) (hS : s.heap.get? S = some { cls := .type "bytearray", data := .bytearray #[] })
    (hR : ∀ h' t' k, (∀ a o, a ≠ I → a ≠ S → s.heap.get? a = some o → h'.get? a = some o) → R (.ok (.ret (.bytes #[n.toNat.toUInt8] t'))) { s with heap := h', toks := k }) :
    codeAny (model prog w) A (.builtin "bytes.__new__.loop" ⟨[.type "bytes", .ref I, .ref S], []⟩) R s := by
  have hin : (decide (n < 0) || decide (n ≥ 256)) = false := by simp only [Bool.or_eq_false_iff, decide_eq_false_iff_not]; omega
  have hline : (1 : Nat) ≤ sizeLine := by rw [sizeLine_eq]; omega
  refine codeAny_builtin F.bm_entry_loop ?_
  rw [Around.under_plainId F.bm_plain_loop _]
  unfold Builtin.«bytes.__new__.loop»
  dsimp only
  refine wpAny_bind (wpAny_pyNext_tuple_item hit hl (x := .int n t) rfl fun h₁ it₁ sb₁ => ?_)
  dsimp only
  refine wpAny_bind (wpAny_holding (wpAny_of_eq (a := n) rfl (wpAny_bind (wpAny_letGo ?_))))
  rw [hin]
  simp only [Bool.false_eq_true, if_false]
  refine wpAny_bind (writeBa ((sb₁.2 S hIS).trans hS) hline fun h₂ hS₂ sb₂ => ?_)
  refine wpAny_pure ⟨plainId_quiet F.bm_plain_loop _, ?_⟩
  have it₂ := it₁.extBut sb₂.extBut (Ne.symm hIS)
  have hl₂ := (hl.extBut sb₁.extBut hlI).extBut sb₂.extBut hlS
  refine codeAny_builtin F.bm_entry_loop ?_
  rw [Around.under_plainId F.bm_plain_loop _]
  unfold Builtin.«bytes.__new__.loop»
  dsimp only
  refine wpAny_bind (wpAny_pyNext_tuple_end hh it₂ hl₂ rfl fun h₃ he => ?_)
  dsimp only
  refine wpAny_bind (wpAny_bind (wpAny_bind (wpAny_load (he S _ hIS hS₂) (wpAny_pure (wpAny_pure ?_)))))
  refine wpAny_bind (wpAny_mkBytes ?_ hline)
  exact wpAny_of_eq rfl (hR h₃ _ _ fun a o hI hS' e => he a o hI (sb₂.extBut a o hS' (sb₁.extBut a o hI e)))
theorem tSplit : splitId "tuple.__len__" = some ("tuple", "__len__") := by decide +kernel
theorem tSub : isSubtype (.type "tuple") (.type "tuple") = pure true := by rw [isSubtype_type]; kernel_rfl
theorem tupleHint {v : Value} {name : String} {Q : Unit → Shared → Prop} (hT : s.TypeIs v "tuple") (h : Q () s) : wpAny (model prog w) A (Builtin.Bytes.lengthHint name v) Q E s := by
  unfold Builtin.Bytes.lengthHint
  refine wpAny_bind (wpAny_specialOf hT PySem.F.slot_tuple_len.lookup ?_)
  simp only [tSplit]
  refine wpAny_bind (wpAny_isInstance hT tSub ?_)
  exact wpAny_of_eq rfl h
theorem noBuffer {v : Value} {name : String} {full : Bool} {Q : Option (Array UInt8) → Shared → Prop} (hT : s.TypeIs v "tuple") (h : Q none s) : wpAny (model prog w) A (Builtin.Bytes.buffer? name v full) Q E s := by
  unfold Builtin.Bytes.buffer?
  exact wpAny_bind (wpAny_specialOf hT tNoBuffer (wpAny_bind (wpAny_specialOf hT tNoBuffer (wpAny_pure h))))
/-- bytes((n,)) -/
theorem bytesOne {l : Addr} {n : Int} {t : Tok} {Q : Value → Shared → Prop} (hh : A.handled = none) (hl : s.heap.IsTuple l #[.int n t]) (h0 : 0 ≤ n) (h1 : n < 256)
    (hQ : ∀ h' t' k, (∀ a o, s.heap.get? a = some o → h'.get? a = some o) → Q (.bytes (byteArr [n]) t') { s with heap := h', toks := k }) : wpAny (model prog w) A (call (.type "bytes") [.ref l]) Q E s := by
  refine bytesRun ?_
  obtain ⟨ol, hol, hoc, nl, hod⟩ := id hl
  have hT : s.TypeIs (.ref l) "tuple" := hl.typeIs
  have hlt : l < s.heap.objs.size := Heap.lt_size hol
  unfold Builtin.«bytes.__new__»
  repeat first
    | dsimp only
    | refine wpAny_bind (wpAny_specialOf hT (by first | exact tNoBytes | exact tNoIndex | exact tNoBuffer) ?_)
    | refine wpAny_bind (wpAny_of_eq (by first | exact F.bm_sub | exact F.bm_bind _) ?_)
    | refine wpAny_bind (wpAny_of_eq (a := true) rfl ?_)
    | refine wpAny_bind (wpAny_of_eq (a := ()) rfl ?_)
    | (refine wpAny_bind (wpAny_bind (wpAny_bind (wpAny_load hol ?_))); rw [hod]; refine wpAny_pure (wpAny_pure ?_))
    | refine bm_if_false rfl ?_
    | refine bm_if_true rfl ?_
  refine wpAny_bind (noBuffer hT ?_)
  refine wpAny_bind (wpAny_tryCatch (wpAny_pyIter_tuple hl ?_))
  have hl₁ := hl.push { cls := .type "tuple_iterator", data := .fields #[.ref l, .int 0 0] }
  have hz₁ : (s.heap.push { cls := .type "tuple_iterator", data := .fields #[.ref l, .int 0 0] }).objs.size = s.heap.objs.size + 1 := Heap.size_push _ _
  have hit := Heap.get?_push_size s.heap (o := { cls := .type "tuple_iterator", data := .fields #[.ref l, .int 0 0] }) rfl
  have old : ∀ a o, s.heap.get? a = some o → a < s.heap.objs.size ∧ (s.heap.push { cls := .type "tuple_iterator", data := .fields #[.ref l, .int 0 0] }).get? a = some o := fun a o e => ⟨Heap.lt_size e, Heap.get?_push_of_some _ e⟩
  refine wpAny_bind (wpAny_holding (tupleHint ⟨_, (old l ol hol).2, hoc⟩ ?_))
  generalize s.heap.push { cls := .type "tuple_iterator", data := .fields #[.ref l, .int 0 0] } = h₁ at hl₁ hz₁ hit old ⊢
  refine wpAny_bind (wpAny_newObj_type ?_ (Nat.zero_le _))
  refine wpAny_pure ⟨plainId_quiet F.bm_plain_loop _, oneTurns hh (I := s.heap.objs.size) (S := h₁.objs.size) ?_ ?_ ?_ (hl₁.push _) ⟨_, Heap.get?_push_of_some _ hit, rfl, rfl⟩ h0 h1 (Heap.get?_push_size _ rfl) ?_⟩
  · rw [hz₁]; exact Nat.succ_ne_self _
  · exact Nat.ne_of_lt hlt
  · rw [hz₁]; exact Nat.ne_of_lt (Nat.lt_succ_of_lt hlt)
  · intro h' t' k keep
    refine ⟨typeIs_bytes _ _ _, hQ h' t' k fun a o e => ?_⟩
    have ho := old a o e
    exact keep a o (Nat.ne_of_lt ho.1) (by rw [hz₁]; exact Nat.ne_of_lt (Nat.lt_succ_of_lt ho.1)) (Heap.get?_push_of_some _ ho.2)
end
end Mine
end

section
open PySem PySem.W PySem.Calls PySem.Spec PyProof.Rows
set_option maxRecDepth 100000
namespace Mine
section
variable {prog : Program} {w : World} {A : Around} {E : Value → Shared → Prop} {s : Shared}

theorem noIadd : typeLookup (.type "bytes") (dunderI "add") = pure none := by rw [typeLookup_type, builtinLookup_eq_fast]; kernel_rfl
/-- r += b -/
theorem iaddBytes {b c : Array UInt8} {t u : Tok} {Q : Value → Shared → Prop} (hsz : b.size + c.size ≤ 16777216) (h : ∀ t' k, Q (.bytes (b ++ c) t') { s with toks := k }) :
    wpAny (model prog w) A (inplaceOp .Add (.bytes b t) (.bytes c u)) Q E s := by
  refine iconcat_gives (typeIs_bytes s b t) (typeIs_bytes s c u) noIadd KBy.noFill_bytes_add KBy.seq_bytes_add FB.slot_bytes_add FB.entry_bytes_add (FB.args_bytes_add_2 _ _) (KBy.gives_bytes_add (KBy.tooLong_not hsz)) ?_
  by_cases hb : b.isEmpty = true
  · rw [if_pos hb]
    have h' := h u s.toks
    rw [Array.isEmpty_iff.1 hb, Array.empty_append] at h'
    exact h'
  · rw [if_neg hb]
    by_cases hc : c.isEmpty = true
    · rw [if_pos hc]
      have h' := h t s.toks
      rw [Array.isEmpty_iff.1 hc, Array.append_empty] at h'
      exact h'
    · rw [if_neg hc]
      exact ⟨by rw [Array.size_append, sizeLine_eq]; exact hsz, h s.toks (s.toks + 1)⟩
theorem iaddK {b c : Array UInt8} {t u : Tok} {ks ls : List Int} {Q : Value → Shared → Prop} (hb : KBw.bInts b = ks) (hc : KBw.bInts c = ls) (hsz : ks.length + ls.length ≤ 16777216) (h : ∀ t' k, KBw.bInts (b ++ c) = ks ++ ls → Q (.bytes (b ++ c) t') { s with toks := k }) :
    wpAny (model prog w) A (inplaceOp .Add (.bytes b t) (.bytes c u)) Q E s :=
  iaddBytes (by rw [← KBw.ints_length b, ← KBw.ints_length c, hb, hc]; exact hsz) fun t' k => h t' k (KBw.ints_app hb hc)
theorem itemOne {value slice : PySem.Expr} {b : Array UInt8} {t ui : Tok} {v : Int} {Q : Value → Shared → Prop} (hb : KBw.bInts b = [v]) (h : ∀ t' k, Q (.int v t') { s with toks := k })
    (hs : subscripted slice false (.bytes b t) (.int 0 ui) = operate [.bytes b t, .int 0 ui] (getItem (.bytes b t) (.int 0 ui)) := by with_unfolding_all rfl)
    (ht : ∀ r, letTemporaryGo value (.bytes b t) r = pure () := by intro _; with_unfolding_all rfl) : wpAny (model prog w) A (subscriptTail value slice (.bytes b t) (.int 0 ui)) Q E s :=
  KBw.item_K hb (show 1 ≤ 1099511627776 by decide) (Int.le_refl 0) (show (0 : Int) < 1 by decide) (fun t' k _ _ => h t' k) hs ht
theorem bytesCountK {n : Int} {t : Tok} {Q : Value → Shared → Prop} (h0 : 0 ≤ n) (h1 : n ≤ 1000)
    (hQ : ∀ b t' k, KBw.bInts b = List.replicate n.toNat 0 → Q (.bytes b t') { s with toks := k }) : wpAny (model prog w) A (call (.type "bytes") [.int n t]) Q E s :=
  bytesCount h0 h1 fun t' k => hQ _ t' k (by simp [KBw.bInts])
end
end Mine
end

section
open PySem PySem.W PyProof.Rows
namespace Mine

/-- the cipher's state -/
structure St where
  S : List Int
  i : Int
  j : Int
/-- the state and the octets put out -/
structure PS where
  q : St
  out : List Int
def ix (S : List Int) (k : Int) : Int := S.getD k.toNat 0
def swp (S : List Int) (a b : Int) : List Int := (S.set a.toNat (ix S b)).set b.toNat (ix S a)
/-- one step of the cipher -/
def stp (q : St) : St := ⟨swp q.S ((q.i + 1).fmod 256) ((q.j + ix q.S ((q.i + 1).fmod 256)).fmod 256), (q.i + 1).fmod 256, (q.j + ix q.S ((q.i + 1).fmod 256)).fmod 256⟩
/-- the octet of the stream in a state -/
def ks (q : St) : Int := ix q.S ((ix q.S q.i + ix q.S q.j).fmod 256)
def enc (p : PS) (c : Int) : PS := ⟨stp p.q, p.out ++ [Builtin.bitXor c (ks (stp p.q))]⟩
structure Good (q : St) : Prop where
  len : q.S.length = 256
  mem : ∀ y ∈ q.S, 0 ≤ y ∧ y < 256
  i0 : 0 ≤ q.i
  i1 : q.i < 256
  j0 : 0 ≤ q.j
  j1 : q.j < 256

theorem fm (x : Int) : x.fmod 256 = x % 256 := Int.fmod_eq_emod_of_nonneg x (by decide)
theorem fm0 (x : Int) : 0 ≤ x.fmod 256 := by rw [fm]; omega
theorem fm1 (x : Int) : x.fmod 256 < 256 := by rw [fm]; omega

theorem getIn {S : List Int} (h : ∀ y ∈ S, 0 ≤ y ∧ y < 256) (n : Nat) : 0 ≤ S.getD n 0 ∧ S.getD n 0 < 256 := by
  rw [List.getD_eq_getElem?_getD]
  cases e : S[n]? with
  | none => exact ⟨by decide, by decide⟩
  | some v => exact h v (List.mem_of_getElem? e)
theorem setIn {S : List Int} {v : Int} (h : ∀ y ∈ S, 0 ≤ y ∧ y < 256) (hv : 0 ≤ v ∧ v < 256) (n : Nat) : ∀ y ∈ S.set n v, 0 ≤ y ∧ y < 256 := by
  intro y hy
  rcases List.mem_or_eq_of_mem_set hy with h1 | h1
  · exact h y h1
  · exact h1 ▸ hv

theorem swpIn {S : List Int} (h : ∀ y ∈ S, 0 ≤ y ∧ y < 256) (a b : Int) : ∀ y ∈ swp S a b, 0 ≤ y ∧ y < 256 := setIn (setIn h (getIn h _) _) (getIn h _) _
theorem swpLen (S : List Int) (a b : Int) : (swp S a b).length = S.length := by simp [swp]
theorem stpGood {q : St} (g : Good q) : Good (stp q) := ⟨(swpLen _ _ _).trans g.len, swpIn g.mem _ _, fm0 _, fm1 _, fm0 _, fm1 _⟩

theorem pow256 (n : Nat) : ¬ (256 : Int) ^ n = 0 := Int.pow_ne_zero (by decide)

theorem xrHalf (x y : Int) : Builtin.bitXor x y = 2 * Builtin.bitXor (x / 2) (y / 2) + (x % 2 + y % 2 - 2 * (if x % 2 = 1 ∧ y % 2 = 1 then 1 else 0)) := by
  rw [bitXor_and, bitXor_and, kbt_halves]
  split <;> omega
theorem xrBound : ∀ (n : Nat) (x y : Int), 0 ≤ x → x < 2 ^ n → 0 ≤ y → y < 2 ^ n → 0 ≤ Builtin.bitXor x y ∧ Builtin.bitXor x y < 2 ^ n := by
  intro n
  induction n with
  | zero =>
    intro x y h1 h2 h3 h4
    have hx : x = 0 := by simp at h2; omega
    have hy : y = 0 := by simp at h4; omega
    subst hx; subst hy
    decide
  | succ n ih =>
    intro x y h1 h2 h3 h4
    have e : (2 : Int) ^ (n + 1) = 2 * 2 ^ n := by rw [Int.pow_succ]; omega
    rw [e] at h2 h4 ⊢
    have h := ih (x / 2) (y / 2) (by omega) (by omega) (by omega) (by omega)
    rw [xrHalf]
    split <;> omega
theorem xrBack : ∀ (n : Nat) (c k : Int), 0 ≤ c → c < 2 ^ n → 0 ≤ k → k < 2 ^ n → Builtin.bitXor (Builtin.bitXor c k) c = k := by
  intro n
  induction n with
  | zero =>
    intro x y h1 h2 h3 h4
    have hx : x = 0 := by simp at h2; omega
    have hy : y = 0 := by simp at h4; omega
    subst hx; subst hy
    decide
  | succ n ih =>
    intro c k h1 h2 h3 h4
    have e : (2 : Int) ^ (n + 1) = 2 * 2 ^ n := by rw [Int.pow_succ]; omega
    rw [e] at h2 h4
    have h := ih (c / 2) (k / 2) (by omega) (by omega) (by omega) (by omega)
    have hh := xrHalf c k
    generalize Builtin.bitXor c k = X at hh ⊢
    have hX : X / 2 = Builtin.bitXor (c / 2) (k / 2) := by split at hh <;> omega
    have hX2 : X % 2 = (c % 2 + k % 2 - 2 * (if c % 2 = 1 ∧ k % 2 = 1 then 1 else 0)) := by split at hh <;> split <;> omega
    rw [xrHalf, hX, h]
    split at hX2 <;> split <;> omega
theorem xrIn {a b : Int} (h1 : 0 ≤ a) (h2 : a < 256) (h3 : 0 ≤ b) (h4 : b < 256) : 0 ≤ Builtin.bitXor a b ∧ Builtin.bitXor a b < 256 := xrBound 8 a b h1 (by omega) h3 (by omega)
theorem xrSelf {c k : Int} (h1 : 0 ≤ c) (h2 : c < 256) (h3 : 0 ≤ k) (h4 : k < 256) : Builtin.bitXor (Builtin.bitXor c k) c = k := xrBack 8 c k h1 (by omega) h3 (by omega)
end Mine
namespace Mine
/-- 0 .. 255 -/
@[irreducible] def id256 : List Int := rangeKs 0 256
theorem id256Eq : rangeKs 0 256 = id256 := by unfold id256; rfl
/-- one turn of the key's schedule -/
def ksaStep (K : List Int) (p : List Int × Int) (k : Int) : List Int × Int :=
  (swp p.1 k ((p.2 + ix p.1 k + ix K (k.fmod (K.length : Int))).fmod 256), (p.2 + ix p.1 k + ix K (k.fmod (K.length : Int))).fmod 256)
def ksa (K : List Int) : List Int × Int := id256.foldl (ksaStep K) (id256, 0)
structure GoodK (p : List Int × Int) : Prop where
  len : p.1.length = 256
  mem : ∀ y ∈ p.1, 0 ≤ y ∧ y < 256
  j0 : 0 ≤ p.2
  j1 : p.2 < 256
theorem id256Len : id256.length = 256 := by rw [← id256Eq]; exact rangeKs_length _ _
theorem id256Mem : ∀ y ∈ id256, 0 ≤ y ∧ y < 256 := fun _ hy => by rw [← id256Eq] at hy; have h := mem_rangeKs hy; exact ⟨h.1, by have := h.2; omega⟩
theorem goodK0 : GoodK (id256, 0) := ⟨id256Len, id256Mem, by decide, by decide⟩
theorem goodKStep {p : List Int × Int} (K : List Int) (k : Int) (g : GoodK p) : GoodK (ksaStep K p k) := ⟨(swpLen _ _ _).trans g.len, swpIn g.mem _ _, fm0 _, fm1 _⟩
end Mine
namespace Mine
/-- one of Finney's states -/
def Fin (q : St) : Prop := q.j = (q.i + 1).fmod 256 ∧ ix q.S q.j = 1
/-- a step, and the stream's octet taken down -/
def run1 (p : PS) (_ : Int) : PS := ⟨stp p.q, p.out ++ [ks (stp p.q)]⟩

theorem toNatInj {a b : Int} (ha : 0 ≤ a) (hb : 0 ≤ b) (h : a.toNat = b.toNat) : a = b := by omega
theorem getSet {S : List Int} {n k : Nat} {v : Int} (h : n < S.length) : (S.set n v).getD k 0 = if n = k then v else S.getD k 0 := by
  rw [List.getD_eq_getElem?_getD, List.getD_eq_getElem?_getD, List.getElem?_set]
  split
  · rename_i e
    subst e
    rfl
  · rfl
/-- what stands where after a swap -/
theorem ixSwp {S : List Int} {a b k : Int} (h : S.length = 256) (ha : 0 ≤ a) (ha' : a < 256) (hb : 0 ≤ b) (hb' : b < 256) (hk : 0 ≤ k) : ix (swp S a b) k = if k = b then ix S a else if k = a then ix S b else ix S k := by
  unfold swp ix
  rw [getSet (by rw [List.length_set]; omega), getSet (by omega)]
  by_cases h1 : k = b
  · rw [if_pos (by omega), if_pos h1]
  · rw [if_neg (by omega), if_neg h1]
    by_cases h2 : k = a
    · rw [if_pos (by omega), if_pos h2]
    · rw [if_neg (by omega), if_neg h2]
theorem finBack {q : St} (g : Good q) (h : Fin (stp q)) : Fin q := by
  obtain ⟨h1, h2⟩ := h
  obtain ⟨hl, hm, hi0, hi1, hj0, hj1⟩ := g
  obtain ⟨S, i, j⟩ := q
  dsimp only [stp] at h1 h2 hl hm hi0 hi1 hj0 hj1
  have b1 := fm0 (i + 1)
  have b2 := fm1 (i + 1)
  have b3 := fm0 (j + ix S ((i + 1).fmod 256))
  have b4 := fm1 (j + ix S ((i + 1).fmod 256))
  rw [ixSwp hl b1 b2 b3 b4 b3, if_pos rfl] at h2
  rw [h2] at h1
  have e : j = (i + 1).fmod 256 := by
    rw [fm, fm, fm] at h1
    rw [fm]
    omega
  exact ⟨e, by show ix S j = 1; rw [e]; exact h2⟩
theorem ksIn {q : St} (g : Good q) : 0 ≤ ks q ∧ ks q < 256 := getIn g.mem _
theorem good0 {S : List Int} {j : Int} (g : GoodK (S, j)) : Good ⟨S, 0, 0⟩ := ⟨g.len, g.mem, Int.le_refl 0, (by decide : (0 : Int) < 256), Int.le_refl 0, (by decide : (0 : Int) < 256)⟩
theorem fin0 (S : List Int) : ¬ Fin ⟨S, 0, 0⟩ := fun h => absurd h.1 (by decide : ¬ (0 : Int) = (0 + 1 : Int).fmod 256)
end Mine
namespace Mine
/-- a step walked back, as the law has it -/
def back1 (p : PS) (_ : Int) : PS := ⟨⟨swp p.q.S p.q.i p.q.j, (p.q.i - 1).fmod 256, (p.q.j - ix (swp p.q.S p.q.i p.q.j) p.q.i).fmod 256⟩, ks p.q :: p.out⟩
theorem backGood {p : PS} (g : Good p.q) (k : Int) : Good (back1 p k).q := ⟨(swpLen _ _ _).trans g.len, swpIn g.mem _ _, fm0 _, fm1 _, fm0 _, fm1 _⟩
end Mine
end

section
open PySem PySem.W PyProof.Rows
namespace Mine

theorem ext256 {A B : List Int} (hA : A.length = 256) (hB : B.length = 256) (h : ∀ k : Int, 0 ≤ k → k < 256 → ix A k = ix B k) : A = B := by
  apply List.ext_getElem (by omega)
  intro n h1 h2
  have := h n (by omega) (by omega)
  unfold ix at this
  rw [Int.toNat_natCast, List.getD_eq_getElem?_getD, List.getD_eq_getElem?_getD, List.getElem?_eq_getElem h1, List.getElem?_eq_getElem h2] at this
  exact this
theorem swpSwp {S : List Int} {a b : Int} (h : S.length = 256) (ha : 0 ≤ a) (ha' : a < 256) (hb : 0 ≤ b) (hb' : b < 256) : swp (swp S a b) a b = S := by
  have h1 : (swp S a b).length = 256 := (swpLen _ _ _).trans h
  refine ext256 ((swpLen _ _ _).trans h1) h fun k hk hk' => ?_
  rw [ixSwp h1 ha ha' hb hb' hk, ixSwp h ha ha' hb hb' ha, ixSwp h ha ha' hb hb' hb, ixSwp h ha ha' hb hb' hk]
  rw [if_pos rfl]
  by_cases e1 : k = b
  · rw [if_pos e1]
    by_cases e2 : a = b
    · rw [if_pos e2, e1, e2]
    · rw [if_neg e2, e1]
  · rw [if_neg e1]
    by_cases e2 : k = a
    · rw [if_pos e2, if_pos rfl, e2]
    · rw [if_neg e2, if_neg e1, if_neg e2]
theorem backStp {q : St} (g : Good q) (out : List Int) (k : Int) : back1 ⟨stp q, out⟩ k = ⟨q, ks (stp q) :: out⟩ := by
  obtain ⟨hl, hm, hi0, hi1, hj0, hj1⟩ := g
  obtain ⟨S, i, j⟩ := q
  dsimp only at hl hm hi0 hi1 hj0 hj1
  have b1 := fm0 (i + 1)
  have b2 := fm1 (i + 1)
  have b3 := fm0 (j + ix S ((i + 1).fmod 256))
  have b4 := fm1 (j + ix S ((i + 1).fmod 256))
  have e1 : swp (stp ⟨S, i, j⟩).S (stp ⟨S, i, j⟩).i (stp ⟨S, i, j⟩).j = S := swpSwp hl b1 b2 b3 b4
  have e2 : ((stp ⟨S, i, j⟩).i - 1).fmod 256 = i := by
    show ((i + 1).fmod 256 - 1).fmod 256 = i
    rw [fm, fm]; omega
  have e3 : ((stp ⟨S, i, j⟩).j - ix S (stp ⟨S, i, j⟩).i).fmod 256 = j := by
    show ((j + ix S ((i + 1).fmod 256)).fmod 256 - ix S ((i + 1).fmod 256)).fmod 256 = j
    generalize ix S ((i + 1).fmod 256) = v
    rw [fm, fm]; omega
  unfold back1
  dsimp only
  rw [e1, e2, e3]

def it (f : PS → PS) : Nat → PS → PS
  | 0, p => p
  | n + 1, p => it f n (f p)
theorem it_succ (f : PS → PS) : ∀ (n : Nat) (p : PS), it f (n + 1) p = f (it f n p)
  | 0, _ => rfl
  | n + 1, p => by
    show it f (n + 1) (f p) = f (it f n (f p))
    exact it_succ f n (f p)
theorem foldIt (f : PS → Int → PS) (g : PS → PS) (h : ∀ p k, f p k = g p) : ∀ (bs : List Int) (p : PS), bs.foldl f p = it g bs.length p
  | [], _ => rfl
  | k :: bs, p => by
    rw [List.foldl_cons, h, foldIt f g h bs]
    rfl
theorem runGood {p : PS} (g : Good p.q) (k : Int) : Good (run1 p k).q := stpGood g
theorem itGood : ∀ (n : Nat) {p : PS}, Good p.q → Good (it (fun p => run1 p 0) n p).q
  | 0, _, g => g
  | n + 1, _, g => itGood n (runGood g 0)
theorem backIt : ∀ (n : Nat) (p : PS) (out : List Int), Good p.q → ∃ str, (it (fun p => run1 p 0) n p).out = p.out ++ str ∧ it (fun p => back1 p 0) n ⟨(it (fun p => run1 p 0) n p).q, out⟩ = ⟨p.q, str ++ out⟩
  | 0, p, out, _ => ⟨[], (List.append_nil _).symm, rfl⟩
  | n + 1, p, out, g => by
    obtain ⟨str, h1, h2⟩ := backIt n (run1 p 0) out (runGood g 0)
    refine ⟨ks (stp p.q) :: str, ?_, ?_⟩
    · show (it (fun p => run1 p 0) n (run1 p 0)).out = _
      rw [h1]
      show (p.out ++ [ks (stp p.q)]) ++ str = _
      rw [List.append_assoc]
      rfl
    · rw [it_succ]
      show back1 (it (fun p => back1 p 0) n ⟨(it (fun p => run1 p 0) n (run1 p 0)).q, out⟩) 0 = _
      rw [h2]
      exact backStp g _ 0
/-- the walk back comes to the first state, and tells the stream again -/
theorem backAll {bs : List Int} {q0 q1 q2 : St} {str bl : List Int} (g : Good q0) (h1 : bs.foldl run1 ⟨q0, []⟩ = ⟨q1, str⟩) (h2 : bs.foldl back1 ⟨q1, []⟩ = ⟨q2, bl⟩) : q2 = q0 ∧ bl = str := by
  rw [foldIt run1 (fun p => run1 p 0) (fun _ _ => rfl)] at h1
  rw [foldIt back1 (fun p => back1 p 0) (fun _ _ => rfl)] at h2
  obtain ⟨str', h3, h4⟩ := backIt bs.length ⟨q0, []⟩ [] g
  rw [h1] at h3 h4
  rw [h2] at h4
  obtain ⟨e1, e2⟩ := PS.mk.inj h4
  refine ⟨e1, ?_⟩
  rw [e2, List.append_nil]
  exact (h3.trans (List.nil_append _)).symm

/-- a swap turns the order alone -/
theorem swpPerm {S : List Int} {a b : Int} (h : S.length = 256) (ha : 0 ≤ a) (ha' : a < 256) (hb : 0 ≤ b) (hb' : b < 256) : (swp S a b).Perm S := by
  have h1 : a.toNat < S.toArray.size := by simp; omega
  have h2 : b.toNat < S.toArray.size := by simp; omega
  have p := Array.swap_perm (xs := S.toArray) h1 h2
  rw [Array.perm_iff_toList_perm] at p
  have e : (S.toArray.swap a.toNat b.toNat h1 h2).toList = swp S a b := by
    simp only [Array.swap, swp, ix, List.getD_eq_getElem?_getD]
    simp
    rw [List.getElem?_eq_getElem (by omega), List.getElem?_eq_getElem (by omega)]
    simp
  rw [e] at p
  exact p
theorem stpPerm {q : St} (g : Good q) : (stp q).S.Perm q.S := swpPerm g.len (fm0 _) (fm1 _) (fm0 _) (fm1 _)
theorem itPerm : ∀ (n : Nat) {p : PS}, Good p.q → (it (fun p => run1 p 0) n p).q.S.Perm p.q.S
  | 0, _, _ => List.Perm.refl _
  | n + 1, _, g => (itPerm n (runGood g 0)).trans (stpPerm g)
theorem runPerm {bs : List Int} {q0 q1 : St} {str : List Int} (g : Good q0) (h1 : bs.foldl run1 ⟨q0, []⟩ = ⟨q1, str⟩) : q1.S.Perm q0.S := by
  rw [foldIt run1 (fun p => run1 p 0) (fun _ _ => rfl)] at h1
  have h := itPerm bs.length (p := ⟨q0, []⟩) g
  rw [h1] at h
  exact h
theorem ksaFold (K : List Int) : ∀ (ks : List Int), (∀ k ∈ ks, 0 ≤ k ∧ k < 256) → ∀ {p : List Int × Int}, GoodK p → (ks.foldl (ksaStep K) p).1.Perm p.1
  | [], _, _, _ => List.Perm.refl _
  | k :: ks, h, _, g => (ksaFold K ks (fun y hy => h y (.tail _ hy)) (goodKStep K k g)).trans (swpPerm g.len (h k (.head _)).1 (h k (.head _)).2 (fm0 _) (fm1 _))
theorem ksaPerm {K S : List Int} {j : Int} (h : ksa K = (S, j)) : S.Perm id256 := by
  have p := ksaFold K id256 id256Mem goodK0
  have e : id256.foldl (ksaStep K) (id256, 0) = (S, j) := h
  rw [e] at p
  exact p
theorem permIn {S : List Int} (p : S.Perm id256) {k : Int} (h0 : 0 ≤ k) (h1 : k < 256) : k ∈ S := by
  rw [p.mem_iff, ← id256Eq]
  unfold rangeKs
  rw [List.mem_map]
  exact ⟨k.toNat, List.mem_range.mpr (by omega), by omega⟩
/-- the step that comes to the place behind -/
theorem place1 {S : List Int} {i j w : Int} (g : Good ⟨S, i, j⟩) (hw0 : 0 ≤ w) (hw1 : w < 256) (hw : ix S w = (i + 2 - j).fmod 256) {q : St} (h : stp ⟨swp S w ((i + 1).fmod 256), i, j⟩ = q) :
    q.i = (i + 1).fmod 256 ∧ q.j = ((i + 1).fmod 256 + 1).fmod 256 ∧ q.S.Perm S := by
  subst h
  obtain ⟨hl, hm, hi0, hi1, hj0, hj1⟩ := g
  dsimp only at hl hm hi0 hi1 hj0 hj1
  have b1 := fm0 (i + 1)
  have b2 := fm1 (i + 1)
  have e : ix (swp S w ((i + 1).fmod 256)) ((i + 1).fmod 256) = (i + 2 - j).fmod 256 := by rw [ixSwp hl hw0 hw1 b1 b2 b1, if_pos rfl, hw]
  refine ⟨rfl, ?_, ?_⟩
  · show (j + ix (swp S w ((i + 1).fmod 256)) ((i + 1).fmod 256)).fmod 256 = _
    rw [e, fm, fm, fm, fm]
    omega
  · exact (swpPerm ((swpLen _ _ _).trans hl) b1 b2 (fm0 _) (fm1 _)).trans (swpPerm hl hw0 hw1 b1 b2)
theorem goodSwp {S : List Int} {i j a b : Int} (g : Good ⟨S, i, j⟩) : Good ⟨swp S a b, i, j⟩ := ⟨(swpLen _ _ _).trans g.len, swpIn g.mem _ _, g.i0, g.i1, g.j0, g.j1⟩
end Mine
end

section
open PySem PySem.W PyProof.Rows
set_option maxRecDepth 100000
namespace Mine

/-- a turn of the law's last loop -/
def dstep (t : Int) (D : List Int) (k : Int) : List Int := (D.set ((t + k).fmod 256).toNat (D.getD ((t + k + 1).fmod 256).toNat 0)).set ((t + k + 1).fmod 256).toNat 1

theorem finStep {q : St} (g : Good q) (f : Fin q) : stp q = ⟨dstep q.j q.S 0, q.j, (q.j + 1).fmod 256⟩ ∧ Fin (stp q) := by
  obtain ⟨hl, hm, hi0, hi1, hj0, hj1⟩ := g
  obtain ⟨S, i, j⟩ := q
  obtain ⟨f1, f2⟩ := f
  dsimp only at hl hm hi0 hi1 hj0 hj1 f1 f2
  have b0 := fm0 (j + 1)
  have b1 := fm1 (j + 1)
  have e0 : (j + 0).fmod 256 = j := by rw [fm]; omega
  have e1 : (j + 0 + 1).fmod 256 = (j + 1).fmod 256 := by rw [Int.add_zero]
  have hS : swp S j ((j + 1).fmod 256) = dstep j S 0 := by
    unfold swp dstep
    rw [e0, e1, f2]
    rfl
  have hs : stp ⟨S, i, j⟩ = ⟨dstep j S 0, j, (j + 1).fmod 256⟩ := by
    unfold stp
    dsimp only
    rw [← f1, f2, hS]
  refine ⟨hs, ?_⟩
  rw [hs]
  refine ⟨rfl, ?_⟩
  show ix (dstep j S 0) ((j + 1).fmod 256) = 1
  rw [← hS, ixSwp hl hj0 hj1 b0 b1 b0, if_pos rfl, f2]

def itS : Nat → St → St
  | 0, q => q
  | n + 1, q => itS n (stp q)
theorem itS_succ : ∀ (n : Nat) (q : St), itS (n + 1) q = stp (itS n q)
  | 0, _ => rfl
  | n + 1, q => by
    show itS (n + 1) (stp q) = stp (itS n (stp q))
    exact itS_succ n (stp q)
theorem itSGood : ∀ (n : Nat) {q : St}, Good q → Good (itS n q)
  | 0, _, g => g
  | n + 1, _, g => itSGood n (stpGood g)
theorem encIt : ∀ (n : Nat) (p : PS), ((List.replicate n (0 : Int)).foldl enc p).q = itS n p.q
  | 0, _ => rfl
  | n + 1, p => by
    rw [List.replicate_succ, List.foldl_cons, encIt n]
    rfl
theorem rangeSucc (n : Nat) : rangeKs 0 (n + 1) = rangeKs 0 n ++ [(n : Int)] := by
  unfold rangeKs
  rw [List.range_succ, List.map_append]
  simp
theorem dstepShift {t : Int} {n : Nat} (D : List Int) : dstep ((t + n).fmod 256) D 0 = dstep t D n := by
  unfold dstep
  have e1 : ((t + (n : Int)).fmod 256 + 0).fmod 256 = (t + n).fmod 256 := by rw [fm, fm]; omega
  have e2 : ((t + (n : Int)).fmod 256 + 0 + 1).fmod 256 = (t + n + 1).fmod 256 := by rw [fm, fm, fm]; omega
  rw [e1, e2]
/-- from one of Finney's states each step leads to one of them -/
theorem finRun {q : St} (g : Good q) (f : Fin q) : ∀ n : Nat, itS n q = ⟨(rangeKs 0 n).foldl (dstep q.j) q.S, (q.i + n).fmod 256, (q.j + n).fmod 256⟩ ∧ Fin (itS n q)
  | 0 => by
    obtain ⟨hl, hm, hi0, hi1, hj0, hj1⟩ := g
    refine ⟨?_, f⟩
    have e1 : (q.i + ((0 : Nat) : Int)).fmod 256 = q.i := by rw [fm]; omega
    have e2 : (q.j + ((0 : Nat) : Int)).fmod 256 = q.j := by rw [fm]; omega
    rw [e1, e2]
    rfl
  | n + 1 => by
    obtain ⟨h1, h2⟩ := finRun g f n
    have hs := finStep (itSGood n g) h2
    rw [itS_succ]
    refine ⟨?_, hs.2⟩
    rw [hs.1, h1]
    dsimp only
    rw [rangeSucc, List.foldl_append, dstepShift]
    have hf := f.1
    have e1 : (q.j + (n : Int)).fmod 256 = (q.i + ((n + 1 : Nat) : Int)).fmod 256 := by rw [hf, fm, fm, fm]; omega
    have e2 : ((q.j + (n : Int)).fmod 256 + 1).fmod 256 = (q.j + ((n + 1 : Nat) : Int)).fmod 256 := by rw [fm, fm, fm]; omega
    rw [e2, ← e1]
    rfl

theorem dLen (t : Int) (D : List Int) (k : Int) : (dstep t D k).length = D.length := by simp [dstep]
theorem dIx {t k p : Int} {D : List Int} (h : D.length = 256) (hp0 : 0 ≤ p) : ix (dstep t D k) p = if p = (t + k + 1).fmod 256 then 1 else if p = (t + k).fmod 256 then ix D ((t + k + 1).fmod 256) else ix D p := by
  have b1 := fm0 (t + k)
  have b2 := fm1 (t + k)
  have b3 := fm0 (t + k + 1)
  have b4 := fm1 (t + k + 1)
  unfold dstep ix
  rw [getSet (by rw [List.length_set]; omega), getSet (by omega)]
  by_cases h1 : p = (t + k + 1).fmod 256
  · rw [if_pos (by omega), if_pos h1]
  · rw [if_neg (by omega), if_neg h1]
    by_cases h2 : p = (t + k).fmod 256
    · rw [if_pos (by omega), if_pos h2]
    · rw [if_neg (by omega), if_neg h2]
theorem dRun {t : Int} {S : List Int} (h : S.length = 256) (ht0 : 0 ≤ t) (ht1 : t < 256) (h1 : ix S t = 1) : ∀ n : Nat, n ≤ 255 → ((rangeKs 0 n).foldl (dstep t) S).length = 256 ∧
    ∀ p : Int, 0 ≤ p → p < 256 → ix ((rangeKs 0 n).foldl (dstep t) S) p = if (p - t).fmod 256 < n then ix S ((p + 1).fmod 256) else if (p - t).fmod 256 = n then 1 else ix S p
  | 0, _ => by
    refine ⟨h, fun p hp0 hp1 => ?_⟩
    have b := fm0 (p - t)
    rw [if_neg (by omega)]
    by_cases e : (p - t).fmod 256 = ((0 : Nat) : Int)
    · rw [if_pos e]
      have : p = t := by rw [fm] at e; omega
      rw [this]
      exact h1
    · rw [if_neg e]
      rfl
  | n + 1, hn => by
    obtain ⟨hl, hv⟩ := dRun h ht0 ht1 h1 n (by omega)
    rw [rangeSucc, List.foldl_append, List.foldl_cons, List.foldl_nil]
    refine ⟨(dLen _ _ _).trans hl, fun p hp0 hp1 => ?_⟩
    have b3 := fm0 (t + n + 1)
    have b4 := fm1 (t + n + 1)
    rw [dIx hl hp0]
    by_cases e1 : p = (t + n + 1).fmod 256
    · have : (p - t).fmod 256 = ((n + 1 : Nat) : Int) := by rw [e1, fm, fm]; omega
      rw [if_pos e1, if_neg (by omega), if_pos this]
    · rw [if_neg e1]
      have n1 : ¬ (p - t).fmod 256 = ((n + 1 : Nat) : Int) := by intro e; apply e1; rw [fm] at e ⊢; omega
      rw [if_neg n1]
      by_cases e2 : p = (t + n).fmod 256
      · have e3 : (p - t).fmod 256 = (n : Int) := by rw [e2, fm, fm]; omega
        rw [if_pos e2, if_pos (by omega), hv _ b3 b4]
        have e4 : ((t + (n : Int) + 1).fmod 256 - t).fmod 256 = (n : Int) + 1 := by rw [fm, fm]; omega
        rw [e4, if_neg (by omega), if_neg (by omega)]
        have e5 : (p + 1).fmod 256 = (t + n + 1).fmod 256 := by rw [e2, fm, fm, fm]; omega
        rw [e5]
      · rw [if_neg e2, hv p hp0 hp1]
        have n2 : ¬ (p - t).fmod 256 = (n : Int) := by intro e; apply e2; rw [fm] at e ⊢; omega
        rw [if_neg n2]
        by_cases e6 : (p - t).fmod 256 < (n : Int)
        · rw [if_pos e6, if_pos (by omega)]
        · rw [if_neg e6, if_neg (by omega)]
theorem rotIx {S : List Int} (h : S.length = 256) {p : Int} (hp0 : 0 ≤ p) (hp1 : p < 256) : ix (S.drop 1 ++ S.take 1) p = ix S ((p + 1).fmod 256) := by
  unfold ix
  rw [List.getD_eq_getElem?_getD, List.getD_eq_getElem?_getD]
  congr 1
  by_cases e : p = 255
  · have hn : p.toNat = 255 := by omega
    have e3 : (p + 1).fmod 256 = 0 := by rw [fm]; omega
    rw [hn, e3, List.getElem?_append_right (by rw [List.length_drop]; omega), List.length_drop, h]
    simp [List.getElem?_take]
  · have e2 : (p + 1).fmod 256 = p + 1 := by rw [fm]; omega
    rw [e2, List.getElem?_append_left (by rw [List.length_drop]; omega), List.getElem?_drop]
    congr 1
    omega
theorem rotLen {S : List Int} (h : S.length = 256) : (S.drop 1 ++ S.take 1).length = 256 := by rw [List.length_append, List.length_drop, List.length_take]; omega
/-- behind 255 steps the box is the old one turned by one place -/
theorem dAll {t : Int} {S : List Int} (h : S.length = 256) (ht0 : 0 ≤ t) (ht1 : t < 256) (h1 : ix S t = 1) : (rangeKs 0 255).foldl (dstep t) S = S.drop 1 ++ S.take 1 := by
  obtain ⟨hl, hv⟩ := dRun h ht0 ht1 h1 255 (Nat.le_refl _)
  refine ext256 hl (rotLen h) fun p hp0 hp1 => ?_
  have hv' := hv p hp0 hp1
  clear hv hl
  rw [hv']
  clear hv'
  have b := fm0 (p - t)
  have b' := fm1 (p - t)
  have key := rotIx h hp0 hp1
  rw [key]
  by_cases e : (p - t).fmod 256 < ((255 : Nat) : Int)
  · rw [if_pos e]
  · rw [if_neg e, if_pos (by omega)]
    have : (p + 1).fmod 256 = t := by rw [fm] at b b' e ⊢; omega
    rw [this, h1]
end Mine
namespace Mine
structure IdxAt (S : List Int) (v j : Int) : Prop where
  j0 : 0 ≤ j
  j1 : j < 256
  at' : S.getD j.toNat 0 = v
/-- what stands behind the last call of process -/
theorem finAll {S : List Int} {i t w : Int} {n : Nat} {q : St} {out : List Int} (g : Good ⟨S, i, t⟩) (ht : t = (i + 1).fmod 256) (hx : IdxAt S 1 w) (hq : (List.replicate n (0 : Int)).foldl enc ⟨⟨swp S w t, i, t⟩, []⟩ = ⟨q, out⟩) :
    q.S = (rangeKs 0 n).foldl (dstep t) (swp S w t) ∧ q.i = (i + n).fmod 256 ∧ q.j = (q.i + 1).fmod 256 ∧ q.S.getD q.j.toNat 0 = 1 ∧ ix (swp S w t) t = 1 := by
  have g' : Good ⟨swp S w t, i, t⟩ := goodSwp g
  have h1 : ix (swp S w t) t = 1 := by
    rw [ixSwp g.len hx.j0 hx.j1 g.j0 g.j1 g.j0, if_pos rfl]
    exact hx.at'
  have e := encIt n ⟨⟨swp S w t, i, t⟩, []⟩
  rw [hq] at e
  dsimp only at e
  obtain ⟨f1, f2⟩ := finRun g' ⟨ht, h1⟩ n
  rw [← e] at f1 f2
  refine ⟨by rw [f1], by rw [f1], f2.1, f2.2, h1⟩
theorem rangeAll {S : List Int} {i t w : Int} {q : St} {out : List Int} (g : Good ⟨S, i, t⟩) (ht : t = (i + 1).fmod 256) (hx : IdxAt S 1 w) (hq : (List.replicate 255 (0 : Int)).foldl enc ⟨⟨swp S w t, i, t⟩, []⟩ = ⟨q, out⟩) : q.S = (swp S w t).drop 1 ++ (swp S w t).take 1 := by
  obtain ⟨h1, _, _, _, h2⟩ := finAll g ht hx hq
  rw [h1]
  exact dAll ((swpLen _ _ _).trans g.len) g.j0 g.j1 h2
end Mine
end

section
open PySem PySem.W PySem.Calls PySem.Spec PyProof.Rows
namespace Mine

section
variable {prog : Program} {w : World} {A : Around} {E : Value → Shared → Prop} {s : Shared} {h₀ : Heap}
/-- list(range(256)) onto the ledger -/
theorem list256 {L r : Addr} {m : PySem.Str → Option Value} {news : List (Addr × Obj)} {t₀ u₀ v₀ : Tok} {Q : Value → Shared → Prop} (hh : A.handled = none) (F : Fr h₀ L s.heap m) (N : News h₀ L s.heap news) (hr : IsRange s.heap r 0 256 1 t₀ u₀ v₀)
    (h : ∀ D us c h' tk, Fr h₀ L h' m → News h₀ L h' ((D, listOf (List.toArray us) c) :: news) → (∀ p ∈ news, p.1 < D) → IntsAre us id256 → Q (.ref D) { s with heap := h', toks := tk }) :
    wpAny (model prog w) A (call (.type "list") [.ref r]) Q E s := kll_range hh F N hr (by decide) (n := 256) (by decide) (by decide) fun D us c h' tk F' N' hl hi => h D us c h' tk F' N' hl (id256Eq ▸ hi)

/-- the state of the loop of __init__ -/
def IR (l : Addr) (c : Nat) (rest : List (Addr × Obj)) (m₀ : PySem.Str → Option Value) (p : List Int × Int) (m : PySem.Str → Option Value) (nx : List (Addr × Obj)) : Prop :=
  ∃ (vs : List Value) (t1 : Tok), nx = (l, listOf vs.toArray c) :: rest ∧ IntsAre vs p.1 ∧ GoodK p ∧
    (∀ y ∈ [(Str.ofString "j", Value.int p.2 t1)], m y.1 = some y.2) ∧
    (∀ z, z ≠ Str.ofString "i" → (∀ y ∈ [(Str.ofString "j", Value.int p.2 t1)], z ≠ y.1) → ([] : List PySem.Str).contains z = false → m z = m₀ z)

theorem initLoop {env : Env} {body : List Stmt} {Q : Flow → Shared → Prop} {r : Addr} {t₀ u₀ v₀ : Tok} {m₀ : PySem.Str → Option Value} {l : Addr} {c : Nat} {rest : List (Addr × Obj)} {vs : List Value} {t1 : Tok} (K : List Int)
    (hh : A.handled = none) (hr : IsRange s.heap r 0 256 1 t₀ u₀ v₀) (F : Fr h₀ env.locals s.heap m₀) (N : News h₀ env.locals s.heap ((l, listOf vs.toArray c) :: rest))
    (hi : IntsAre vs id256) (m1 : m₀ (Str.ofString "j") = some (.int 0 t1)) (off : OwnOff rest [l])
    (turn : ∀ k t vs' S' j' t1' (u : PySem.Str → Option Value) h tk own rs, 0 ≤ k → k < 256 → OwnOff rs [l] → (∀ y ∈ rest, y ∈ rs) → (∀ y ∈ own, y ∈ rs) → IntsAre vs' S' →
      S'.length = 256 → (∀ y ∈ S', 0 ≤ y ∧ y < 256) → 0 ≤ j' → j' < 256 →
      Fr h₀ env.locals h (fun y => if y = Str.ofString "i" then some (.int k t) else if y = Str.ofString "j" then some (.int j' t1') else if ([] : List PySem.Str).contains y then u y else m₀ y) →
      News h₀ env.locals h ((l, listOf vs'.toArray c) :: rs) →
      wpAny (model prog w) A (execs body env) (InvPostN h₀ env.locals (IR l c rest m₀ (ksaStep K (S', j') k)) own (((l, listOf vs.toArray c) :: rest).map (·.1)) { s with heap := h, toks := tk } Q) E { s with heap := h, toks := tk })
    (done : ∀ vs' S' j' t1' (u : PySem.Str → Option Value) h tk, ksa K = (S', j') → IntsAre vs' S' → GoodK (S', j') → News h₀ env.locals h ((l, listOf vs'.toArray c) :: rest) →
      Fr h₀ env.locals h (fun y => if y = Str.ofString "i" then u y else if y = Str.ofString "j" then some (.int j' t1') else if ([] : List PySem.Str).contains y then u y else m₀ y) →
      Q .next { s with heap := h, toks := tk }) :
    wpAny (model prog w) A (pyIter (.ref r)) (fun it s₂ => LoopAtV prog w A h₀ env (Str.ofString "i") body Q E it s₂) E s := by
  refine iter_rangeS (n := 256) (IR l c rest m₀) (ksaStep K) (id256, 0) hh hr (by decide) (by decide) F N ⟨vs, t1, rfl, hi, goodK0, by simp [m1], fun _ _ _ _ => rfl⟩ ?_ ?_
  · rintro k t ⟨S', j'⟩ m₁ nx h tk own hk hof ⟨vs', ta, rfl, hi', hg, hp1, hp2⟩ F₁ N₁
    have hk' := id256Mem k (id256Eq ▸ hk)
    have hof' : OwnOff (rest ++ own) [l] := fun y hy z hz => (List.mem_append.mp hy).elim (fun h1 => off y h1 z hz) (fun h1 => hof y h1 z (by rcases List.mem_cons.mp hz with rfl | hz; exact .head _; cases hz))
    exact turn k t vs' S' j' ta m₁ h tk own (rest ++ own) hk'.1 hk'.2 hof' (fun y hy => List.mem_append_left _ hy) (fun y hy => List.mem_append_right _ hy) hi' hg.len hg.mem hg.j0 hg.j1 (kst_fr hp1 hp2 F₁) N₁
  · rintro m₁ nx h tk hR F₁ N₁
    rw [id256Eq] at hR
    obtain ⟨vs', ta, rfl, hi', hg, hp1, hp2⟩ := hR
    exact done vs' _ _ ta m₁ h tk rfl hi' hg N₁ (kst_frOut hp1 hp2 F₁)
end

def InitTells (w : World) (mean : ExcName → Option Value) (mg mb : PySem.Str → Option Value) : Prop :=
  ∀ (dp un : Nat) (gd : Option (List Code)) (cn : PySem.Str) (cs : Scope) (a : Addr) (ccd : Value) (cl : List (PySem.Str × Addr)) (outer : List Env) (A₀ : Around) (base h₀ : Heap) (L : Addr) (m : PySem.Str → Option Value)
    (rest : List (Addr × Obj)) (s : Shared) (Q E : Value → Shared → Prop) (D : Addr) (c : Nat) (vs : List Value) (K : List Int),
    Below A₀ base outer h₀ → Fr h₀ L s.heap m → (hd.heap_39 w.params).In h₀ →
    News h₀ L s.heap ((D, listOf vs.toArray c) :: rest) → OwnOff rest [D] →
    Top hd.view_39 (looseW hd.view_39 [Str.ofString "Arcfour"]) mean mg mb h₀ → cs.kind = .function → IntsAre vs K → 1 ≤ K.length → K.length ≤ 6 →
    dp + 2 < recursionLimit → un + 16 < cLine →
    (∀ (x d l : Addr) (cc : Nat) (vs' : List Value) (S : List Int) (j : Int) (ts ti tj t1 t2 : Tok) h' tk', ksa K = (S, j) → IntsAre vs' S → GoodK (S, j) → (@Ne Nat x d ∧ @Ne Nat x l ∧ @Ne Nat d l) → OwnOff ((D, listOf vs.toArray c) :: rest) [x, d, l] → Fr h₀ L h' m →
      News h₀ L h' ((x, instObj 38 d) :: (d, dictOf [⟨PyData.keyHash w.params (Str.ofString "s"), .str (Str.ofString "s") ts, .ref l⟩, ⟨PyData.keyHash w.params (Str.ofString "i"), .str (Str.ofString "i") ti, .int 0 t1⟩, ⟨PyData.keyHash w.params (Str.ofString "j"), .str (Str.ofString "j") tj, .int 0 t2⟩] 3) :: (l, listOf vs'.toArray cc) :: (D, listOf vs.toArray c) :: rest) →
      Q (.ref x) { s with heap := h', toks := tk' }) →
    wpAny (model PySem.Challenge.rw_bq0010_01.row.prog w) (ktrTop dp un gd cn cs L a ccd cl outer) (call (.ref 38) [.ref D]) Q E s

theorem allLt_get {l : Addr} : ∀ {news : List (Addr × Obj)}, AllLt l news → ∀ p ∈ news, @LT.lt Nat _ p.1 l
  | [], _, _, hp => nomatch hp
  | q :: r, h, p, hp => by
    rcases List.mem_cons.mp hp with rfl | hp
    · exact h.1
    · exact allLt_get h.2 p hp
theorem offs3 {x d D z : Addr} {o1 o2 o3 : Obj} {rest : List (Addr × Obj)} (l1 : @LT.lt Nat _ D d ∧ AllLt d rest) (l2 : d < x) (iO : OwnOff ((x, o1) :: (d, o2) :: (D, o3) :: rest) [z]) :
    (@Ne Nat x d ∧ @Ne Nat x z ∧ @Ne Nat d z) ∧ @Ne Nat D z ∧ OwnOff rest [x, d, z] ∧ OwnOff ((D, o3) :: rest) [x, d, z] := by
  have n5 : OwnOff rest [x, d, z] := fun p hp b hb => by
    have h1 := allLt_get l1.2 p hp
    rcases List.mem_cons.mp hb with rfl | hb
    · exact Nat.ne_of_lt (Nat.lt_trans h1 l2)
    rcases List.mem_cons.mp hb with rfl | hb
    · exact Nat.ne_of_lt h1
    exact iO p (.tail _ (.tail _ (.tail _ hp))) b hb
  refine ⟨⟨(Nat.ne_of_lt l2).symm, iO _ (.head _) _ (.head _), iO _ (.tail _ (.head _)) _ (.head _)⟩, iO _ (.tail _ (.tail _ (.head _))) _ (.head _), n5, fun p hp b hb => ?_⟩
  rcases List.mem_cons.mp hp with rfl | hp
  · rcases List.mem_cons.mp hb with rfl | hb
    · exact Nat.ne_of_lt (Nat.lt_trans l1.1 l2)
    rcases List.mem_cons.mp hb with rfl | hb
    · exact Nat.ne_of_lt l1.1
    exact iO _ (.tail _ (.tail _ (.head _))) b hb
  · exact n5 p hp b hb
theorem offOf {l : Addr} : ∀ {news : List (Addr × Obj)}, AllLt l news → OwnOff news [l]
  | [], _, _, hp, _, _ => nomatch hp
  | q :: r, h, p, hp, b, hb => by
    rw [List.mem_singleton.mp hb]
    rcases List.mem_cons.mp hp with rfl | hp
    · exact Nat.ne_of_lt h.1
    · exact offOf h.2 p hp l (.head _)
local macro_rules | `(tactic| walk_at "call type:list") => `(tactic| (k_here; (with_reducible show wpAny _ _ (call (Value.type _) [Value.ref _]) _ _ _); (rename IsRange _ _ _ _ _ _ _ _ => rgX); (with_unfolding_all refine' list256 ?k0 ?k1 ?k2 ?k3 ?_; (case k0 => rfl); (case k1 => k_asm); (case k2 => k_asm); (case k3 => exact rgX); k_whole); intro D' vs' c' h' tk' F' N' lL hI'; (replace lL := offOf (allLt_of lL)); (try k_sweep)))
local macro_rules | `(tactic| k_mem) => `(tactic| assumption)
local macro_rules | `(tactic| walk_at "pyIter ref") => `(tactic| (k_here; (with_reducible show wpAny _ _ (pyIter (Value.ref _)) (fun it s₂ => LoopAtV _ _ _ _ _ _ _ _ _ it s₂) _ _); refine Stop.of ?_))
set_option maxRecDepth 100000 in
set_option maxHeartbeats 2000000 in
theorem initTells (w : World) (mean : ExcName → Option Value) (mg mb : PySem.Str → Option Value) : InitTells w mean mg mb := by
  w_on
  unfold InitTells
  k_fill
  intro dp un gd cn cs a ccd cl outer A₀ base h₀ L m rest s Q E D c vs K B F KX N hoff T hk hi hK1 hK2 hdp hun hret
  refine' call_cls F KX N ?m ?i ?f ?_
  case m => k_is
  case i => k_is
  case f => k_is
  intro x dx h1 F1 N1 l1 l2
  k_lt l1
  k_dflt cell_enter
  k_steps
  refine Stop.out ?_
  rename IsRange _ _ _ _ _ _ _ _ => rgX
  rename Fr _ _ _ _ => lF'
  rename News _ _ _ _ => lN'
  rename IntsAre _ id256 => iX
  rename OwnOff _ _ => iO
  with_unfolding_all refine initLoop K rfl rgX lF' lN' iX rfl iO ?turn ?done
  case turn =>
    clear rgX lF' lN' iX
    intro k t vs' S' j' ta u h tk own rs hk0 hk1 hof hof1 hof2 hi' hlen' hmem' hj0' hj1' F₂ N₂
    have hDm : (D, listOf vs.toArray c) ∈ rs := hof1 _ (.tail _ (.tail _ (.head _)))
    have hf0 : 0 ≤ k.fmod (K.length : Int) := fmod_lo _ (by omega)
    have hf1 : k.fmod (K.length : Int) < K.length := Int.fmod_lt_of_pos _ (by omega)
    k_steps
    rename Fr _ _ _ _ => F3
    rename News _ _ _ _ => N3
    rename IntsAre _ _ => hI3
    refine' InvEndN.intro F3 N3 (nx := (_, listOf _ _) :: (x, instObj 38 dx) :: (dx, dictOf [] 0) :: (D, listOf vs.toArray c) :: rest) ⟨_, _, rfl, hI3, goodKStep _ _ ⟨hlen', hmem', hj0', hj1'⟩, ?ka, ?kb⟩ rfl ?kn ?ko
    case ka => kst_all
    case kb => kst_same
    case kn =>
      intro y hy
      rcases List.mem_cons.mp hy with rfl | hy
      · exact .tail _ (.head _)
      exact .tail _ (.tail _ (hof1 y hy))
    case ko => exact fun y hy => .tail _ (.tail _ (hof2 y hy))
  case done =>
    clear rgX lF' lN' iX
    intro vs' S' j' ta u h tk hq hi' hG' N₂ F₂
    obtain ⟨n1, n2, n3, n4⟩ := offs3 l1 l2 iO
    k_steps
    rename Fr h₀ L _ m => F3
    rename News h₀ L _ _ => N3
    exact hret _ _ _ _ _ _ _ _ _ _ _ _ _ _ hq hi' hG' n1 n4 F3 (newsSub N3 fun y hy => by
      rcases List.mem_cons.mp hy with rfl | hy
      · exact .tail _ (.tail _ (.head _))
      rcases List.mem_cons.mp hy with rfl | hy
      · exact .tail _ (.tail _ (.tail _ (.head _)))
      rcases List.mem_cons.mp hy with rfl | hy
      · exact .tail _ (.head _)
      exact .tail _ (.tail _ (.tail _ (.tail _ hy))))
end Mine
end

section
open PySem PySem.W PySem.Calls PySem.Spec PyProof.Rows
namespace Mine


/-- the state of the loop of process -/
def PR (x d l : Addr) (c : Nat) (dobj : Obj) (rest : List (Addr × Obj)) (m₀ : PySem.Str → Option Value) (n : Nat) (p : PS) (m : PySem.Str → Option Value) (nx : List (Addr × Obj)) : Prop :=
  ∃ (vs : List Value) (t1 t2 tr : Tok) (r : Array UInt8), nx = (x, instObj 38 d) :: (d, dobj) :: (l, listOf vs.toArray c) :: rest ∧ IntsAre vs p.q.S ∧ Good p.q ∧ KBw.bInts r = p.out ∧ p.out.length = n ∧
    (∀ y ∈ [(Str.ofString "i", Value.int p.q.i t1), (Str.ofString "j", .int p.q.j t2), (Str.ofString "r", .bytes r tr)], m y.1 = some y.2) ∧
    (∀ z, z ≠ Str.ofString "c" → (∀ y ∈ [(Str.ofString "i", Value.int p.q.i t1), (Str.ofString "j", .int p.q.j t2), (Str.ofString "r", .bytes r tr)], z ≠ y.1) → [Str.ofString "k"].contains z = false → m z = m₀ z)

section
variable {prog : Program} {w : World} {A : Around} {E : Value → Shared → Prop} {s : Shared} {env : Env} {h₀ : Heap} {body : List Stmt} {Q : Flow → Shared → Prop} {b : Array UInt8} {tb : Tok}
theorem procLoop {m₀ : PySem.Str → Option Value} {x d l : Addr} {c : Nat} {dobj : Obj} {rest : List (Addr × Obj)} {vs : List Value} {S : List Int} {i j : Int} {t1 t2 tr : Tok}
    (hh : A.handled = none) (F : Fr h₀ env.locals s.heap m₀) (N : News h₀ env.locals s.heap ((x, instObj 38 d) :: (d, dobj) :: (l, listOf vs.toArray c) :: rest))
    (hi : IntsAre vs S) (hG : Good ⟨S, i, j⟩) (m1 : m₀ (Str.ofString "i") = some (.int i t1)) (m2 : m₀ (Str.ofString "j") = some (.int j t2)) (m3 : m₀ (Str.ofString "r") = some (.bytes #[] tr))
    (off : OwnOff rest [x, d, l])
    (turn : ∀ n k t vs' S' i' j' out t1' t2' tr' r (u : PySem.Str → Option Value) h tk own rs, n < b.size → 0 ≤ k → k < 256 → OwnOff rs [x, d, l] → (∀ y ∈ rest, y ∈ rs) → (∀ y ∈ own, y ∈ rs) → IntsAre vs' S' →
      S'.length = 256 → (∀ y ∈ S', 0 ≤ y ∧ y < 256) → 0 ≤ i' → i' < 256 → 0 ≤ j' → j' < 256 → KBw.bInts r = out → out.length = n →
      Fr h₀ env.locals h (fun y => if y = Str.ofString "c" then some (.int k t) else if y = Str.ofString "i" then some (.int i' t1') else if y = Str.ofString "j" then some (.int j' t2') else if y = Str.ofString "r" then some (.bytes r tr') else if [Str.ofString "k"].contains y then u y else m₀ y) →
      News h₀ env.locals h ((x, instObj 38 d) :: (d, dobj) :: (l, listOf vs'.toArray c) :: rs) →
      wpAny (model prog w) A (execs body env) (InvPostN h₀ env.locals (PR x d l c dobj rest m₀ (n + 1) (enc ⟨⟨S', i', j'⟩, out⟩ k)) own (((x, instObj 38 d) :: (d, dobj) :: (l, listOf vs.toArray c) :: rest).map (·.1)) { s with heap := h, toks := tk } Q) E { s with heap := h, toks := tk })
    (done : ∀ vs' q out t1' t2' tr' r (u : PySem.Str → Option Value) h tk, (KBw.bInts b).foldl enc ⟨⟨S, i, j⟩, []⟩ = ⟨q, out⟩ → IntsAre vs' q.S → Good q → KBw.bInts r = out → out.length = b.size → News h₀ env.locals h ((x, instObj 38 d) :: (d, dobj) :: (l, listOf vs'.toArray c) :: rest) →
      Fr h₀ env.locals h (fun y => if y = Str.ofString "c" then u y else if y = Str.ofString "i" then some (.int q.i t1') else if y = Str.ofString "j" then some (.int q.j t2') else if y = Str.ofString "r" then some (.bytes r tr') else if [Str.ofString "k"].contains y then u y else m₀ y) →
      Q .next { s with heap := h, toks := tk }) :
    wpAny (model prog w) A (call (.builtin "iter") [.bytes b tb]) (fun xv s₁ => wpAny (model prog w) A (pyIter xv) (fun it s₂ => LoopAtV prog w A h₀ env (Str.ofString "c") body Q E it s₂) E s₁) E s := by
  refine iterB (PR x d l c dobj rest m₀) enc ⟨⟨S, i, j⟩, []⟩ hh F N ⟨vs, t1, t2, tr, #[], rfl, hi, hG, rfl, rfl, ?_, fun _ _ _ _ => rfl⟩ ?_ ?_
  · simp [m1, m2, m3]
  · rintro n k t ⟨⟨S', i', j'⟩, out⟩ m₁ nx h tk own hn hk0 hk1 hof ⟨vs', ta, tb', tr', r, rfl, hi', hg, hr, hl, hp1, hp2⟩ F₁ N₁
    have hof' : OwnOff (rest ++ own) [x, d, l] := fun y hy z hz => (List.mem_append.mp hy).elim (fun h1 => off y h1 z hz) (fun h1 => hof y h1 z (by rcases List.mem_cons.mp hz with rfl | hz; exact .head _; rcases List.mem_cons.mp hz with rfl | hz; exact .tail _ (.head _); rcases List.mem_cons.mp hz with rfl | hz; exact .tail _ (.tail _ (.head _)); cases hz))
    exact turn n k t vs' S' i' j' out ta tb' tr' r m₁ h tk own (rest ++ own) hn hk0 hk1 hof' (fun y hy => List.mem_append_left _ hy) (fun y hy => List.mem_append_right _ hy) hi' hg.len hg.mem hg.i0 hg.i1 hg.j0 hg.j1 hr hl (kst_fr hp1 hp2 F₁) N₁
  · rintro m₁ nx h tk ⟨vs', ta, tb', tr', r, rfl, hi', hg, hr, hl, hp1, hp2⟩ F₁ N₁
    refine done vs' _ _ ta tb' tr' r m₁ h tk rfl hi' hg hr hl N₁ ?_
    exact kst_frOut hp1 hp2 F₁
end

section
variable {prog : Program} {w : World} {A : Around} {E : Value → Shared → Prop} {s : Shared} {h₀ : Heap} {L D : Addr} {m : PySem.Str → Option Value} {news : List (Addr × Obj)}
theorem bytesOneK {n : Int} {t : Tok} {Q : Value → Shared → Prop} (F : Fr h₀ L s.heap m) (N : News h₀ L s.heap news) (hm : (D, ({ cls := .type "tuple", data := .seq #[.int n t] } : Obj)) ∈ news) (hh : A.handled = none) (h : 0 ≤ n ∧ n < 256)
    (hQ : ∀ h' t' k, Fr h₀ L h' m → News h₀ L h' news → KBw.bInts (byteArr [n]) = [n] → Q (.bytes (byteArr [n]) t') { s with heap := h', toks := k }) : wpAny (model prog w) A (call (.type "bytes") [.ref D]) Q E s :=
  bytesOne hh ⟨_, (N _ hm).1, rfl, _, rfl⟩ h.1 h.2 fun h' t' k hk => hQ h' t' k (F.keptAll hk) (N.grown hk) (KBa.ints_make fun y hy => (List.mem_singleton.mp hy) ▸ h)
end
theorem xrGet {k : Int} {S : List Int} {n : Nat} (h0 : 0 ≤ k) (h1 : k < 256) (h : ∀ y ∈ S, 0 ≤ y ∧ y < 256) : 0 ≤ Builtin.bitXor k (S.getD n 0) ∧ Builtin.bitXor k (S.getD n 0) < 256 := xrIn h0 h1 (getIn h n).1 (getIn h n).2
local macro_rules | `(tactic| walk_at "call type:bytes") => `(tactic| (k_here; (with_reducible show wpAny _ _ (call (Value.type "bytes") [Value.ref _]) _ _ _); k_dflt (refine' bytesOneK ?k1 ?k2 ?k3 ?k4 ?k5 ?_; (case k1 => k_asm); (case k2 => k_asm); (case k3 => k_mem); (case k4 => rfl); (case k5 => exact xrGet (by assumption) (by assumption) (setIn (setIn (by assumption) (getIn (by assumption) _) _) (getIn (by assumption) _) _)); k_whole); intro h' t' k' F' N' kbaE; (try k_sweep)))
local macro_rules | `(tactic| walk_at "inplaceOp Add bytes bytes") => `(tactic| (k_here; k_dflt (refine' iaddK ?k1 ?k2 ?k3 ?_; (case k1 => with_reducible assumption); (case k2 => with_reducible assumption); (case k3 => simp only [List.length_cons, List.length_nil]; omega); k_whole); intro t' k' kbaE))

def ProcTells (w : World) (mean : ExcName → Option Value) (mg mb : PySem.Str → Option Value) : Prop :=
  ∀ (dp un : Nat) (gd : Option (List Code)) (cn : PySem.Str) (cs : Scope) (a : Addr) (ccd : Value) (cl : List (PySem.Str × Addr)) (outer : List Env) (A₀ : Around) (base h₀ : Heap) (L : Addr) (m : PySem.Str → Option Value)
    (rest : List (Addr × Obj)) (s : Shared) (Q E : Value → Shared → Prop) (x d l : Addr) (c : Nat) (vs : List Value) (S : List Int) (i j : Int) (ts ti tj t1 t2 tb : Tok) (b : Array UInt8),
    Below A₀ base outer h₀ → Fr h₀ L s.heap m → (hd.heap_39 w.params).In h₀ →
    News h₀ L s.heap ((x, instObj 38 d) :: (d, dictOf [⟨PyData.keyHash w.params (Str.ofString "s"), .str (Str.ofString "s") ts, .ref l⟩, ⟨PyData.keyHash w.params (Str.ofString "i"), .str (Str.ofString "i") ti, .int i t1⟩, ⟨PyData.keyHash w.params (Str.ofString "j"), .str (Str.ofString "j") tj, .int j t2⟩] 3) :: (l, listOf vs.toArray c) :: rest) →
    (@Ne Nat x d ∧ @Ne Nat x l ∧ @Ne Nat d l) → OwnOff rest [x, d, l] →
    Top hd.view_39 (looseW hd.view_39 [Str.ofString "Arcfour"]) mean mg mb h₀ → cs.kind = .function → IntsAre vs S → Good ⟨S, i, j⟩ → b.size ≤ 256 →
    dp + 1 < recursionLimit → un + 8 < cLine →
    (∀ (vs' : List Value) (ti' tj' tr : Tok) (r : Array UInt8) (q : St) (out : List Int) h' tk', (KBw.bInts b).foldl enc ⟨⟨S, i, j⟩, []⟩ = ⟨q, out⟩ → IntsAre vs' q.S → Good q → KBw.bInts r = out → out.length = b.size → Fr h₀ L h' m →
      News h₀ L h' ((x, instObj 38 d) :: (d, dictOf [⟨PyData.keyHash w.params (Str.ofString "s"), .str (Str.ofString "s") ts, .ref l⟩, ⟨PyData.keyHash w.params (Str.ofString "i"), .str (Str.ofString "i") ti, .int q.i ti'⟩, ⟨PyData.keyHash w.params (Str.ofString "j"), .str (Str.ofString "j") tj, .int q.j tj'⟩] 3) :: (l, listOf vs'.toArray c) :: rest) →
      Q (.bytes r tr) { s with heap := h', toks := tk' }) →
    wpAny (model PySem.Challenge.rw_bq0010_01.row.prog w) (ktrTop dp un gd cn cs L a ccd cl outer) (call (.ref 35) [.ref x, .bytes b tb]) Q E s

set_option maxRecDepth 100000 in
set_option maxHeartbeats 2000000 in
theorem procTells (w : World) (mean : ExcName → Option Value) (mg mb : PySem.Str → Option Value) : ProcTells w mean mg mb := by
  w_on
  unfold ProcTells
  k_fill
  intro dp un gd cn cs a ccd cl outer A₀ base h₀ L m rest s Q E x d l c vs S i j ts ti tj t1 t2 tb b B F KX N hne hoff T hk hi hG hb hdp hun hret
  refine wpAny_call ?_
  k_dflt cell_enter
  k_steps
  rename Fr _ _ _ _ => F1
  rename News _ _ _ _ => N1
  refine procLoop rfl F1 (newsSub N1 (fun p hp => List.mem_cons_of_mem _ hp)) hi hG rfl rfl rfl hoff ?_ ?_
  · clear F1 N1 hi hG
    intro n k t vs' S' i' j' out ta tb' tr' r u h tk own rs hn hk0 hk1 hof hof1 hof2 hi' hlen' hmem' hi0' hi1' hj0' hj1' hr hl F₂ N₂
    k_steps
    rename Fr _ _ _ _ => F3
    rename News _ _ _ _ => N3
    rename KBw.bInts (_ ++ _) = _ => hE
    rename IntsAre _ _ => hI3
    refine' InvEndN.intro F3 N3 (nx := (x, instObj 38 d) :: (d, _) :: (l, listOf _ c) :: rest) ⟨_, _, _, _, _, rfl, hI3, stpGood ⟨hlen', hmem', hi0', hi1', hj0', hj1'⟩, hE, ?kl, ?ka, ?kb⟩ rfl ?kn ?ko
    case ka => kst_all
    case kb => kst_same
    case kl => simp only [enc, List.length_append, List.length_cons, List.length_nil]; omega
    case kn =>
      intro y hy
      rcases List.mem_cons.mp hy with rfl | hy
      · exact .tail _ (.tail _ (.head _))
      rcases List.mem_cons.mp hy with rfl | hy
      · exact .tail _ (.tail _ (.tail _ (.head _)))
      rcases List.mem_cons.mp hy with rfl | hy
      · exact .tail _ (.tail _ (.tail _ (.tail _ (.head _))))
      exact .tail _ (.tail _ (.tail _ (.tail _ (.tail _ (hof1 y hy)))))
    case ko => exact fun y hy => .tail _ (.tail _ (.tail _ (.tail _ (.tail _ (hof2 y hy)))))
  · clear F1 N1 hi hG
    intro vs' q out ta tb' tr' r u h tk hq hi' hG' hr hl N₂ F₂
    k_steps
    rename Fr h₀ L _ m => F3
    rename News h₀ L _ _ => N3
    exact hret _ _ _ _ _ _ _ _ _ hq hi' hG' hr hl F3 (newsSub N3 fun y hy => .tail _ hy)
end Mine
end

section
open PySem PySem.W PySem.Calls PySem.Spec PyProof.Rows
set_option maxRecDepth 100000
namespace Mine

section
variable {w : World} {mean : ExcName → Option Value} {mg mb : PySem.Str → Option Value} {dp un : Nat} {gd : Option (List Code)} {cn : PySem.Str} {cs : Scope} {a : Addr} {ccd : Value} {cl : List (PySem.Str × Addr)} {outer : List Env} {A₀ : Around} {base h₀ : Heap} {L : Addr} {m : PySem.Str → Option Value}
  {s : Shared} {Q E : Value → Shared → Prop}
/-- a call of process, as its contract has it -/
theorem procUse {x d l y : Addr} {oy : Obj} {c : Nat} {vs : List Value} {S : List Int} {i j : Int} {ts ti tj t1 t2 tb : Tok} {b : Array UInt8} {kk : List Int} {rest : List (Addr × Obj)} (B : Below A₀ base outer h₀) (F : Fr h₀ L s.heap m) (X : (hd.heap_39 w.params).In h₀)
    (N : News h₀ L s.heap ((y, oy) :: (x, instObj 38 d) :: (d, dictOf [⟨PyData.keyHash w.params (Str.ofString "s"), .str (Str.ofString "s") ts, .ref l⟩, ⟨PyData.keyHash w.params (Str.ofString "i"), .str (Str.ofString "i") ti, .int i t1⟩, ⟨PyData.keyHash w.params (Str.ofString "j"), .str (Str.ofString "j") tj, .int j t2⟩] 3) :: (l, listOf vs.toArray c) :: rest))
    (hne : @Ne Nat x d ∧ @Ne Nat x l ∧ @Ne Nat d l) (off : OwnOff rest [x, d, l]) (T : Top hd.view_39 (looseW hd.view_39 [Str.ofString "Arcfour"]) mean mg mb h₀) (hk : cs.kind = .function) (hi : IntsAre vs S) (hG : Good ⟨S, i, j⟩) (hb : kk.length ≤ 256) (hbi : KBw.bInts b = kk)
    (hdp : dp + 1 < recursionLimit) (hun : un + 8 < cLine)
    (ret : ∀ (vs' : List Value) (ti' tj' tr : Tok) (r : Array UInt8) (q : St) (out : List Int) h' tk', kk.foldl enc ⟨⟨S, i, j⟩, []⟩ = ⟨q, out⟩ → IntsAre vs' q.S → Good q → KBw.bInts r = out → out.length = kk.length → Fr h₀ L h' m →
      News h₀ L h' ((x, instObj 38 d) :: (d, dictOf [⟨PyData.keyHash w.params (Str.ofString "s"), .str (Str.ofString "s") ts, .ref l⟩, ⟨PyData.keyHash w.params (Str.ofString "i"), .str (Str.ofString "i") ti, .int q.i ti'⟩, ⟨PyData.keyHash w.params (Str.ofString "j"), .str (Str.ofString "j") tj, .int q.j tj'⟩] 3) :: (l, listOf vs'.toArray c) :: rest) →
      Q (.bytes r tr) { s with heap := h', toks := tk' }) :
    wpAny (model PySem.Challenge.rw_bq0010_01.row.prog w) (ktrTop dp un gd cn cs L a ccd cl outer) (call (.ref 35) [.ref x, .bytes b tb]) Q E s := by
  subst hbi
  rw [KBw.ints_length] at hb ret
  exact procTells w mean mg mb dp un gd cn cs a ccd cl outer A₀ base h₀ L m rest s Q E x d l c vs S i j ts ti tj t1 t2 tb b B F X (newsSub N fun _ hp => .tail _ hp) hne off T hk hi hG hb hdp hun ret

theorem procUse1 {x d l y : Addr} {oy : Obj} {c : Nat} {vs : List Value} {S : List Int} {i j k : Int} {ts ti tj t1 t2 tb : Tok} {b : Array UInt8} {rest : List (Addr × Obj)} (B : Below A₀ base outer h₀) (F : Fr h₀ L s.heap m) (X : (hd.heap_39 w.params).In h₀)
    (N : News h₀ L s.heap ((y, oy) :: (x, instObj 38 d) :: (d, dictOf [⟨PyData.keyHash w.params (Str.ofString "s"), .str (Str.ofString "s") ts, .ref l⟩, ⟨PyData.keyHash w.params (Str.ofString "i"), .str (Str.ofString "i") ti, .int i t1⟩, ⟨PyData.keyHash w.params (Str.ofString "j"), .str (Str.ofString "j") tj, .int j t2⟩] 3) :: (l, listOf vs.toArray c) :: rest))
    (hne : @Ne Nat x d ∧ @Ne Nat x l ∧ @Ne Nat d l) (off : OwnOff rest [x, d, l]) (T : Top hd.view_39 (looseW hd.view_39 [Str.ofString "Arcfour"]) mean mg mb h₀) (hk : cs.kind = .function) (hi : IntsAre vs S) (hG : Good ⟨S, i, j⟩) (hbi : KBw.bInts b = [k])
    (hdp : dp + 1 < recursionLimit) (hun : un + 8 < cLine)
    (ret : ∀ (vs' : List Value) (ti' tj' tr : Tok) (r : Array UInt8) (S2 : List Int) (i2 j2 z : Int) h' tk', stp ⟨S, i, j⟩ = ⟨S2, i2, j2⟩ → z = ks ⟨S2, i2, j2⟩ → 0 ≤ z → z < 256 → IntsAre vs' S2 → S2.length = 256 → (∀ y ∈ S2, 0 ≤ y ∧ y < 256) → 0 ≤ i2 → i2 < 256 → 0 ≤ j2 → j2 < 256 →
      KBw.bInts r = [Builtin.bitXor k z] → Fr h₀ L h' m →
      News h₀ L h' ((x, instObj 38 d) :: (d, dictOf [⟨PyData.keyHash w.params (Str.ofString "s"), .str (Str.ofString "s") ts, .ref l⟩, ⟨PyData.keyHash w.params (Str.ofString "i"), .str (Str.ofString "i") ti, .int i2 ti'⟩, ⟨PyData.keyHash w.params (Str.ofString "j"), .str (Str.ofString "j") tj, .int j2 tj'⟩] 3) :: (l, listOf vs'.toArray c) :: rest) →
      Q (.bytes r tr) { s with heap := h', toks := tk' }) :
    wpAny (model PySem.Challenge.rw_bq0010_01.row.prog w) (ktrTop dp un gd cn cs L a ccd cl outer) (call (.ref 35) [.ref x, .bytes b tb]) Q E s := by
  refine procUse (kk := [k]) B F X N hne off T hk hi hG (show 1 ≤ 256 by decide) hbi hdp hun ?_
  intro vs' ti' tj' tr r q out h' tk' hq hi' hG' hr _ F' N'
  obtain ⟨e1, e2⟩ := PS.mk.inj hq
  obtain ⟨S2, i2, j2⟩ := q
  refine ret vs' ti' tj' tr r S2 i2 j2 _ h' tk' e1 rfl (ksIn hG').1 (ksIn hG').2 hi' hG'.len hG'.mem hG'.i0 hG'.i1 hG'.j0 hG'.j1 ?_ F' N'
  rw [hr, ← e2, ← e1]
  rfl
end

theorem offNil {b : Addr} : OwnOff [] [b] := fun _ h => nomatch h
theorem offCons {a b : Addr} {o : Obj} {rest : List (Addr × Obj)} (h1 : @Ne Nat a b) (h : OwnOff rest [b]) : OwnOff ((a, o) :: rest) [b] := fun p hp c hc => by
  rcases List.mem_cons.mp hp with rfl | hp
  · rw [List.mem_singleton.mp hc]
    exact h1
  · exact h p hp c hc
theorem offOne3 {e x d l : Addr} {oe : Obj} (h : @Ne Nat e x ∧ @Ne Nat e d ∧ @Ne Nat e l) : OwnOff [(e, oe)] [x, d, l] := fun p hp b hb => by
  rw [List.mem_singleton.mp hp]
  simp only [List.mem_cons, List.not_mem_nil, or_false] at hb
  rcases hb with rfl | rfl | rfl
  · exact h.1
  · exact h.2.1
  · exact h.2.2
theorem offTwo3 {b e x d l : Addr} {ob oe : Obj} (h1 : @LT.lt Nat _ x b ∧ @LT.lt Nat _ d b ∧ @LT.lt Nat _ l b) (h : @Ne Nat e x ∧ @Ne Nat e d ∧ @Ne Nat e l) : OwnOff [(b, ob), (e, oe)] [x, d, l] := fun p hp c hc => by
  rcases List.mem_cons.mp hp with rfl | hp
  · simp only [List.mem_cons, List.not_mem_nil, or_false] at hc
    rcases hc with rfl | rfl | rfl
    · exact (Nat.ne_of_lt h1.1).symm
    · exact (Nat.ne_of_lt h1.2.1).symm
    · exact (Nat.ne_of_lt h1.2.2).symm
  · exact offOne3 h p hp c hc
theorem permN {h₀ h : Heap} {L : Addr} {b t x d l e : Addr × Obj} (N : News h₀ L h [b, t, x, d, l, e]) : News h₀ L h (t :: x :: d :: l :: [b, e]) := newsSub N fun p hp => by
  simp only [List.mem_cons, List.not_mem_nil, or_false] at hp ⊢
  rcases hp with h | h | h | h | h | h <;> simp [h]
/-- the cipher's dict -/
abbrev dOb (w : World) (l : Addr) (ts ti tj : Tok) (i j : Int) (t1 t2 : Tok) : Obj :=
  dictOf [⟨PyData.keyHash w.params (Str.ofString "s"), .str (Str.ofString "s") ts, .ref l⟩, ⟨PyData.keyHash w.params (Str.ofString "i"), .str (Str.ofString "i") ti, .int i t1⟩, ⟨PyData.keyHash w.params (Str.ofString "j"), .str (Str.ofString "j") tj, .int j t2⟩] 3

/-- the state of the law's first loop -/
def R1 (w : World) (x d l st fi e : Addr) (cc : Nat) (ts ti tj : Tok) (ofi oe : Obj) (m₀ : PySem.Str → Option Value) (n : Nat) (p : PS) (m : PySem.Str → Option Value) (nx : List (Addr × Obj)) : Prop :=
  ∃ (vs ls : List Value) (t1 t2 : Tok) (cs : Nat), nx = [(x, instObj 38 d), (d, dictOf [⟨PyData.keyHash w.params (Str.ofString "s"), .str (Str.ofString "s") ts, .ref l⟩, ⟨PyData.keyHash w.params (Str.ofString "i"), .str (Str.ofString "i") ti, .int p.q.i t1⟩, ⟨PyData.keyHash w.params (Str.ofString "j"), .str (Str.ofString "j") tj, .int p.q.j t2⟩] 3), (l, listOf vs.toArray cc), (st, listOf ls.toArray cs), (fi, ofi), (e, oe)] ∧
    IntsAre vs p.q.S ∧ Good p.q ∧ ¬ Fin p.q ∧ IntsAre ls p.out ∧ p.out.length = n ∧ (∀ z, z ≠ Str.ofString "octet" → m z = m₀ z)

section
variable {prog : Program} {w : World} {A : Around} {E : Value → Shared → Prop} {s : Shared} {h₀ : Heap} {env : Env} {body : List Stmt} {Q : Flow → Shared → Prop} {b : Array UInt8} {tb : Tok}
theorem law1 {m₀ : PySem.Str → Option Value} {x d l st fi e tp : Addr} {cc : Nat} {ofi oe otp : Obj} {ts ti tj t1 t2 : Tok} {vs : List Value} {S : List Int} {i j : Int}
    (hh : A.handled = none) (F : Fr h₀ env.locals s.heap m₀)
    (N : News h₀ env.locals s.heap [(tp, otp), (st, listOf #[] 0), (fi, ofi), (x, instObj 38 d), (d, dictOf [⟨PyData.keyHash w.params (Str.ofString "s"), .str (Str.ofString "s") ts, .ref l⟩, ⟨PyData.keyHash w.params (Str.ofString "i"), .str (Str.ofString "i") ti, .int i t1⟩, ⟨PyData.keyHash w.params (Str.ofString "j"), .str (Str.ofString "j") tj, .int j t2⟩] 3), (l, listOf vs.toArray cc), (e, oe)])
    (hi : IntsAre vs S) (hG : Good ⟨S, i, j⟩) (hF : ¬ Fin ⟨S, i, j⟩) (hne : @Ne Nat x d ∧ @Ne Nat x l ∧ @Ne Nat d l) (hst : @LT.lt Nat _ x st ∧ @LT.lt Nat _ d st ∧ @LT.lt Nat _ l st ∧ @LT.lt Nat _ e st ∧ @LT.lt Nat _ fi st)
    (hfi : @LT.lt Nat _ x fi ∧ @LT.lt Nat _ d fi ∧ @LT.lt Nat _ l fi ∧ @LT.lt Nat _ e fi) (hce : @Ne Nat e x ∧ @Ne Nat e d ∧ @Ne Nat e l)
    (turn : ∀ n k t vs' ls str S' i' j' t1' t2' cs h tk own rs, n < b.size → 0 ≤ k → k < 256 → OwnOff rs [x, d, l, st] → OwnOff ((st, listOf (List.toArray ls) cs) :: rs) [x, d, l] → (∀ y ∈ [(fi, ofi), (e, oe)], y ∈ rs) → (∀ y ∈ own, y ∈ rs) →
      IntsAre vs' S' → Good ⟨S', i', j'⟩ → ¬ Fin ⟨S', i', j'⟩ → IntsAre ls str → str.length = n →
      Fr h₀ env.locals h (fun y => if y = Str.ofString "octet" then some (.int k t) else m₀ y) →
      News h₀ env.locals h ((x, instObj 38 d) :: (d, dictOf [⟨PyData.keyHash w.params (Str.ofString "s"), .str (Str.ofString "s") ts, .ref l⟩, ⟨PyData.keyHash w.params (Str.ofString "i"), .str (Str.ofString "i") ti, .int i' t1'⟩, ⟨PyData.keyHash w.params (Str.ofString "j"), .str (Str.ofString "j") tj, .int j' t2'⟩] 3) :: (l, listOf vs'.toArray cc) :: (st, listOf ls.toArray cs) :: rs) →
      wpAny (model prog w) A (execs body env) (InvPostN h₀ env.locals (R1 w x d l st fi e cc ts ti tj ofi oe m₀ (n + 1) (run1 ⟨⟨S', i', j'⟩, str⟩ k)) own [x, d, l, st, fi, e] { s with heap := h, toks := tk } Q) E { s with heap := h, toks := tk })
    (done : ∀ vs' ls q str t1' t2' cs (u : PySem.Str → Option Value) h tk, (KBw.bInts b).foldl run1 ⟨⟨S, i, j⟩, []⟩ = ⟨q, str⟩ → IntsAre vs' q.S → Good q → IntsAre ls str → str.length = b.size →
      News h₀ env.locals h [(x, instObj 38 d), (d, dictOf [⟨PyData.keyHash w.params (Str.ofString "s"), .str (Str.ofString "s") ts, .ref l⟩, ⟨PyData.keyHash w.params (Str.ofString "i"), .str (Str.ofString "i") ti, .int q.i t1'⟩, ⟨PyData.keyHash w.params (Str.ofString "j"), .str (Str.ofString "j") tj, .int q.j t2'⟩] 3), (l, listOf vs'.toArray cc), (st, listOf ls.toArray cs), (fi, ofi), (e, oe)] →
      Fr h₀ env.locals h (fun y => if y = Str.ofString "octet" then u y else m₀ y) →
      Q .next { s with heap := h, toks := tk }) :
    wpAny (model prog w) A (pyIter (.bytes b tb)) (fun it s₂ => LoopAtV prog w A h₀ env (Str.ofString "octet") body Q E it s₂) E s := by
  refine iterY (R1 w x d l st fi e cc ts ti tj ofi oe m₀) run1 ⟨⟨S, i, j⟩, []⟩ hh F
    (newsSub N (b := [(x, instObj 38 d), (d, dictOf [⟨PyData.keyHash w.params (Str.ofString "s"), .str (Str.ofString "s") ts, .ref l⟩, ⟨PyData.keyHash w.params (Str.ofString "i"), .str (Str.ofString "i") ti, .int i t1⟩, ⟨PyData.keyHash w.params (Str.ofString "j"), .str (Str.ofString "j") tj, .int j t2⟩] 3), (l, listOf vs.toArray cc), (st, listOf #[] 0), (fi, ofi), (e, oe)])
      (fun p hp => ?_)) ⟨vs, [], t1, t2, 0, rfl, hi, hG, hF, IntsAre.nil, rfl, fun _ _ => rfl⟩ ?_ ?_
  · simp only [List.mem_cons, List.not_mem_nil, or_false] at hp ⊢
    rcases hp with h | h | h | h | h | h <;> simp [h]
  · rintro n k t ⟨⟨S', i', j'⟩, str⟩ m₁ nx h tk own hn hk0 hk1 hof ⟨vs', ls, ta, tb', cs, rfl, hi', hg, hf, hl, hln, hm⟩ F₁ N₁
    rw [map_none hm] at F₁
    have hof' : OwnOff ((fi, ofi) :: (e, oe) :: own) [x, d, l, st] := by
      intro y hy z hz
      rcases List.mem_cons.mp hy with rfl | hy
      · simp only [List.mem_cons, List.not_mem_nil, or_false] at hz
        rcases hz with rfl | rfl | rfl | rfl
        · exact (Nat.ne_of_lt hfi.1).symm
        · exact (Nat.ne_of_lt hfi.2.1).symm
        · exact (Nat.ne_of_lt hfi.2.2.1).symm
        · exact Nat.ne_of_lt hst.2.2.2.2
      rcases List.mem_cons.mp hy with rfl | hy
      · simp only [List.mem_cons, List.not_mem_nil, or_false] at hz
        rcases hz with rfl | rfl | rfl | rfl
        · exact hce.1
        · exact hce.2.1
        · exact hce.2.2
        · exact Nat.ne_of_lt hst.2.2.2.1
      refine hof y hy z ?_
      simp only [List.map_cons, List.map_nil, List.mem_cons, List.not_mem_nil, or_false] at hz ⊢
      rcases hz with h | h | h | h <;> simp [h]
    have hof2 : OwnOff ((st, listOf (List.toArray ls) cs) :: (fi, ofi) :: (e, oe) :: own) [x, d, l] := by
      intro y hy z hz
      rcases List.mem_cons.mp hy with rfl | hy
      · simp only [List.mem_cons, List.not_mem_nil, or_false] at hz
        rcases hz with rfl | rfl | rfl
        · exact (Nat.ne_of_lt hst.1).symm
        · exact (Nat.ne_of_lt hst.2.1).symm
        · exact (Nat.ne_of_lt hst.2.2.1).symm
      · refine hof' y hy z ?_
        simp only [List.mem_cons, List.not_mem_nil, or_false] at hz ⊢
        rcases hz with h | h | h <;> simp [h]
    exact turn n k t vs' ls str S' i' j' ta tb' cs h tk own ((fi, ofi) :: (e, oe) :: own) hn hk0 hk1 hof' hof2 (fun y hy => by rcases List.mem_cons.mp hy with rfl | hy; exact .head _; rcases List.mem_cons.mp hy with rfl | hy; exact .tail _ (.head _); cases hy)
      (fun y hy => .tail _ (.tail _ hy)) hi' hg hf hl hln F₁ N₁
  · rintro m₁ nx h tk ⟨vs', ls, ta, tb', cs, rfl, hi', hg, hf, hl, hln, hm⟩ F₁ N₁
    refine done vs' ls _ _ ta tb' cs m₁ h tk rfl hi' hg hl hln N₁ ?_
    rw [done_none hm]
    exact F₁

theorem law1End {m₀ m' : PySem.Str → Option Value} {x d l st fi e : Addr} {cc : Nat} {ofi oe : Obj} {ts ti tj t1 t2 tv : Tok} {vs ls : List Value} {str S S2 : List Int} {i j i2 j2 z k v : Int} {n c' : Nat} {L : Addr} {own rs : List (Addr × Obj)} {s₁ : Shared} {h' : Heap} {tk : Nat}
    (F : Fr h₀ L h' m')
    (N : News h₀ L h' ((x, instObj 38 d) :: (d, dictOf [⟨PyData.keyHash w.params (Str.ofString "s"), .str (Str.ofString "s") ts, .ref l⟩, ⟨PyData.keyHash w.params (Str.ofString "i"), .str (Str.ofString "i") ti, .int i2 t1⟩, ⟨PyData.keyHash w.params (Str.ofString "j"), .str (Str.ofString "j") tj, .int j2 t2⟩] 3) :: (l, listOf vs.toArray cc) :: (st, listOf (List.toArray (ls ++ [Value.int v tv])) c') :: rs))
    (hin : ∀ y ∈ [(fi, ofi), (e, oe)], y ∈ rs) (hown : ∀ y ∈ own, y ∈ rs) (hst : stp ⟨S, i, j⟩ = ⟨S2, i2, j2⟩) (hz : z = ks ⟨S2, i2, j2⟩) (hv : v = z) (hi : IntsAre vs S2) (hG : Good ⟨S2, i2, j2⟩) (hF : ¬ Fin ⟨S2, i2, j2⟩) (hls : IntsAre ls str) (hln : str.length = n)
    (hm : ∀ q, q ≠ Str.ofString "octet" → m' q = m₀ q) :
    InvEndN h₀ L (R1 w x d l st fi e cc ts ti tj ofi oe m₀ (n + 1) (run1 ⟨⟨S, i, j⟩, str⟩ k)) own [x, d, l, st, fi, e] s₁ { s₁ with heap := h', toks := tk } := by
  subst hv hz
  refine InvEndN.intro F N (nx := [(x, instObj 38 d), (d, dictOf [⟨PyData.keyHash w.params (Str.ofString "s"), .str (Str.ofString "s") ts, .ref l⟩, ⟨PyData.keyHash w.params (Str.ofString "i"), .str (Str.ofString "i") ti, .int i2 t1⟩, ⟨PyData.keyHash w.params (Str.ofString "j"), .str (Str.ofString "j") tj, .int j2 t2⟩] 3), (l, listOf vs.toArray cc), (st, listOf (List.toArray (ls ++ [Value.int (ks ⟨S2, i2, j2⟩) tv])) c'), (fi, ofi), (e, oe)])
    ⟨vs, ls ++ [Value.int (ks ⟨S2, i2, j2⟩) tv], t1, t2, c', ?_⟩ rfl ?_ ?_
  · have hq : run1 ⟨⟨S, i, j⟩, str⟩ k = ⟨⟨S2, i2, j2⟩, str ++ [ks ⟨S2, i2, j2⟩]⟩ := by unfold run1; rw [hst]
    rw [hq]
    exact ⟨rfl, hi, hG, hF, intsAre_append hls (IntsAre.cons _ _ IntsAre.nil), by simp [hln], hm⟩
  · intro y hy
    rcases List.mem_cons.mp hy with rfl | hy
    · exact .head _
    rcases List.mem_cons.mp hy with rfl | hy
    · exact .tail _ (.head _)
    rcases List.mem_cons.mp hy with rfl | hy
    · exact .tail _ (.tail _ (.head _))
    rcases List.mem_cons.mp hy with rfl | hy
    · exact .tail _ (.tail _ (.tail _ (.head _)))
    exact .tail _ (.tail _ (.tail _ (.tail _ (hin y hy))))
  · exact fun y hy => .tail _ (.tail _ (.tail _ (.tail _ (hown y hy))))
end
end Mine
namespace Mine
/-- the state of the law's second loop -/
def R2 (bx : Addr) (fx : List (Addr × Obj)) (m₀ : PySem.Str → Option Value) (n : Nat) (p : PS) (m : PySem.Str → Option Value) (nx : List (Addr × Obj)) : Prop :=
  ∃ (vb lb : List Value) (t1 t2 : Tok) (cb ck : Nat) (bk : Addr), nx = (bx, listOf vb.toArray cb) :: (bk, listOf lb.toArray ck) :: fx ∧ IntsAre vb p.q.S ∧ Good p.q ∧ IntsAre lb p.out ∧ p.out.length = n ∧ @Ne Nat bk bx ∧
    (∀ y ∈ [(Str.ofString "i", Value.int p.q.i t1), (Str.ofString "j", Value.int p.q.j t2), (Str.ofString "back", Value.ref bk)], m y.1 = some y.2) ∧
    (∀ z, z ≠ Str.ofString "octet" → (∀ y ∈ [(Str.ofString "i", Value.int p.q.i t1), (Str.ofString "j", Value.int p.q.j t2), (Str.ofString "back", Value.ref bk)], z ≠ y.1) → ([] : List PySem.Str).contains z = false → m z = m₀ z)
section
variable {prog : Program} {w : World} {A : Around} {E : Value → Shared → Prop} {s : Shared} {h₀ : Heap} {env : Env} {body : List Stmt} {Q : Flow → Shared → Prop} {b : Array UInt8} {tb : Tok}
theorem law2 {m₀ : PySem.Str → Option Value} {bx bk tp : Addr} {cb : Nat} {otp : Obj} {fx : List (Addr × Obj)} {t1 t2 : Tok} {vb : List Value} {S : List Int} {i j : Int}
    (hh : A.handled = none) (F : Fr h₀ env.locals s.heap m₀)
    (N : News h₀ env.locals s.heap ((tp, otp) :: (bk, listOf #[] 0) :: (bx, listOf vb.toArray cb) :: fx))
    (hi : IntsAre vb S) (hG : Good ⟨S, i, j⟩) (hbk : @Ne Nat bk bx) (hfx : OwnOff fx [bx])
    (m1 : m₀ (Str.ofString "i") = some (.int i t1)) (m2 : m₀ (Str.ofString "j") = some (.int j t2)) (m3 : m₀ (Str.ofString "back") = some (.ref bk))
    (turn : ∀ n k t vb' lb S' i' j' bl t1' t2' cb' ck bk' (u : PySem.Str → Option Value) h tk own rs, n < b.size → OwnOff rs [bx] → @Ne Nat bk' bx → (∀ y ∈ fx, y ∈ rs) → (∀ y ∈ own, y ∈ rs) → (∀ p ∈ fx, ∀ q ∈ own, p.1 ≠ q.1) → (∀ q ∈ own, bx ≠ q.1) →
      IntsAre vb' S' → Good ⟨S', i', j'⟩ → IntsAre lb bl → bl.length = n →
      Fr h₀ env.locals h (fun y => if y = Str.ofString "octet" then some (.int k t) else if y = Str.ofString "i" then some (.int i' t1') else if y = Str.ofString "j" then some (.int j' t2') else if y = Str.ofString "back" then some (.ref bk') else if ([] : List PySem.Str).contains y then u y else m₀ y) →
      News h₀ env.locals h ((bx, listOf (List.toArray vb') cb') :: (bk', listOf (List.toArray lb) ck) :: rs) →
      wpAny (model prog w) A (execs body env) (PostZ h₀ env.locals (R2 bx fx m₀ (n + 1) (back1 ⟨⟨S', i', j'⟩, bl⟩ k)) own { s with heap := h, toks := tk } Q) E { s with heap := h, toks := tk })
    (done : ∀ vb' lb q bl t1' t2' cb' ck bk' (u : PySem.Str → Option Value) h tk, (KBw.bInts b).foldl back1 ⟨⟨S, i, j⟩, []⟩ = ⟨q, bl⟩ → IntsAre vb' q.S → Good q → IntsAre lb bl → bl.length = b.size → @Ne Nat bk' bx →
      News h₀ env.locals h ((bx, listOf (List.toArray vb') cb') :: (bk', listOf (List.toArray lb) ck) :: fx) →
      Fr h₀ env.locals h (fun y => if y = Str.ofString "octet" then u y else if y = Str.ofString "i" then some (.int q.i t1') else if y = Str.ofString "j" then some (.int q.j t2') else if y = Str.ofString "back" then some (.ref bk') else if ([] : List PySem.Str).contains y then u y else m₀ y) →
      Q .next { s with heap := h, toks := tk }) :
    wpAny (model prog w) A (pyIter (.bytes b tb)) (fun it s₂ => LoopAtV prog w A h₀ env (Str.ofString "octet") body Q E it s₂) E s := by
  refine iterZ (R2 bx fx m₀) back1 ⟨⟨S, i, j⟩, []⟩ hh F (newsSub N (b := (bx, listOf vb.toArray cb) :: (bk, listOf #[] 0) :: fx) (fun p hp => ?_))
    ⟨vb, [], t1, t2, cb, 0, bk, rfl, hi, hG, IntsAre.nil, rfl, hbk, by simp [m1, m2, m3], fun _ _ _ _ => rfl⟩ ?_ ?_
  · rcases List.mem_cons.mp hp with rfl | hp
    · exact .tail _ (.tail _ (.head _))
    rcases List.mem_cons.mp hp with rfl | hp
    · exact .tail _ (.head _)
    exact .tail _ (.tail _ (.tail _ hp))
  · rintro n k t ⟨⟨S', i', j'⟩, bl⟩ m₁ nx h tk own hn hk0 hk1 hsep ⟨vb', lb, ta, tb', cb', ck, bk', rfl, hi', hg, hl, hln, hb, hp1, hp2⟩ F₁ N₁
    have hof : OwnOff (fx ++ own) [bx] := by
      intro y hy z hz
      rw [List.mem_singleton.mp hz]
      rcases List.mem_append.mp hy with hy | hy
      · exact hfx y hy bx (.head _)
      · exact (hsep _ (.head _) y hy).symm
    refine turn n k t vb' lb S' i' j' bl ta tb' cb' ck bk' m₁ h tk own (fx ++ own) hn hof hb (fun y hy => List.mem_append_left _ hy) (fun y hy => List.mem_append_right _ hy) (fun p hp q hq => hsep p (.tail _ (.tail _ hp)) q hq) (fun q hq => hsep _ (.head _) q hq) hi' hg hl hln (kst_fr hp1 hp2 F₁)
      (newsSub N₁ fun p hp => ?_)
    rcases List.mem_cons.mp hp with rfl | hp
    · exact List.mem_append_right _ (.head _)
    rcases List.mem_cons.mp hp with rfl | hp
    · exact List.mem_append_right _ (.tail _ (.head _))
    rcases List.mem_append.mp hp with hp | hp
    · exact List.mem_append_right _ (.tail _ (.tail _ hp))
    · exact List.mem_append_left _ hp
  · rintro m₁ nx h tk ⟨vb', lb, ta, tb', cb', ck, bk', rfl, hi', hg, hl, hln, hb, hp1, hp2⟩ F₁ N₁
    exact done vb' lb _ _ ta tb' cb' ck bk' m₁ h tk rfl hi' hg hl hln hb N₁ (kst_frOut hp1 hp2 F₁)

theorem allLt_in {l : Addr} : ∀ {news : List (Addr × Obj)}, AllLt l news → ∀ p ∈ news, @LT.lt Nat _ p.1 l
  | [], _, _, hp => nomatch hp
  | q :: r, h, p, hp => by
    rcases List.mem_cons.mp hp with rfl | hp
    · exact h.1
    · exact allLt_in h.2 p hp
theorem law2End {m₀ m' : PySem.Str → Option Value} {bx bk bk' a1 a2 a3 : Addr} {o1 o2 o3 obk : Obj} {fx own rs : List (Addr × Obj)} {vb ws : List Value} {cb ck n : Nat} {L : Addr} {p : PS} {k : Int} {t1 t2 : Tok} {s₁ : Shared} {h' : Heap} {tk : Nat}
    (F : Fr h₀ L h' m') (N : News h₀ L h' ((a1, o1) :: (a2, o2) :: (bk', listOf (List.toArray ws) ck) :: (a3, o3) :: (bx, listOf (List.toArray vb) cb) :: (bk, obk) :: rs)) (hin : ∀ y ∈ fx, y ∈ rs) (hown : ∀ y ∈ own, y ∈ rs)
    (hs1 : ∀ p ∈ fx, ∀ q ∈ own, p.1 ≠ q.1) (hs2 : ∀ q ∈ own, bx ≠ q.1) (hlt : @LT.lt Nat _ a3 bk' ∧ @LT.lt Nat _ bx bk' ∧ @LT.lt Nat _ bk bk' ∧ AllLt bk' rs) (hG : Good p.q) (hln : p.out.length = n)
    (hiv : IntsAre vb (back1 p k).q.S) (hiw : IntsAre ws (back1 p k).out)
    (hp1 : ∀ y ∈ [(Str.ofString "i", Value.int (back1 p k).q.i t1), (Str.ofString "j", Value.int (back1 p k).q.j t2), (Str.ofString "back", Value.ref bk')], m' y.1 = some y.2)
    (hp2 : ∀ z, z ≠ Str.ofString "octet" → (∀ y ∈ [(Str.ofString "i", Value.int (back1 p k).q.i t1), (Str.ofString "j", Value.int (back1 p k).q.j t2), (Str.ofString "back", Value.ref bk')], z ≠ y.1) → ([] : List PySem.Str).contains z = false → m' z = m₀ z) :
    PostZ h₀ L (R2 bx fx m₀ (n + 1) (back1 p k)) own s₁ Q .next { s₁ with heap := h', toks := tk } := by
  refine ⟨h', tk, m', (bx, listOf (List.toArray vb) cb) :: (bk', listOf (List.toArray ws) ck) :: fx, rfl, F, newsSub N (fun y hy => ?_), ?_, vb, ws, t1, t2, cb, ck, bk', rfl, hiv, backGood hG k, hiw, by simp [back1, hln], (Nat.ne_of_lt hlt.2.1).symm, hp1, hp2⟩
  · rcases List.mem_append.mp hy with hy | hy
    · exact .tail _ (.tail _ (.tail _ (.tail _ (.tail _ (.tail _ (hown y hy))))))
    rcases List.mem_cons.mp hy with rfl | hy
    · exact .tail _ (.tail _ (.tail _ (.tail _ (.head _))))
    rcases List.mem_cons.mp hy with rfl | hy
    · exact .tail _ (.tail _ (.head _))
    exact .tail _ (.tail _ (.tail _ (.tail _ (.tail _ (.tail _ (hin y hy))))))
  · intro y hy q hq
    rcases List.mem_cons.mp hy with rfl | hy
    · exact hs2 q hq
    rcases List.mem_cons.mp hy with rfl | hy
    · exact (Nat.ne_of_lt (allLt_in hlt.2.2.2 q (hown q hq))).symm
    exact hs1 y hy q hq
end
end Mine
namespace Mine
/-- the state of the law's third loop -/
def R3 (du : Addr) (fx : List (Addr × Obj)) (m₀ : PySem.Str → Option Value) (D : List Int) (m : PySem.Str → Option Value) (nx : List (Addr × Obj)) : Prop :=
  ∃ (vd : List Value) (cd : Nat), nx = (du, listOf vd.toArray cd) :: fx ∧ IntsAre vd D ∧ D.length = 256 ∧ (∀ z, z ≠ Str.ofString "k" → m z = m₀ z)
section
variable {prog : Program} {w : World} {A : Around} {E : Value → Shared → Prop} {s : Shared} {h₀ : Heap} {env : Env} {body : List Stmt} {Q : Flow → Shared → Prop}
theorem law3 {m₀ : PySem.Str → Option Value} {r du : Addr} {c : Nat} {e : Int} {t₀ u₀ v₀ : Tok} {fx : List (Addr × Obj)} {vd : List Value} {D : List Int} (t : Int)
    (hh : A.handled = none) (hr : IsRange s.heap r 0 e 1 t₀ u₀ v₀) (he0 : 1 ≤ e) (he1 : e ≤ 24) (F : Fr h₀ env.locals s.heap m₀) (N : News h₀ env.locals s.heap ((du, listOf vd.toArray c) :: fx)) (hi : IntsAre vd D) (hl : D.length = 256) (off : OwnOff fx [du])
    (turn : ∀ k t' vd' D' c' h tk own rs, 0 ≤ k → k < e → OwnOff rs [du] → (∀ y ∈ fx, y ∈ rs) → (∀ y ∈ own, y ∈ rs) → IntsAre vd' D' → D'.length = 256 →
      Fr h₀ env.locals h (fun y => if y = Str.ofString "k" then some (.int k t') else m₀ y) → News h₀ env.locals h ((du, listOf (List.toArray vd') c') :: rs) →
      wpAny (model prog w) A (execs body env) (InvPostN h₀ env.locals (R3 du fx m₀ (dstep t D' k)) own (((du, listOf vd.toArray c) :: fx).map (·.1)) { s with heap := h, toks := tk } Q) E { s with heap := h, toks := tk })
    (done : ∀ vd' c' (u : PySem.Str → Option Value) h tk, IntsAre vd' ((rangeKs 0 e.toNat).foldl (dstep t) D) → News h₀ env.locals h ((du, listOf (List.toArray vd') c') :: fx) → Fr h₀ env.locals h (fun y => if y = Str.ofString "k" then u y else m₀ y) → Q .next { s with heap := h, toks := tk }) :
    wpAny (model prog w) A (pyIter (.ref r)) (fun it s₂ => LoopAtV prog w A h₀ env (Str.ofString "k") body Q E it s₂) E s := by
  have hn : (e - 0).toNat = e.toNat := by omega
  refine iter_rangeS (n := (e - 0).toNat) (R3 du fx m₀) (dstep t) D hh hr (small_one (by omega) (by omega) (by omega) (by omega)) (rangeSize_nat _ _) F N ⟨vd, c, rfl, hi, hl, fun _ _ => rfl⟩ ?_ ?_
  · rintro k t' D' m₁ nx h tk own hk hof ⟨vd', c', rfl, hi', hl', hm⟩ F₁ N₁
    rw [map_none hm] at F₁
    have hk' := mem_rangeKs hk
    have hof' : OwnOff (fx ++ own) [du] := fun y hy z hz => (List.mem_append.mp hy).elim (fun h1 => off y h1 z hz) (fun h1 => hof y h1 z (by rw [List.mem_singleton.mp hz]; exact .head _))
    exact turn k t' vd' D' c' h tk own (fx ++ own) hk'.1 (by have := hk'.2; omega) hof' (fun y hy => List.mem_append_left _ hy) (fun y hy => List.mem_append_right _ hy) hi' hl' F₁ N₁
  · rintro m₁ nx h tk ⟨vd', c', rfl, hi', hl', hm⟩ F₁ N₁
    rw [hn] at hi'
    rw [← done_none hm] at F₁
    exact done vd' c' m₁ h tk hi' N₁ F₁
theorem law3End {m₀ m' : PySem.Str → Option Value} {du a1 : Addr} {o1 : Obj} {c c' : Nat} {fx own rs : List (Addr × Obj)} {vd vd' : List Value} {D : List Int} {t k : Int} {L : Addr} {s₁ : Shared} {h' : Heap} {tk : Nat}
    (F : Fr h₀ L h' m') (N : News h₀ L h' ((a1, o1) :: (du, listOf (List.toArray vd') c') :: rs)) (hin : ∀ y ∈ fx, y ∈ rs) (hown : ∀ y ∈ own, y ∈ rs) (hi : IntsAre vd' (dstep t D k)) (hl : D.length = 256)
    (hm : ∀ z, z ≠ Str.ofString "k" → m' z = m₀ z) :
    InvEndN h₀ L (R3 du fx m₀ (dstep t D k)) own (((du, listOf (List.toArray vd) c) :: fx).map (·.1)) s₁ { s₁ with heap := h', toks := tk } := by
  refine InvEndN.intro F N (nx := (du, listOf (List.toArray vd') c') :: fx) ⟨vd', c', rfl, hi, (dLen _ _ _).trans hl, hm⟩ rfl (fun y hy => ?_) (fun y hy => .tail _ (.tail _ (hown y hy)))
  rcases List.mem_cons.mp hy with rfl | hy
  · exact .tail _ (.head _)
  · exact .tail _ (.tail _ (hin y hy))
end
end Mine
end

section
open PySem PySem.W PySem.Calls PySem.Spec PyProof.Rows
set_option maxRecDepth 100000
namespace Mine
section
variable {prog : Program} {w : World} {A : Around} {E : Value → Shared → Prop} {s : Shared} {h₀ : Heap} {L : Addr} {news : List (Addr × Obj)}
/-- (xs, i, j, ys) != (xs', i, j, ys'), the lists' ints the same -/
theorem ne4 {a b a1 a2 b1 b2 : Addr} {xs ys us zs : List Value} {ns ms : List Int} {i j : Int} {ti tj ui uj : Tok} {c1 c2 c3 c4 : Nat} {Q : Value → Shared → Prop} (N : News h₀ L s.heap news)
    (ha : (a, ({ cls := .type "tuple", data := .seq #[.ref a1, .int i ti, .int j tj, .ref a2] } : Obj)) ∈ news) (hb : (b, ({ cls := .type "tuple", data := .seq #[.ref b1, .int i ui, .int j uj, .ref b2] } : Obj)) ∈ news)
    (h1 : (a1, listOf xs.toArray c1) ∈ news) (h2 : (a2, listOf ys.toArray c2) ∈ news) (h3 : (b1, listOf us.toArray c3) ∈ news) (h4 : (b2, listOf zs.toArray c4) ∈ news)
    (i1 : IntsAre xs ns) (i2 : IntsAre ys ms) (i3 : IntsAre us ns) (i4 : IntsAre zs ms) (hu : A.units + 64 < cLine) (h : Q (.bool false) s) :
    wpAny (model prog w) A (compareOp .NotEq (.ref a) (.ref b)) Q E s := by
  have r1 := reads_newData (N.isList h1) (ke_carried i1)
  have r2 := reads_newData (N.isList h2) (ke_carried i2)
  have r3 := reads_newData (N.isList h3) (ke_carried i3)
  have r4 := reads_newData (N.isList h4) (ke_carried i4)
  refine ne_dataH (reads_tuple_at (News.get N ha) rfl rfl (ReadsAll.cons r1 (ReadsAll.cons (Reads.int _ _) (ReadsAll.cons (Reads.int _ _) (ReadsAll.cons r2 ReadsAll.nil)))))
    (reads_tuple_at (News.get N hb) rfl rfl (ReadsAll.cons r3 (ReadsAll.cons (Reads.int _ _) (ReadsAll.cons (Reads.int _ _) (ReadsAll.cons r4 ReadsAll.nil))))) ?_ ?_ hu ?_
  · simp [SeqAt.shaped, PyData.canLay0, PyData.canLayAll0, PyData.depth, PyData.depthAll, ke_canLayAll0, ke_depthAll]
  · simp [SeqAt.shaped, PyData.canLay0, PyData.canLayAll0, PyData.depth, PyData.depthAll, ke_canLayAll0, ke_depthAll]
  · simp only [PyData.eqv, PyData.eqvAll, ked_eqvAll, beq_self_eq_true, decide_true, Bool.and_true, Bool.not_true]
    exact h
/-- xs != ys, the ints the same -/
theorem neSame {a b : Addr} {xs ys : List Value} {ns : List Int} {c1 c2 : Nat} {Q : Value → Shared → Prop} (N : News h₀ L s.heap news) (h1 : (a, listOf xs.toArray c1) ∈ news) (h2 : (b, listOf ys.toArray c2) ∈ news)
    (i1 : IntsAre xs ns) (i2 : IntsAre ys ns) (hu : A.units + 64 < cLine) (h : Q (.bool false) s) : wpAny (model prog w) A (compareOp .NotEq (.ref a) (.ref b)) Q E s :=
  ke_ne_ints (N.isList h1) (N.isList h2) i1 i2 hu (by rw [decide_eq_true (rfl : ns = ns)]; exact h)
theorem eqSame {a b : Addr} {xs ys : List Value} {ns : List Int} {c1 c2 : Nat} {Q : Value → Shared → Prop} (N : News h₀ L s.heap news) (h1 : (a, listOf xs.toArray c1) ∈ news) (h2 : (b, listOf ys.toArray c2) ∈ news)
    (i1 : IntsAre xs ns) (i2 : IntsAre ys ns) (hu : A.units + 64 < cLine) (h : Q (.bool true) s) : wpAny (model prog w) A (compareOp .Eq (.ref a) (.ref b)) Q E s :=
  ke_eq_ints (N.isList h1) (N.isList h2) i1 i2 hu (by rw [decide_eq_true (rfl : ns = ns)]; exact h)
/-- xs.index(k), k among the 256 ints -/
theorem index256 {D : Addr} {vs : List Value} {S : List Int} {c : Nat} {k : Int} {t : Tok} {Q : Value → Shared → Prop} (N : News h₀ L s.heap news) (hm : (D, listOf vs.toArray c) ∈ news) (hi : IntsAre vs S) (hlen : S.length = 256) (hk : k ∈ S)
    (h : ∀ j : Int, 0 ≤ j → j < 256 → S.getD j.toNat 0 = k → Q (.int j s.toks) { s with toks := s.toks + 1 }) : wpAny (model prog w) A (call (.builtin "list.index") [.ref D, .int k t]) Q E s := by
  have hl := hi.length
  have hj : S.idxOf k < S.length := List.idxOf_lt_length_iff.mpr hk
  refine call_meets PySem.F.slot_list_index ⟨_, (N _ hm).1, rfl⟩ PySem.F.entry_list_index (PySem.F.args_list_index_2 _ _)
    (PySem.SeqAt.list_indexAt D vs.toArray c none #[] (.int k t) (isInt k) (S.idxOf k) (by simpa [hl] using hj) (by omega) ?_ ?_) ⟨(N _ hm).1, fun y hy => (eq_isInt k t hi y (by simpa using hy)).at _ _, h (S.idxOf k : Nat) (by omega) (by omega) ?_⟩
  · show isInt k vs[S.idxOf k] = true
    rw [isInt_at k hi _ (by omega) hj]
    simpa using List.getElem_idxOf hj
  · intro j hjs hlt
    show isInt k vs[j] = false
    rw [isInt_at k hi j (by simpa using hjs) (by omega)]
    exact ne_of_lt_idxOf hlt _
  · rw [Int.toNat_natCast, List.getD_eq_getElem?_getD, List.getElem?_eq_getElem hj]
    exact List.getElem_idxOf hj
end
end Mine
end

section
open PySem PySem.W PySem.Calls PySem.Spec PyProof.Rows
set_option maxRecDepth 100000
namespace Mine
abbrev setGallop (st : SortSt) (g : Nat) : SortSt := SortSt.mk' (kindOf st) (arrOf st) (pendingOf st) g (failedOf st)
def gallopM : Bool → Keyed → Array Keyed → Nat → Nat → Nat → StateT SortSt Sem (Option Nat) := sortPriv% PySem.Builtin.gallop
def mergeLoM : Array Keyed → Array Keyed → StateT SortSt Sem (Array Keyed) := sortPriv% PySem.Builtin.mergeLo
def mergeHiM : Array Keyed → Array Keyed → StateT SortSt Sem (Array Keyed) := sortPriv% PySem.Builtin.mergeHi
def setMinM : Nat → StateT SortSt Sem Unit := sortPriv% PySem.Builtin.setMinGallop
section
variable {prog : Program} {w : World} {A : Around} {E : Value → Shared → Prop} {s : Shared}
theorem wpS_setMin {st : SortSt} {g : Nat} {Q : Unit → SortSt → Prop} (h : Q () (setGallop st g)) : wpS (model prog w) A E s (setMinM g) Q st := wpS_modify h
theorem wpS_rule {st : SortSt} {n : String} {Q : Unit → SortSt → Prop} (h : Q () st) : wpS (model prog w) A E s (liftM (rule n) : StateT SortSt Sem Unit) Q st :=
  wpS_lift (wpAny_rule ⟨rfl, h⟩)
theorem wpS_ite {α : Type} {c : Prop} [Decidable c] {m m' : StateT SortSt Sem α} {Q : α → SortSt → Prop} {st : SortSt} (h1 : c → wpS (model prog w) A E s m Q st) (h2 : ¬c → wpS (model prog w) A E s m' Q st) :
    wpS (model prog w) A E s (if c then m else m') Q st := by
  split
  · exact h1 ‹_›
  · exact h2 ‹_›
theorem ltOf {x y : Nat} (e : ¬ (x == y) = true) (h : x ≤ y) : x < y := by
  have : ¬ x = y := fun e' => e (beq_iff_eq.mpr e')
  omega
theorem neOf {x y : Nat} (e : ¬ (x == y) = true) : x ≠ y := fun e' => e (beq_iff_eq.mpr e')
def IntP (p : Keyed) : Prop := ∃ n t, p.1 = .int n t
def kq (p : Keyed) : Int := numOf p.1
theorem wpS_ltP {st : SortSt} {p q : Keyed} {Q : Option Bool → SortSt → Prop} (hk : kindOf st = oneType') (hp : IntP p) (hq : IntP q)
    (h : Q (some (decide (kq p < kq q))) st) : wpS (model prog w) A E s (lt' p q) Q st := by
  obtain ⟨p1, p2⟩ := p
  obtain ⟨q1, q2⟩ := q
  obtain ⟨a, t, rfl⟩ := hp
  obtain ⟨b, u, rfl⟩ := hq
  rw [lt'_eq]
  refine wpS_bind (wpS_get ?_)
  rw [hk, keyLt'_oneType]
  refine wpS_bind (wpS_lift (wpAny_attempt (oneLt_int ⟨rfl, ?_⟩)))
  exact wpS_pure h
theorem wpS_elem {st : SortSt} {xs : Array Keyed} {i : Nat} {Q : Keyed → SortSt → Prop} (hi : i < xs.size) (h : Q xs[i] st) : wpS (model prog w) A E s (elem' xs i) Q st := by
  rw [elem'_eq, getElem?_pos xs i hi]
  exact wpS_pure h
/-- what `beyond` asks of the item at base + i -/
def beyondB (left : Bool) (key x : Keyed) : Bool := if left then decide (kq x < kq key) else !decide (kq key < kq x)
theorem wpS_ask {st : SortSt} {left : Bool} {key x : Keyed} {Q : Option Bool → SortSt → Prop} (hk : kindOf st = oneType') (hp : IntP key) (hq : IntP x) (h : Q (some (beyondB left key x)) st) :
    wpS (model prog w) A E s (if left = true then lt' x key else (lt' key x >>= fun r => pure (Option.map (fun b => !b) r))) Q st := by
  refine wpS_ite (fun e => ?_) (fun e => ?_)
  · subst e
    exact wpS_ltP hk hq hp h
  · have e' : left = false := by simpa using e
    subst e'
    exact wpS_bind (wpS_ltP hk hp hq (wpS_pure h))
/-- does the item at base + i lie before the key -/
def BB (left : Bool) (key : Keyed) (arr : Array Keyed) (base i : Nat) : Bool := match arr[base + i]? with
  | some x => beyondB left key x
  | none => false
/-- the answer of gallop: r items lie before, the rest not -/
def Cut (left : Bool) (key : Keyed) (arr : Array Keyed) (base n r : Nat) : Prop :=
  r ≤ n ∧ (∀ i, i < r → BB left key arr base i = true) ∧ (∀ i, r ≤ i → i < n → BB left key arr base i = false)
/-- the items base .. base + n grow -/
def Grow (arr : Array Keyed) (base n : Nat) : Prop := ∀ i j x y, i ≤ j → j < n → arr[base + i]? = some x → arr[base + j]? = some y → kq x ≤ kq y
theorem beyond_mono {left : Bool} {key x y : Keyed} (h : kq x ≤ kq y) (hy : beyondB left key y = true) : beyondB left key x = true := by
  cases left <;> simp [beyondB] at * <;> omega
theorem BB_up {left : Bool} {key : Keyed} {arr : Array Keyed} {base n : Nat} (hg : Grow arr base n) (hb : base + n ≤ arr.size) {i j : Nat} (hij : i ≤ j) (hj : j < n) (h : BB left key arr base j = true) : BB left key arr base i = true := by
  unfold BB at h ⊢
  have e1 := getElem?_pos arr (base + i) (by omega)
  have e2 := getElem?_pos arr (base + j) (by omega)
  rw [e1]
  rw [e2] at h
  exact beyond_mono (hg i j _ _ hij hj e1 e2) h
theorem wpS_BB {st : SortSt} {left : Bool} {key : Keyed} {arr : Array Keyed} {base i : Nat} {Q : Option Bool → SortSt → Prop} (hk : kindOf st = oneType') (hi : base + i < arr.size)
    (hp : IntP key) (hq : ∀ p ∈ arr, IntP p) (h : Q (some (BB left key arr base i)) st) :
    wpS (model prog w) A E s (elem' arr (base + i) >>= fun x => if left = true then lt' x key else (lt' key x >>= fun r => pure (Option.map (fun b => !b) r))) Q st := by
  refine wpS_bind (wpS_elem hi (wpS_ask hk hp (hq _ (Array.getElem_mem hi)) ?_))
  unfold BB at h
  rw [getElem?_pos arr (base + i) hi] at h
  exact h
theorem wpS_bin {st : SortSt} {left : Bool} {key : Keyed} {arr : Array Keyed} {base n lo hi : Nat} {f : Nat → Option (Option Nat) × Nat × Nat → StateT SortSt Sem (ForInStep (Option (Option Nat) × Nat × Nat))} {Q : Option (Option Nat) × Nat × Nat → SortSt → Prop} (hb : base + n ≤ arr.size)
    (hg : Grow arr base n) (hlh : lo ≤ hi) (hhn : hi ≤ n) (h1 : ∀ i, i < lo → BB left key arr base i = true) (h2 : ∀ i, hi ≤ i → i < n → BB left key arr base i = false)
    (hf : ∀ x l r (Q' : ForInStep (Option (Option Nat) × Nat × Nat) → SortSt → Prop), r ≤ n → (l ≥ r → Q' (.done (none, l, r)) st) →
      (l < r → BB left key arr base (l + (r - l) / 2) = true → Q' (.yield (none, l + (r - l) / 2 + 1, r)) st) → (l < r → BB left key arr base (l + (r - l) / 2) = false → Q' (.yield (none, l, l + (r - l) / 2)) st) →
      wpS (model prog w) A E s (f x (none, l, r)) Q' st)
    (h : ∀ l r, Cut left key arr base n r → Q (none, l, r) st) :
    wpS (model prog w) A E s (forIn [0:n] ((none, lo, hi) : Option (Option Nat) × Nat × Nat) f) Q st := by
  refine wpS_mono (wpS_forRange
    (I := fun x c st' => st' = st ∧ ∃ l r, c = (none, l, r) ∧ l ≤ r ∧ r ≤ n ∧ r - l ≤ n - x ∧ (∀ i, i < l → BB left key arr base i = true) ∧ (∀ i, r ≤ i → i < n → BB left key arr base i = false))
    (Q := fun c st' => st' = st ∧ ∃ l r, c = (none, l, r) ∧ l ≤ r ∧ r ≤ n ∧ r ≤ l ∧ (∀ i, i < l → BB left key arr base i = true) ∧ (∀ i, r ≤ i → i < n → BB left key arr base i = false)) ?step ?fin
    ⟨rfl, lo, hi, rfl, hlh, hhn, by omega, h1, h2⟩) ?post
  case fin =>
    rintro c st' ⟨rfl, l, r, rfl, a1, a2, a3, a4, a5⟩
    exact ⟨rfl, l, r, rfl, a1, a2, by omega, a4, a5⟩
  case post =>
    rintro c st' ⟨rfl, l, r, rfl, a1, a2, a3, a4, a5⟩
    exact h l r ⟨a2, fun i hi => a4 i (by omega), a5⟩
  case step =>
    rintro x c st' _ hx ⟨rfl, l, r, rfl, a1, a2, a3, a4, a5⟩
    refine hf x l r _ a2 (fun hlr => ?_) (fun hlr hb' => ?_) (fun hlr hb' => ?_)
    · exact ⟨rfl, l, r, rfl, a1, a2, hlr, a4, a5⟩
    · exact ⟨rfl, _, _, rfl, by omega, a2, by omega, fun i hi => BB_up hg hb (by omega) (by omega) hb', a5⟩
    · refine ⟨rfl, _, _, rfl, by omega, by omega, by omega, a4, fun i hi hn => ?_⟩
      cases hc : BB left key arr base i with
      | false => rfl
      | true => rw [BB_up hg hb hi hn hc] at hb'; exact absurd hb' (by decide)
theorem wpS_gallop {st : SortSt} {left : Bool} {key : Keyed} {arr : Array Keyed} {base n hint : Nat} {Q : Option Nat → SortSt → Prop} (hk : kindOf st = oneType') (hb : base + n ≤ arr.size) (hh : hint < n)
    (hp : IntP key) (hq : ∀ p ∈ arr, IntP p) (hg : Grow arr base n) (h : ∀ r, Cut left key arr base n r → Q (some r) st) :
    wpS (model prog w) A E s (gallopM left key arr base n hint) Q st := by
  refine wpS_bind (wpS_BB hk (by omega) hp hq ?_)
  dsimp only
  have dn : ∀ i j, i ≤ j → j < n → BB left key arr base i = false → BB left key arr base j = false := by
    intro i j hij hj hf
    cases hc : BB left key arr base j with
    | false => rfl
    | true => rw [BB_up hg hb hij hj hc] at hf; exact absurd hf (by decide)
  by_cases hr : BB left key arr base hint = true
  · rw [if_pos hr]
    refine wpS_bind (wpS_mono (wpS_forRange
      (I := fun x c st' => st' = st ∧ ∃ l o, c = (none, l, o) ∧ l < o ∧ x + 1 ≤ o ∧ hint + l < n ∧ BB left key arr base (hint + l) = true)
      (Q := fun c st' => st' = st ∧ ∃ l o, c = (none, l, o) ∧ l < o ∧ hint + l < n ∧ BB left key arr base (hint + l) = true ∧ (n - hint ≤ o ∨ BB left key arr base (hint + o) = false)) ?step ?fin
      ⟨rfl, 0, 1, rfl, by omega, by omega, by omega, hr⟩) ?post)
    case fin =>
      rintro c st' ⟨rfl, l, o, rfl, a1, a2, a3, a4⟩
      exact ⟨rfl, l, o, rfl, a1, a3, a4, .inl (by omega)⟩
    case step =>
      rintro x c st' _ hx ⟨rfl, l, o, rfl, a1, a2, a3, a4⟩
      dsimp only
      by_cases ho : o ≥ n - hint
      · rw [if_pos ho]
        exact wpS_pure ⟨rfl, l, o, rfl, a1, a3, a4, .inl ho⟩
      · rw [if_neg ho]
        refine wpS_bind (wpS_BB hk (by omega) hp hq ?_)
        dsimp only
        cases hc : BB left key arr base (hint + o) with
        | false => exact wpS_pure ⟨rfl, l, o, rfl, a1, a3, a4, .inr hc⟩
        | true => exact wpS_pure ⟨rfl, o, 2 * o + 1, rfl, by omega, by omega, by omega, hc⟩
    case post =>
      rintro c st' ⟨rfl, l, o, rfl, a1, a2, a3, a4⟩
      dsimp only
      have e1 : hint + l + 1 ≤ hint + min o (n - hint) := by omega
      have e2 : hint + min o (n - hint) ≤ n := by omega
      refine (fun e3 :  ∀ i, hint + min o (n - hint) ≤ i → i < n → BB left key arr base i = false => ?main) (fun i hi hn => ?e3)
      case main =>
       refine wpS_bind (wpS_bin hb hg e1 e2 (fun i hi => BB_up hg hb (Nat.lt_succ_iff.mp hi) a2 a3) e3 (fun x l r Q' hrn q1 q2 q3 => ?hf) (fun l r hc => wpS_pure (h r hc)))
       case hf =>
         dsimp only
         by_cases hlr : l ≥ r
         · rw [if_pos hlr]
           exact wpS_pure (q1 hlr)
         · rw [if_neg hlr]
           refine wpS_bind (wpS_BB hk (by omega) hp hq ?_)
           dsimp only
           cases hc : BB left key arr base (l + (r - l) / 2) with
           | true => exact wpS_pure (q2 (by omega) hc)
           | false => exact wpS_pure (q3 (by omega) hc)
      case e3 =>
      rcases a4 with a4 | a4
      · omega
      · exact dn _ _ (by omega) hn a4
  · rw [if_neg hr]
    have hr' : BB left key arr base hint = false := by simpa using hr
    refine wpS_bind (wpS_mono (wpS_forRange
      (I := fun x c st' => st' = st ∧ ∃ l o, c = (none, l, o) ∧ l < o ∧ x + 1 ≤ o ∧ l ≤ hint ∧ BB left key arr base (hint - l) = false)
      (Q := fun c st' => st' = st ∧ ∃ l o, c = (none, l, o) ∧ l < o ∧ l ≤ hint ∧ BB left key arr base (hint - l) = false ∧ (hint + 1 ≤ o ∨ BB left key arr base (hint - o) = true)) ?step ?fin
      ⟨rfl, 0, 1, rfl, by omega, by omega, by omega, hr'⟩) ?post)
    case fin =>
      rintro c st' ⟨rfl, l, o, rfl, a1, a2, a3, a4⟩
      exact ⟨rfl, l, o, rfl, a1, a3, a4, .inl (by omega)⟩
    case step =>
      rintro x c st' _ hx ⟨rfl, l, o, rfl, a1, a2, a3, a4⟩
      dsimp only
      by_cases ho : o ≥ hint + 1
      · rw [if_pos ho]
        exact wpS_pure ⟨rfl, l, o, rfl, a1, a3, a4, .inl ho⟩
      · rw [if_neg ho]
        refine wpS_bind (wpS_BB hk (by omega) hp hq ?_)
        dsimp only
        cases hc : BB left key arr base (hint - o) with
        | true => exact wpS_pure ⟨rfl, l, o, rfl, a1, a3, a4, .inr hc⟩
        | false => exact wpS_pure ⟨rfl, o, 2 * o + 1, rfl, by omega, by omega, by omega, hc⟩
    case post =>
      rintro c st' ⟨rfl, l, o, rfl, a1, a2, a3, a4⟩
      dsimp only
      have e1 : hint + 1 - min o (hint + 1) ≤ hint - l := by omega
      have e2 : hint - l ≤ n := by omega
      refine (fun e3 :  ∀ i, i < hint + 1 - min o (hint + 1) → BB left key arr base i = true => ?main) (fun i hi => ?e3)
      case main =>
       refine wpS_bind (wpS_bin hb hg e1 e2 e3 (fun i hi hn => dn _ _ hi hn a3) (fun x l r Q' hrn q1 q2 q3 => ?hf) (fun l r hc => wpS_pure (h r hc)))
       case hf =>
         dsimp only
         by_cases hlr : l ≥ r
         · rw [if_pos hlr]
           exact wpS_pure (q1 hlr)
         · rw [if_neg hlr]
           refine wpS_bind (wpS_BB hk (by omega) hp hq ?_)
           dsimp only
           cases hc : BB left key arr base (l + (r - l) / 2) with
           | true => exact wpS_pure (q2 (by omega) hc)
           | false => exact wpS_pure (q3 (by omega) hc)
      case e3 =>
      rcases a4 with a4 | a4
      · omega
      · exact BB_up hg hb (by omega) (by omega) a4
end
end Mine
end

section
open PySem PySem.W PySem.Calls PySem.Spec PyProof.Rows
set_option maxRecDepth 100000
namespace Mine
/-- a list of items that grows -/
def Gr (l : List Keyed) : Prop := l.Pairwise (fun x y => kq x ≤ kq y)
/-- where a merge from the left stands: out written, ia and ib items taken -/
structure MI (a b out : Array Keyed) (ia ib : Nat) : Prop where
  perm : (out.toList ++ (a.toList.drop ia ++ b.toList.drop ib)).Perm (a.toList ++ b.toList)
  gr : Gr (out.toList ++ a.toList.drop ia)
  gr' : Gr (out.toList ++ b.toList.drop ib)
  size : out.size = ia + ib
theorem dropExtract (a : Array Keyed) (i k : Nat) : a.toList.drop i = (a.extract i (i + k)).toList ++ a.toList.drop (i + k) := by
  rw [Array.toList_extract, List.extract_eq_take_drop]
  rw [show i + k - i = k by omega, ← List.drop_drop, List.take_append_drop]
theorem extractEnd (a : Array Keyed) (i : Nat) : (a.extract i a.size).toList = a.toList.drop i := by
  rw [Array.toList_extract, List.extract_eq_take_drop, List.take_of_length_le]
  simp
theorem MI.takeA {a b out : Array Keyed} {ia ib k : Nat} (m : MI a b out ia ib) (hk : ia + k ≤ a.size) (h : ∀ x ∈ (a.extract ia (ia + k)).toList, ∀ y ∈ b.toList.drop ib, kq x ≤ kq y) :
    MI a b (out ++ a.extract ia (ia + k)) (ia + k) ib := by
  have e := dropExtract a ia k
  refine ⟨?_, ?_, ?_, ?_⟩
  · have := m.perm
    rw [e] at this
    rw [Array.toList_append]
    simpa [List.append_assoc] using this
  · have := m.gr
    rw [e] at this
    rw [Array.toList_append]
    simpa [List.append_assoc] using this
  · have h1 := m.gr
    have h2 := m.gr'
    rw [e] at h1
    unfold Gr at *
    rw [Array.toList_append]
    simp only [List.pairwise_append, List.mem_append] at *
    refine ⟨⟨h1.1, h1.2.1.1, fun x hx y hy => h1.2.2 x hx y (.inl hy)⟩, h2.2.1, ?_⟩
    rintro x (hx | hx) y hy
    · exact h2.2.2 x hx y hy
    · exact h x hx y hy
  · rw [Array.size_append, Array.size_extract, m.size]; omega
theorem MI.takeB {a b out : Array Keyed} {ia ib k : Nat} (m : MI a b out ia ib) (hk : ib + k ≤ b.size) (h : ∀ x ∈ (b.extract ib (ib + k)).toList, ∀ y ∈ a.toList.drop ia, kq x ≤ kq y) :
    MI a b (out ++ b.extract ib (ib + k)) ia (ib + k) := by
  have e := dropExtract b ib k
  refine ⟨?_, ?_, ?_, ?_⟩
  · have := m.perm
    rw [e] at this
    rw [Array.toList_append]
    refine List.Perm.trans ?_ this
    rw [List.append_assoc]
    refine List.Perm.append_left _ ?_
    rw [← List.append_assoc, ← List.append_assoc]
    exact List.Perm.append_right _ List.perm_append_comm
  · have h1 := m.gr
    have h2 := m.gr'
    rw [e] at h2
    unfold Gr at *
    rw [Array.toList_append]
    simp only [List.pairwise_append, List.mem_append] at *
    refine ⟨⟨h2.1, h2.2.1.1, fun x hx y hy => h2.2.2 x hx y (.inl hy)⟩, h1.2.1, ?_⟩
    rintro x (hx | hx) y hy
    · exact h1.2.2 x hx y hy
    · exact h x hx y hy
  · have := m.gr'
    rw [e] at this
    rw [Array.toList_append]
    simpa [List.append_assoc] using this
  · rw [Array.size_append, Array.size_extract, m.size]; omega
theorem pushExtract {a out : Array Keyed} {i : Nat} (hi : i < a.size) : out.push a[i] = out ++ a.extract i (i + 1) := by
  apply Array.ext'
  rw [Array.toList_push, Array.toList_append, Array.toList_extract, List.extract_eq_take_drop]
  have : a.toList.drop i = a[i] :: a.toList.drop (i + 1) := by
    rw [List.drop_eq_getElem_cons (by simpa using hi)]; simp
  rw [this]; simp
theorem mem_extract1 {a : Array Keyed} {i : Nat} (hi : i < a.size) {x : Keyed} (hx : x ∈ (a.extract i (i + 1)).toList) : x = a[i] := by
  have h := pushExtract (out := #[]) hi
  have : x ∈ (#[].push a[i] : Array Keyed).toList := by rw [h]; simpa using hx
  simpa using this
/-- the merged items: a growing list of all of them -/
def Merged (a b r : Array Keyed) : Prop := r.toList.Perm (a.toList ++ b.toList) ∧ Gr r.toList
theorem MI.done {a b out : Array Keyed} {ia ib : Nat} (m : MI a b out ia ib) (h : ib = b.size ∨ ia = a.size) : Merged a b (out ++ a.extract ia a.size ++ b.extract ib b.size) := by
  have e1 : (a.extract ia a.size).toList = a.toList.drop ia := extractEnd a ia
  have e2 : (b.extract ib b.size).toList = b.toList.drop ib := extractEnd b ib
  refine ⟨?_, ?_⟩
  · rw [Array.toList_append, Array.toList_append, e1, e2, List.append_assoc]
    exact m.perm
  · rw [Array.toList_append, Array.toList_append, e1, e2]
    rcases h with rfl | rfl
    · have : b.toList.drop b.size = [] := by simp
      rw [this, List.append_nil]
      exact m.gr
    · have : a.toList.drop a.size = [] := by simp
      rw [this, List.append_nil]
      exact m.gr'
theorem MI.lastA {a b out : Array Keyed} {ia ib : Nat} (m : MI a b out ia ib) (h : ∀ x ∈ b.toList, ∀ y ∈ a.toList.drop ia, kq x ≤ kq y) : Merged a b (out ++ b.extract ib b.size ++ a.extract ia a.size) := by
  have e1 : (a.extract ia a.size).toList = a.toList.drop ia := extractEnd a ia
  have e2 : (b.extract ib b.size).toList = b.toList.drop ib := extractEnd b ib
  refine ⟨?_, ?_⟩
  · rw [Array.toList_append, Array.toList_append, e1, e2, List.append_assoc]
    exact (List.Perm.append_left _ List.perm_append_comm).trans m.perm
  · rw [Array.toList_append, Array.toList_append, e1, e2]
    have h1 := m.gr
    have h2 := m.gr'
    unfold Gr at *
    simp only [List.pairwise_append, List.mem_append] at *
    refine ⟨⟨h2.1, h2.2.1, h2.2.2⟩, h1.2.1, ?_⟩
    rintro x (hx | hx) y hy
    · exact h1.2.2 x hx y hy
    · exact h x (List.drop_subset _ _ hx) y hy
theorem mem_ext {a : Array Keyed} {i j : Nat} {x : Keyed} (hx : x ∈ (a.extract i j).toList) : ∃ k, ∃ h : i + k < a.size, i + k < j ∧ a[i + k] = x := by
  obtain ⟨k, hk, rfl⟩ := List.mem_iff_getElem.mp hx
  have hk' : k < min (j - i) (a.size - i) := by simpa using hk
  exact ⟨k, by omega, by omega, by simp⟩
theorem mem_drp {a : Array Keyed} {i : Nat} {x : Keyed} (hx : x ∈ a.toList.drop i) : ∃ k, ∃ h : i + k < a.size, a[i + k] = x := by
  obtain ⟨k, hk, rfl⟩ := List.mem_iff_getElem.mp hx
  have hk' : k < a.size - i := by simpa using hk
  exact ⟨k, by omega, by simp⟩
theorem Gr.at {a : Array Keyed} (h : Gr a.toList) {i j : Nat} (hij : i ≤ j) (hj : j < a.size) : kq (a[i]'(by omega)) ≤ kq a[j] := by
  rcases Nat.lt_or_ge i j with h' | h'
  · exact List.pairwise_iff_getElem.mp h i j (by simp; omega) (by simpa using hj) h'
  · have : i = j := by omega
    subst this; exact Int.le_refl _
theorem Gr.grow {a : Array Keyed} (h : Gr a.toList) {b n : Nat} : Grow a b n := by
  intro i j x y hij hj hx hy
  obtain ⟨h1, rfl⟩ := Array.getElem?_eq_some_iff.mp hx
  obtain ⟨h2, rfl⟩ := Array.getElem?_eq_some_iff.mp hy
  exact h.at (by omega) h2
theorem Gr.drp {a : Array Keyed} (h : Gr a.toList) {i : Nat} (hi : i < a.size) {y : Keyed} (hy : y ∈ a.toList.drop i) : kq a[i] ≤ kq y := by
  obtain ⟨k, hk, rfl⟩ := mem_drp hy
  exact h.at (by omega) hk
theorem Cut.lo {left : Bool} {key : Keyed} {a : Array Keyed} {b n r : Nat} (h : Cut left key a b n r) {x : Keyed} (hx : x ∈ (a.extract b (b + r)).toList) : beyondB left key x = true := by
  obtain ⟨k, hk, hr, rfl⟩ := mem_ext hx
  have := h.2.1 k (by omega)
  unfold BB at this
  rwa [getElem?_pos a (b + k) hk] at this
theorem Cut.hi {left : Bool} {key : Keyed} {a : Array Keyed} {b n r : Nat} (h : Cut left key a b n r) (hn : a.size ≤ b + n) {x : Keyed} (hx : x ∈ a.toList.drop (b + r)) : beyondB left key x = false := by
  obtain ⟨k, hk, rfl⟩ := mem_drp hx
  have := h.2.2 (r + k) (by omega) (by omega)
  unfold BB at this
  rw [getElem?_pos a (b + (r + k)) (by omega)] at this
  simpa [Nat.add_assoc] using this
theorem beyond_ft {key x : Keyed} (h : beyondB false key x = true) : kq x ≤ kq key := by simpa [beyondB] using h
theorem beyond_ff {key x : Keyed} (h : beyondB false key x = false) : kq key < kq x := by simpa [beyondB] using h
theorem beyond_tt {key x : Keyed} (h : beyondB true key x = true) : kq x < kq key := by simpa [beyondB] using h
theorem beyond_tf {key x : Keyed} (h : beyondB true key x = false) : kq key ≤ kq x := by simpa [beyondB] using h
/-- one item of a -/
theorem MI.oneA {a b out : Array Keyed} {ia ib : Nat} (m : MI a b out ia ib) (hi : ia < a.size) (h : ∀ y ∈ b.toList.drop ib, kq a[ia] ≤ kq y) : MI a b (out.push a[ia]) (ia + 1) ib := by
  rw [pushExtract hi]
  exact m.takeA hi fun x hx y hy => by rw [mem_extract1 hi hx]; exact h y hy
theorem MI.oneB {a b out : Array Keyed} {ia ib : Nat} (m : MI a b out ia ib) (hi : ib < b.size) (h : ∀ y ∈ a.toList.drop ia, kq b[ib] ≤ kq y) : MI a b (out.push b[ib]) ia (ib + 1) := by
  rw [pushExtract hi]
  exact m.takeB hi fun x hx y hy => by rw [mem_extract1 hi hx]; exact h y hy
/-- where a merge from the right stands -/
structure MH (a b out : Array Keyed) (na nb : Nat) : Prop where
  perm : (a.toList.take na ++ (b.toList.take nb ++ out.toList.reverse)).Perm (a.toList ++ b.toList)
  gr : Gr (a.toList.take na ++ out.toList.reverse)
  gr' : Gr (b.toList.take nb ++ out.toList.reverse)
  size : out.size + na + nb = a.size + b.size
  la : na ≤ a.size
  lb : nb ≤ b.size
theorem takeExtract (a : Array Keyed) {i k : Nat} (h : i ≤ k) : a.toList.take k = a.toList.take i ++ (a.extract i k).toList := by
  rw [Array.toList_extract, List.extract_eq_take_drop]
  conv => lhs; rw [show k = i + (k - i) by omega, List.take_add]
theorem MH.takeA {a b out : Array Keyed} {na nb i : Nat} (m : MH a b out na nb) (hi : i ≤ na) (h : ∀ y ∈ (a.extract i na).toList, ∀ x ∈ b.toList.take nb, kq x ≤ kq y) :
    MH a b (out ++ (a.extract i na).reverse) i nb := by
  have e := takeExtract a hi
  have er : (out ++ (a.extract i na).reverse).toList.reverse = (a.extract i na).toList ++ out.toList.reverse := by
    rw [Array.toList_append, Array.toList_reverse, List.reverse_append, List.reverse_reverse]
  refine ⟨?_, ?_, ?_, ?_, Nat.le_trans hi m.la, m.lb⟩
  · have := m.perm
    rw [e] at this
    rw [er]
    refine List.Perm.trans ?_ this
    rw [List.append_assoc]
    refine List.Perm.append_left _ ?_
    rw [← List.append_assoc, ← List.append_assoc]
    exact List.Perm.append_right _ List.perm_append_comm
  · have := m.gr
    rw [e, List.append_assoc] at this
    rw [er]
    exact this
  · have h1 := m.gr
    have h2 := m.gr'
    rw [e] at h1
    rw [er]
    unfold Gr at *
    simp only [List.pairwise_append, List.mem_append] at *
    refine ⟨h2.1, ⟨h1.1.2.1, h1.2.1, fun x hx y hy => h1.2.2 x (.inr hx) y hy⟩, ?_⟩
    rintro x hx y (hy | hy)
    · exact h y hy x hx
    · exact h2.2.2 x hx y hy
  · have := m.size
    have := m.la
    rw [Array.size_append, Array.size_reverse, Array.size_extract]; omega
theorem MH.takeB {a b out : Array Keyed} {na nb i : Nat} (m : MH a b out na nb) (hi : i ≤ nb) (h : ∀ y ∈ (b.extract i nb).toList, ∀ x ∈ a.toList.take na, kq x ≤ kq y) :
    MH a b (out ++ (b.extract i nb).reverse) na i := by
  have e := takeExtract b hi
  have er : (out ++ (b.extract i nb).reverse).toList.reverse = (b.extract i nb).toList ++ out.toList.reverse := by
    rw [Array.toList_append, Array.toList_reverse, List.reverse_append, List.reverse_reverse]
  refine ⟨?_, ?_, ?_, ?_, m.la, Nat.le_trans hi m.lb⟩
  · have := m.perm
    rw [e] at this
    rw [er]
    simpa [List.append_assoc] using this
  · have h1 := m.gr
    have h2 := m.gr'
    rw [e] at h2
    rw [er]
    unfold Gr at *
    simp only [List.pairwise_append, List.mem_append] at *
    refine ⟨h1.1, ⟨h2.1.2.1, h2.2.1, fun x hx y hy => h2.2.2 x (.inr hx) y hy⟩, ?_⟩
    rintro x hx y (hy | hy)
    · exact h y hy x hx
    · exact h1.2.2 x hx y hy
  · have := m.gr'
    rw [e, List.append_assoc] at this
    rw [er]
    exact this
  · have := m.size
    have := m.lb
    rw [Array.size_append, Array.size_reverse, Array.size_extract]; omega
theorem extract0 (a : Array Keyed) (n : Nat) : (a.extract 0 n).toList = a.toList.take n := by
  rw [Array.toList_extract, List.extract_eq_take_drop]; simp
theorem MH.done {a b out : Array Keyed} {na nb : Nat} (m : MH a b out na nb) (h : na = 0 ∨ nb = 0) : Merged a b (a.extract 0 na ++ b.extract 0 nb ++ out.reverse) := by
  refine ⟨?_, ?_⟩
  · rw [Array.toList_append, Array.toList_append, extract0, extract0, Array.toList_reverse, List.append_assoc]
    exact m.perm
  · rw [Array.toList_append, Array.toList_append, extract0, extract0, Array.toList_reverse, List.append_assoc]
    rcases h with rfl | rfl
    · simpa using m.gr'
    · simpa using m.gr
theorem MH.firstB {a b out : Array Keyed} {na nb : Nat} (m : MH a b out na nb) (h : ∀ x ∈ b.toList.take nb, ∀ y ∈ a.toList, kq x ≤ kq y) : Merged a b (b.extract 0 nb ++ a.extract 0 na ++ out.reverse) := by
  refine ⟨?_, ?_⟩
  · rw [Array.toList_append, Array.toList_append, extract0, extract0, Array.toList_reverse]
    refine List.Perm.trans ?_ m.perm
    rw [← List.append_assoc]
    exact List.Perm.append_right _ List.perm_append_comm
  · rw [Array.toList_append, Array.toList_append, extract0, extract0, Array.toList_reverse, List.append_assoc]
    have h1 := m.gr
    have h2 := m.gr'
    unfold Gr at *
    simp only [List.pairwise_append, List.mem_append] at *
    refine ⟨h2.1, h1, ?_⟩
    rintro x hx y (hy | hy)
    · exact h x hx y (List.take_subset _ _ hy)
    · exact h2.2.2 x hx y hy
theorem pushRev {a out : Array Keyed} {i : Nat} (hi : i < a.size) : out.push a[i] = out ++ (a.extract i (i + 1)).reverse := by
  rw [← Array.toList_inj, Array.toList_push, Array.toList_append, Array.toList_reverse]
  have h := congrArg Array.toList (pushExtract (out := #[]) hi)
  have h' : (a.extract i (i + 1)).toList = [a[i]] := by simpa using h.symm
  rw [h']; rfl
theorem MH.oneA {a b out : Array Keyed} {na nb : Nat} (m : MH a b out (na + 1) nb) (hi : na < a.size) (h : ∀ x ∈ b.toList.take nb, kq x ≤ kq a[na]) : MH a b (out.push a[na]) na nb := by
  rw [pushRev hi]
  exact m.takeA (Nat.le_succ na) fun y hy x hx => by rw [mem_extract1 hi hy]; exact h x hx
theorem MH.oneB {a b out : Array Keyed} {na nb : Nat} (m : MH a b out na (nb + 1)) (hi : nb < b.size) (h : ∀ x ∈ a.toList.take na, kq x ≤ kq b[nb]) : MH a b (out.push b[nb]) na nb := by
  rw [pushRev hi]
  exact m.takeB (Nat.le_succ nb) fun y hy x hx => by rw [mem_extract1 hi hy]; exact h x hx
theorem mem_tk {a : Array Keyed} {i : Nat} {x : Keyed} (hx : x ∈ a.toList.take i) : ∃ k, ∃ h : k < a.size, k < i ∧ a[k] = x := by
  obtain ⟨k, hk, rfl⟩ := List.mem_iff_getElem.mp hx
  have hk' : k < i ∧ k < a.size := by simpa [Nat.lt_min] using hk
  exact ⟨k, hk'.2, hk'.1, by simp⟩
theorem Gr.tk {a : Array Keyed} (h : Gr a.toList) {i : Nat} (hi : i < a.size) {y : Keyed} (hy : y ∈ a.toList.take (i + 1)) : kq y ≤ kq a[i] := by
  obtain ⟨k, hk, hki, rfl⟩ := mem_tk hy
  exact h.at (by omega) hi
theorem Cut.lo0 {left : Bool} {key : Keyed} {a : Array Keyed} {n r : Nat} (h : Cut left key a 0 n r) {x : Keyed} (hx : x ∈ a.toList.take r) : beyondB left key x = true :=
  h.lo (by rw [Nat.zero_add, extract0]; exact hx)
theorem Cut.hi0 {left : Bool} {key : Keyed} {a : Array Keyed} {n r : Nat} (h : Cut left key a 0 n r) {x : Keyed} (hx : x ∈ (a.extract r n).toList) : beyondB left key x = false := by
  obtain ⟨k, hk, hr, rfl⟩ := mem_ext hx
  have := h.2.2 (r + k) (by omega) hr
  unfold BB at this
  rw [getElem?_pos a (0 + (r + k)) (by omega)] at this
  simpa using this
theorem MH.oneA' {a b out : Array Keyed} {na nb : Nat} (m : MH a b out na nb) (h0 : 0 < na) (hi : na - 1 < a.size) (h : ∀ x ∈ b.toList.take nb, kq x ≤ kq a[na - 1]) : MH a b (out.push a[na - 1]) (na - 1) nb := by
  obtain ⟨n, rfl⟩ : ∃ n, na = n + 1 := ⟨na - 1, by omega⟩
  exact m.oneA hi h
theorem MH.oneB' {a b out : Array Keyed} {na nb : Nat} (m : MH a b out na nb) (h0 : 0 < nb) (hi : nb - 1 < b.size) (h : ∀ x ∈ a.toList.take na, kq x ≤ kq b[nb - 1]) : MH a b (out.push b[nb - 1]) na (nb - 1) := by
  obtain ⟨n, rfl⟩ : ∃ n, nb = n + 1 := ⟨nb - 1, by omega⟩
  exact m.oneB hi h
theorem Gr.tk' {a : Array Keyed} (h : Gr a.toList) {i : Nat} (h0 : 0 < i) (hi : i - 1 < a.size) {y : Keyed} (hy : y ∈ a.toList.take i) : kq y ≤ kq a[i - 1] := by
  obtain ⟨n, rfl⟩ : ∃ n, i = n + 1 := ⟨i - 1, by omega⟩
  exact h.tk hi hy
end Mine
end

section
open PySem PySem.W PySem.Calls PySem.Spec PyProof.Rows
set_option maxRecDepth 100000
namespace Mine
section
variable {prog : Program} {w : World} {A : Around} {E : Value → Shared → Prop} {s : Shared}
theorem wpS_mergeLo {st : SortSt} {a b : Array Keyed} {Q : Array Keyed → SortSt → Prop} (hk : kindOf st = oneType') (hqa : ∀ p ∈ a, IntP p) (hqb : ∀ p ∈ b, IntP p) (ga : Gr a.toList) (gb : Gr b.toList)
    (na : 0 < a.size) (nb : 0 < b.size) (hf : ∀ y ∈ a.toList, kq b[0] ≤ kq y) (hl : ∀ x ∈ b.toList, ∀ y ∈ a.toList.drop (a.size - 1), kq x ≤ kq y)
    (h : ∀ r g, Merged a b r → Q r (setGallop st g)) : wpS (model prog w) A E s (mergeLoM a b) Q st := by
  have m0 : MI a b #[] 0 0 := ⟨by simp, by simpa using ga, by simpa using gb, rfl⟩
  have m1 := m0.oneB nb (by simpa using hf)
  have hE : setGallop st (gallopOf st) = st := rfl
  refine wpS_bind (wpS_rule ?_)
  dsimp only
  refine wpS_bind (wpS_elem nb ?_)
  by_cases e1 : (1 == b.size) = true
  · rw [if_pos e1]
    exact wpS_pure (hE ▸ h _ (gallopOf st) (m1.done (.inl (by simpa using e1))))
  rw [if_neg e1]
  by_cases e2 : (0 + 1 == a.size) = true
  · rw [if_pos e2]
    have e2' : a.size = 1 := (beq_iff_eq.mp e2).symm
    exact wpS_pure (hE ▸ h _ (gallopOf st) (m1.lastA (by rw [e2'] at hl; exact hl)))
  rw [if_neg e2]
  have lastOk : ∀ {out : Array Keyed} {ia ib g : Nat}, MI a b out ia ib → (ia + 1 == a.size) = true → Q (out ++ b.extract ib b.size ++ a.extract ia a.size) (setGallop st g) :=
    fun m e => h _ _ (m.lastA (by have e' := beq_iff_eq.mp e; rw [← e'] at hl; exact hl))
  have doneOk : ∀ {out : Array Keyed} {ia ib g : Nat}, MI a b out ia ib → (ib == b.size) = true → Q (out ++ a.extract ia a.size ++ b.extract ib b.size) (setGallop st g) :=
    fun m e => h _ _ (m.done (.inl (beq_iff_eq.mp e)))
  have i1 : 1 < b.size := by have : ¬ 1 = b.size := fun e => e1 (beq_iff_eq.mpr e); omega
  have i2 : 0 + 1 < a.size := by have : ¬ 0 + 1 = a.size := fun e => e2 (beq_iff_eq.mpr e); omega
  clear e1 e2 m0 hf hl
  refine wpS_bind (wpS_get ?_)
  refine wpS_bind (wpS_mono (wpS_forRange
    (I := fun x c st' => ∃ out ia ib mg g, c = (none, out, ia, ib, mg) ∧ st' = setGallop st g ∧ MI a b out ia ib ∧ ia + 1 < a.size ∧ ib < b.size ∧ x + 1 ≤ ia + ib)
    (Q := fun c st' => ∃ r d g, c = (some r, d) ∧ st' = setGallop st g ∧ Q r (setGallop st g)) ?step ?fin
    ⟨_, 0, 1, _, gallopOf st, rfl, rfl, m1, i2, i1, by omega⟩) ?post)
  case fin =>
    rintro c st' ⟨out, ia, ib, mg, g, rfl, rfl, m, j1, j2, j3⟩
    omega
  case post =>
    rintro c st' ⟨r, d, g, rfl, rfl, hq⟩
    exact wpS_pure hq
  case step =>
    clear m1 i1 i2
    rintro x c st' _ hx ⟨out, ia, ib, mg, g, rfl, rfl, m, j1, j2, j3⟩
    dsimp only
    refine wpS_bind (wpS_mono (wpS_forRange
      (I := fun x' c st' => ∃ out' ia' ib' ac bc, c = (none, out', ia', ib', ac, bc) ∧ st' = setGallop st g ∧ MI a b out' ia' ib' ∧ ia' + 1 < a.size ∧ ib' < b.size ∧ ia + ib ≤ ia' + ib')
      (Q := fun c st' => (∃ r d, c = (some r, d) ∧ st' = setGallop st g ∧ Q r (setGallop st g)) ∨ (∃ out' ia' ib' ac bc, c = (none, out', ia', ib', ac, bc) ∧ st' = setGallop st g ∧ MI a b out' ia' ib' ∧ ia' + 1 < a.size ∧ ib' < b.size ∧ ia + ib ≤ ia' + ib')) ?step1 ?fin1
      ⟨out, ia, ib, 0, 0, rfl, rfl, m, j1, j2, Nat.le_refl _⟩) ?post1)
    case fin1 => exact fun c st' hh => .inr hh
    case step1 =>
      clear m j1 j2
      rintro y c st' _ hy ⟨out, ia', ib', ac, bc, rfl, rfl, m, j1, j2, j4⟩
      dsimp only
      refine wpS_bind (wpS_elem j2 ?_)
      refine wpS_bind (wpS_elem (by omega) ?_)
      refine wpS_bind (wpS_ltP hk (hqb _ (Array.getElem_mem _)) (hqa _ (Array.getElem_mem _)) ?_)
      dsimp only
      by_cases hlt : kq b[ib'] < kq (a[ia']'(by omega))
      · simp only [hlt, decide_true, if_true]
        refine wpS_bind (wpS_elem j2 ?_)
        have m' := m.oneB j2 (fun y hy => Int.le_trans (Int.le_of_lt hlt) (ga.drp (by omega) hy))
        by_cases e : (ib' + 1 == b.size) = true
        · rw [if_pos e]
          exact wpS_pure (.inl ⟨_, _, rfl, rfl, doneOk m' e⟩)
        · rw [if_neg e]
          have e' : ib' + 1 < b.size := by have : ¬ ib' + 1 = b.size := fun e' => e (beq_iff_eq.mpr e'); omega
          by_cases ec : bc + 1 ≥ mg
          · rw [if_pos ec]
            exact wpS_pure (.inr ⟨_, _, _, _, _, rfl, rfl, m', j1, e', by omega⟩)
          · rw [if_neg ec]
            exact wpS_pure ⟨_, _, _, _, _, rfl, rfl, m', j1, e', by omega⟩
      · simp only [hlt, decide_false, Bool.false_eq_true, if_false]
        refine wpS_bind (wpS_elem (by omega) ?_)
        have m' := m.oneA (by omega) (fun y hy => Int.le_trans (Int.not_lt.mp hlt) (gb.drp j2 hy))
        by_cases e : (ia' + 1 + 1 == a.size) = true
        · rw [if_pos e]
          exact wpS_pure (.inl ⟨_, _, rfl, rfl, lastOk m' e⟩)
        · rw [if_neg e]
          have e' : ia' + 1 + 1 < a.size := by have : ¬ ia' + 1 + 1 = a.size := fun e' => e (beq_iff_eq.mpr e'); omega
          by_cases ec : ac + 1 ≥ mg
          · rw [if_pos ec]
            exact wpS_pure (.inr ⟨_, _, _, _, _, rfl, rfl, m', e', j2, by omega⟩)
          · rw [if_neg ec]
            exact wpS_pure ⟨_, _, _, _, _, rfl, rfl, m', e', j2, by omega⟩
    case post1 =>
      clear m j1 j2
      rintro c st' (⟨r, d, rfl, rfl, hq⟩ | ⟨out, ia', ib', ac, bc, rfl, rfl, m, j1, j2, j4⟩)
      · exact wpS_pure ⟨_, _, _, rfl, rfl, hq⟩
      dsimp only
      refine wpS_bind (wpS_rule ?_)
      refine wpS_bind (wpS_mono (wpS_forRange
        (I := fun x' c st' => ∃ out' i' k' mg' ac bc g, c = (none, out', i', k', mg', ac, bc) ∧ st' = setGallop st g ∧ MI a b out' i' k' ∧ i' + 1 < a.size ∧ k' < b.size ∧ ia + ib + x' ≤ i' + k')
        (Q := fun c st' => (∃ r d g, c = (some r, d) ∧ st' = setGallop st g ∧ Q r (setGallop st g)) ∨ (∃ out' i' k' mg' ac bc g, c = (none, out', i', k', mg', ac, bc) ∧ st' = setGallop st g ∧ MI a b out' i' k' ∧ i' + 1 < a.size ∧ k' < b.size ∧ ia + ib + 1 ≤ i' + k')) ?step2 ?fin2
        ⟨out, ia', ib', _, _, _, g, rfl, rfl, m, j1, j2, j4⟩) ?post2)
      case fin2 =>
        rintro c st' ⟨out', i', k', mg', ac, bc, g, rfl, rfl, m', l1, l2, l3⟩
        exact .inr ⟨out', i', k', mg', ac, bc, g, rfl, rfl, m', l1, l2, by omega⟩
      case post2 =>
        rintro c st' (⟨r, d, g, rfl, rfl, hq⟩ | ⟨out', i', k', mg', ac, bc, g, rfl, rfl, m', l1, l2, l3⟩)
        · exact wpS_pure ⟨_, _, _, rfl, rfl, hq⟩
        · have l4 : x + 1 + 1 ≤ i' + k' := by omega
          exact wpS_bind (wpS_setMin (wpS_pure ⟨_, _, _, _, _, rfl, rfl, m', l1, l2, l4⟩))
      case step2 =>
        clear m j1 j2 j4
        rintro y c st' _ hy ⟨out, i', k', mg', ac, bc, g, rfl, rfl, m, j1, j2, j4⟩
        dsimp only
        refine wpS_ite (fun hm => ?_) (fun hm => ?_)
        all_goals
          refine wpS_bind (wpS_setMin ?_)
          refine wpS_bind (wpS_elem j2 ?_)
          refine wpS_bind (wpS_gallop hk (by omega) (by omega) (hqb _ (Array.getElem_mem _)) hqa ga.grow fun r1 hc1 => ?_)
          dsimp only
          have hc1' := hc1.1
          have M1 := m.takeA (k := r1) (by omega) (fun x hx y hy => Int.le_trans (beyond_ft (hc1.lo hx)) (gb.drp j2 hy))
          have d3 := fun y hy => Int.le_of_lt (beyond_ff (hc1.hi (x := y) (by omega) hy))
          refine wpS_ite (fun hr => ?_) (fun hr => ?_)
          all_goals
            first
            | (have hr0 : r1 = 0 := by omega
               subst hr0
               replace M1 := m
               have d1 : i' + 0 + 1 < a.size := j1)
            | (refine wpS_ite (fun e => wpS_pure (.inl ⟨_, _, _, rfl, rfl, lastOk M1 e⟩)) (fun e => ?_)
               refine wpS_ite (fun e2 => wpS_pure (.inl ⟨_, _, _, rfl, rfl, h _ _ (M1.done (.inr (beq_iff_eq.mp e2)))⟩)) (fun e2 => ?_)
               have d1 : i' + r1 + 1 < a.size := by have := neOf e; have := neOf e2; omega)
            refine wpS_bind (wpS_elem j2 ?_)
            have M2' := M1.oneB j2 d3
            refine wpS_ite (fun e => wpS_pure (.inl ⟨_, _, _, rfl, rfl, doneOk M2' e⟩)) (fun e => ?_)
            have f1 := ltOf e (by omega)
            refine wpS_bind (wpS_elem (by omega) ?_)
            refine wpS_bind (wpS_gallop hk (by omega) (by omega) (hqa _ (Array.getElem_mem _)) hqb gb.grow fun r2 hc2 => ?_)
            dsimp only
            have hc2' := hc2.1
            have c3 := fun y hy => beyond_tf (hc2.hi (x := y) (by omega) hy)
            refine wpS_ite (fun hr2 => ?_) (fun hr2 => ?_)
            all_goals
              first
              | (have hr0' : r2 = 0 := by omega
                 subst hr0'
                 have M2 := M2'
                 have c2 := f1)
              | (have M2 := M2'.takeB (k := r2) (by omega) (fun x hx y hy => Int.le_trans (Int.le_of_lt (beyond_tt (hc2.lo hx))) (ga.drp (by omega) hy))
                 refine wpS_ite (fun e => wpS_pure (.inl ⟨_, _, _, rfl, rfl, doneOk M2 e⟩)) (fun e => ?_)
                 have c2 := ltOf e (by omega))
              refine wpS_bind (wpS_elem (by omega) ?_)
              have M3 := M2.oneA (by omega) c3
              refine wpS_ite (fun e => wpS_pure (.inl ⟨_, _, _, rfl, rfl, lastOk M3 e⟩)) (fun e => ?_)
              have e' := ltOf e (by omega)
              refine wpS_ite (fun _ => wpS_pure (.inr ⟨_, _, _, _, _, _, _, rfl, rfl, M3, e', c2, by omega⟩)) (fun _ => wpS_pure ⟨_, _, _, _, _, _, _, rfl, rfl, M3, e', c2, by omega⟩)
end
end Mine
end

section
open PySem PySem.W PySem.Calls PySem.Spec PyProof.Rows
set_option maxRecDepth 100000
namespace Mine
section
variable {prog : Program} {w : World} {A : Around} {E : Value → Shared → Prop} {s : Shared}
theorem wpS_mergeHi {st : SortSt} {a b : Array Keyed} {Q : Array Keyed → SortSt → Prop} (hk : kindOf st = oneType') (hqa : ∀ p ∈ a, IntP p) (hqb : ∀ p ∈ b, IntP p) (ga : Gr a.toList) (gb : Gr b.toList)
    (na : 0 < a.size) (nb : 0 < b.size) (hf : ∀ x ∈ b.toList.take 1, ∀ y ∈ a.toList, kq x ≤ kq y) (hl : ∀ x ∈ b.toList, kq x ≤ kq (a[a.size - 1]'(by omega)))
    (h : ∀ r g, Merged a b r → Q r (setGallop st g)) : wpS (model prog w) A E s (mergeHiM a b) Q st := by
  have ta : a.toList.take (a.size - 1 + 1) = a.toList := List.take_of_length_le (by simp; omega)
  have tb : b.toList.take b.size = b.toList := List.take_of_length_le (by simp)
  have m0 : MH a b #[] (a.size - 1 + 1) b.size := ⟨by rw [ta, tb]; simp, by rw [ta]; simpa using ga, by rw [tb]; simpa using gb, by simp; omega, by omega, Nat.le_refl _⟩
  have m1 := m0.oneA (by omega) (fun x hx => hl x (List.take_subset _ _ hx))
  have hE : setGallop st (gallopOf st) = st := rfl
  refine wpS_bind (wpS_rule ?_)
  dsimp only
  refine wpS_bind (wpS_elem (by omega) ?_)
  have doneOk : ∀ {out : Array Keyed} {na nb g : Nat}, MH a b out na nb → (na == 0) = true → Q (a.extract 0 na ++ b.extract 0 nb ++ out.reverse) (setGallop st g) :=
    fun m e => h _ _ (m.done (.inl (beq_iff_eq.mp e)))
  have firstOk : ∀ {out : Array Keyed} {na nb g : Nat}, MH a b out na nb → (nb == 1) = true → Q (b.extract 0 nb ++ a.extract 0 na ++ out.reverse) (setGallop st g) :=
    fun m e => h _ _ (m.firstB (by rw [beq_iff_eq.mp e]; exact hf))
  refine wpS_ite (fun e => wpS_pure (hE ▸ doneOk (g := gallopOf st) m1 e)) (fun e1 => ?_)
  refine wpS_ite (fun e => wpS_pure (hE ▸ firstOk (g := gallopOf st) m1 e)) (fun e2 => ?_)
  have i1 := neOf e1
  have i2 := neOf e2
  have i3 : 0 < a.size - 1 := by omega
  have i4 : 1 < b.size := by omega
  have i5 : 0 + 1 + (a.size - 1) + b.size ≤ a.size + b.size := by omega
  refine wpS_bind (wpS_get ?_)
  refine wpS_bind (wpS_mono (wpS_forRange
    (I := fun x c st' => ∃ out ia ib mg g, c = (none, ia, ib, out, mg) ∧ st' = setGallop st g ∧ MH a b out ia ib ∧ 0 < ia ∧ 1 < ib ∧ x + 1 + ia + ib ≤ a.size + b.size)
    (Q := fun c st' => ∃ r d g, c = (some r, d) ∧ st' = setGallop st g ∧ Q r (setGallop st g)) ?step ?fin
    ⟨_, a.size - 1, b.size, _, gallopOf st, rfl, rfl, m1, i3, i4, i5⟩) ?post)
  case fin =>
    rintro c st' ⟨out, ia, ib, mg, g, rfl, rfl, m, j1, j2, j3⟩
    omega
  case post =>
    rintro c st' ⟨r, d, g, rfl, rfl, hq⟩
    exact wpS_pure hq
  case step =>
    clear m0 m1 i1 i2 i3 i4 i5 e1 e2
    rintro x c st' _ hx ⟨out, ia, ib, mg, g, rfl, rfl, m, j1, j2, j3⟩
    dsimp only
    refine wpS_bind (wpS_mono (wpS_forRange
      (I := fun x' c st' => ∃ out' ia' ib' ac bc, c = (none, ia', ib', out', ac, bc) ∧ st' = setGallop st g ∧ MH a b out' ia' ib' ∧ 0 < ia' ∧ 1 < ib' ∧ ia' + ib' ≤ ia + ib)
      (Q := fun c st' => (∃ r d, c = (some r, d) ∧ st' = setGallop st g ∧ Q r (setGallop st g)) ∨ (∃ out' ia' ib' ac bc, c = (none, ia', ib', out', ac, bc) ∧ st' = setGallop st g ∧ MH a b out' ia' ib' ∧ 0 < ia' ∧ 1 < ib' ∧ ia' + ib' ≤ ia + ib)) ?step1 ?fin1
      ⟨out, ia, ib, 0, 0, rfl, rfl, m, j1, j2, Nat.le_refl _⟩) ?post1)
    case fin1 => exact fun c st' hh => .inr hh
    case step1 =>
      clear m j1 j2
      rintro y c st' _ hy ⟨out, ia', ib', ac, bc, rfl, rfl, m, j1, j2, j4⟩
      dsimp only
      have q1 : ia' - 1 < a.size := by have := m.la; omega
      have q2 : ib' - 1 < b.size := by have := m.lb; omega
      refine wpS_bind (wpS_elem q2 ?_)
      refine wpS_bind (wpS_elem q1 ?_)
      refine wpS_bind (wpS_ltP hk (hqb _ (Array.getElem_mem _)) (hqa _ (Array.getElem_mem _)) ?_)
      dsimp only
      by_cases hlt : kq b[ib' - 1] < kq a[ia' - 1]
      · simp only [hlt, decide_true, if_true]
        refine wpS_bind (wpS_elem q1 ?_)
        have m' := m.oneA' j1 q1 (fun x hx => Int.le_trans (gb.tk' (by omega) q2 hx) (Int.le_of_lt hlt))
        refine wpS_ite (fun e => wpS_pure (.inl ⟨_, _, rfl, rfl, doneOk m' e⟩)) (fun e => ?_)
        have e' := Nat.pos_of_ne_zero (neOf e)
        refine wpS_ite (fun _ => wpS_pure (.inr ⟨_, _, _, _, _, rfl, rfl, m', e', j2, by omega⟩)) (fun _ => wpS_pure ⟨_, _, _, _, _, rfl, rfl, m', e', j2, by omega⟩)
      · simp only [hlt, decide_false, Bool.false_eq_true, if_false]
        refine wpS_bind (wpS_elem q2 ?_)
        have m' := m.oneB' (by omega) q2 (fun x hx => Int.le_trans (ga.tk' j1 q1 hx) (Int.not_lt.mp hlt))
        refine wpS_ite (fun e => wpS_pure (.inl ⟨_, _, rfl, rfl, firstOk m' e⟩)) (fun e => ?_)
        have e' : 1 < ib' - 1 := by have := neOf e; omega
        refine wpS_ite (fun _ => wpS_pure (.inr ⟨_, _, _, _, _, rfl, rfl, m', j1, e', by omega⟩)) (fun _ => wpS_pure ⟨_, _, _, _, _, rfl, rfl, m', j1, e', by omega⟩)
    case post1 =>
      clear m j1 j2
      rintro c st' (⟨r, d, rfl, rfl, hq⟩ | ⟨out, ia', ib', ac, bc, rfl, rfl, m, j1, j2, j4⟩)
      · exact wpS_pure ⟨_, _, _, rfl, rfl, hq⟩
      dsimp only
      refine wpS_bind (wpS_rule ?_)
      refine wpS_bind (wpS_mono (wpS_forRange
        (I := fun x' c st' => ∃ out' i' k' mg' ac bc g, c = (none, i', k', out', mg', ac, bc) ∧ st' = setGallop st g ∧ MH a b out' i' k' ∧ 0 < i' ∧ 1 < k' ∧ x' + i' + k' ≤ ia + ib)
        (Q := fun c st' => (∃ r d g, c = (some r, d) ∧ st' = setGallop st g ∧ Q r (setGallop st g)) ∨ (∃ out' i' k' mg' ac bc g, c = (none, i', k', out', mg', ac, bc) ∧ st' = setGallop st g ∧ MH a b out' i' k' ∧ 0 < i' ∧ 1 < k' ∧ 1 + i' + k' ≤ ia + ib)) ?step2 ?fin2
        ⟨out, ia', ib', _, _, _, g, rfl, rfl, m, j1, j2, (by omega : 0 + ia' + ib' ≤ ia + ib)⟩) ?post2)
      case fin2 =>
        rintro c st' ⟨out', i', k', mg', ac, bc, g, rfl, rfl, m', l1, l2, l3⟩
        exact .inr ⟨out', i', k', mg', ac, bc, g, rfl, rfl, m', l1, l2, by omega⟩
      case post2 =>
        rintro c st' (⟨r, d, g, rfl, rfl, hq⟩ | ⟨out', i', k', mg', ac, bc, g, rfl, rfl, m', l1, l2, l3⟩)
        · exact wpS_pure ⟨_, _, _, rfl, rfl, hq⟩
        · have l4 : x + 1 + 1 + i' + k' ≤ a.size + b.size := by omega
          exact wpS_bind (wpS_setMin (wpS_pure ⟨_, _, _, _, _, rfl, rfl, m', l1, l2, l4⟩))
      case step2 =>
        clear m j1 j2 j4
        rintro y c st' _ hy ⟨out, i', k', mg', ac, bc, g, rfl, rfl, m, j1, j2, j4⟩
        dsimp only
        have q1 : i' - 1 < a.size := by have := m.la; omega
        have q2 : k' - 1 < b.size := by have := m.lb; omega
        refine wpS_ite (fun hm => ?_) (fun hm => ?_)
        all_goals
          refine wpS_bind (wpS_setMin ?_)
          refine wpS_bind (wpS_elem q2 ?_)
          refine wpS_bind (wpS_gallop hk (by omega) (by omega) (hqb _ (Array.getElem_mem _)) hqa ga.grow fun r1 hc1 => ?_)
          dsimp only
          have hc1' := hc1.1
          have M1 := m.takeA (i := r1) hc1' (fun y hy x hx => Int.le_trans (gb.tk' (by omega) q2 hx) (Int.le_of_lt (beyond_ff (hc1.hi0 hy))))
          have d3 := fun x hx => beyond_ft (hc1.lo0 (x := x) hx)
          refine wpS_ite (fun hr => ?_) (fun hr => ?_)
          all_goals
            first
            | (have hr0 : r1 = i' := by omega
               subst hr0
               replace M1 := m
               have d1 : 0 < r1 := j1)
            | (refine wpS_ite (fun e => wpS_pure (.inl ⟨_, _, _, rfl, rfl, doneOk M1 e⟩)) (fun e => ?_)
               have d1 : 0 < r1 := Nat.pos_of_ne_zero (neOf e))
            have d2 : r1 - 1 < a.size := by have := M1.la; omega
            refine wpS_bind (wpS_elem q2 ?_)
            have M2' := M1.oneB' (by omega) q2 d3
            refine wpS_ite (fun e => wpS_pure (.inl ⟨_, _, _, rfl, rfl, firstOk M2' e⟩)) (fun e => ?_)
            have f1 : 1 < k' - 1 := by have := neOf e; omega
            refine wpS_bind (wpS_elem d2 ?_)
            refine wpS_bind (wpS_gallop hk (by omega) (by omega) (hqa _ (Array.getElem_mem _)) hqb gb.grow fun r2 hc2 => ?_)
            dsimp only
            have hc2' := hc2.1
            have c3 := fun x hx => Int.le_of_lt (beyond_tt (hc2.lo0 (x := x) hx))
            refine wpS_ite (fun hr2 => ?_) (fun hr2 => ?_)
            all_goals
              first
              | (have hr0' : r2 = k' - 1 := by omega
                 subst hr0'
                 have M2 := M2'
                 have c2 := f1)
              | (have M2 := M2'.takeB (i := r2) hc2' (fun y hy x hx => Int.le_trans (ga.tk' d1 d2 hx) (beyond_tf (hc2.hi0 hy)))
                 refine wpS_ite (fun e => wpS_pure (.inl ⟨_, _, _, rfl, rfl, firstOk M2 e⟩)) (fun e => ?_)
                 refine wpS_ite (fun e2 => wpS_pure (.inl ⟨_, _, _, rfl, rfl, h _ _ (M2.done (.inr (beq_iff_eq.mp e2)))⟩)) (fun e2 => ?_)
                 have c2 : 1 < r2 := by have := neOf e; have := neOf e2; omega)
              refine wpS_bind (wpS_elem d2 ?_)
              have M3 := M2.oneA' d1 d2 c3
              refine wpS_ite (fun e => wpS_pure (.inl ⟨_, _, _, rfl, rfl, doneOk M3 e⟩)) (fun e => ?_)
              have e' := Nat.pos_of_ne_zero (neOf e)
              refine wpS_ite (fun _ => wpS_pure (.inr ⟨_, _, _, _, _, _, _, rfl, rfl, M3, e', c2, by omega⟩)) (fun _ => wpS_pure ⟨_, _, _, _, _, _, _, rfl, rfl, M3, e', c2, by omega⟩)
end
end Mine
end

section
open PySem PySem.W PySem.Calls PySem.Spec PyProof.Rows
set_option maxRecDepth 100000
namespace Mine
/-- writing l over the middle part -/
theorem foldSet {sa : Nat} : ∀ (l : List Keyed) (n : Nat) (P O R : List Keyed) (arr : Array Keyed), arr.toList = P ++ (O ++ R) → P.length = sa + n → O.length = l.length →
    ((l.zipIdx n).foldl (fun a x => a.setIfInBounds (sa + x.snd) x.fst) arr).toList = P ++ (l ++ R)
  | [], n, P, O, R, arr, h, hP, hO => by
    have : O = [] := List.length_eq_zero_iff.mp hO
    subst this
    simpa using h
  | p :: l, n, P, [], R, arr, h, hP, hO => by simp at hO
  | p :: l, n, P, o :: O, R, arr, h, hP, hO => by
    rw [List.zipIdx_cons, List.foldl_cons]
    have e := foldSet (sa := sa) l (n + 1) (P ++ [p]) O R (arr.setIfInBounds (sa + n) p) (by
      rw [Array.toList_setIfInBounds, h, ← hP, List.set_append_right _ _ (Nat.le_refl _)]
      simp) (by simp [hP]; omega) (by simpa using hO)
    rw [e]
    simp
theorem midAt {arr : Array Keyed} {P A R : List Keyed} (h : arr.toList = P ++ (A ++ R)) {i : Nat} (hi : i < A.length) : arr[P.length + i]? = some A[i] := by
  rw [← Array.getElem?_toList, h, List.getElem?_append_right (by omega), List.getElem?_append_left (by omega)]
  rw [show P.length + i - P.length = i by omega, List.getElem?_eq_getElem hi]
theorem growOf {arr : Array Keyed} {P A R : List Keyed} (h : arr.toList = P ++ (A ++ R)) (g : Gr A) : Grow arr P.length A.length := by
  intro i j x y hij hj hx hy
  rw [midAt h (by omega)] at hx
  rw [midAt h hj] at hy
  obtain rfl := Option.some.inj hx
  obtain rfl := Option.some.inj hy
  rcases Nat.lt_or_ge i j with h' | h'
  · exact List.pairwise_iff_getElem.mp g i j (by omega) hj h'
  · have : i = j := by omega
    subst this; exact Int.le_refl _
theorem cutTake {left : Bool} {key : Keyed} {arr : Array Keyed} {P A R : List Keyed} {r : Nat} (h : arr.toList = P ++ (A ++ R)) (hc : Cut left key arr P.length A.length r) :
    (∀ x ∈ A.take r, beyondB left key x = true) ∧ (∀ x ∈ A.drop r, beyondB left key x = false) := by
  obtain ⟨h1, h2, h3⟩ := hc
  constructor
  · intro x hx
    obtain ⟨k, hk, rfl⟩ := List.mem_iff_getElem.mp hx
    have hk' : k < r ∧ k < A.length := by simpa [Nat.lt_min] using hk
    have := h2 k hk'.1
    unfold BB at this
    rw [midAt h hk'.2] at this
    simpa using this
  · intro x hx
    obtain ⟨k, hk, rfl⟩ := List.mem_iff_getElem.mp hx
    have hk' : r + k < A.length := by have : k < A.length - r := by simpa using hk
                                      omega
    have := h3 (r + k) (by omega) hk'
    unfold BB at this
    rw [midAt h hk'] at this
    simpa using this
theorem midExtract {arr : Array Keyed} {P A R : List Keyed} (h : arr.toList = P ++ (A ++ R)) {i j : Nat} (hj : j ≤ A.length) : (arr.extract (P.length + i) (P.length + j)).toList = (A.take j).drop i := by
  rw [Array.toList_extract, List.extract_eq_take_drop, h, List.drop_append, List.drop_eq_nil_of_le (by omega), List.nil_append]
  rw [show P.length + i - P.length = i by omega, show P.length + j - (P.length + i) = j - i by omega]
  rw [List.drop_take, List.drop_append, List.take_append]
  rcases Nat.le_total i j with hij | hij
  · rw [show j - i - (A.drop i).length = 0 by rw [List.length_drop]; omega, List.take_zero, List.append_nil]
  · rw [show j - i = 0 by omega]; simp
theorem mergeGr {A B M : List Keyed} {k m : Nat} (ga : Gr A) (gb : Gr B) (h1 : ∀ x ∈ A.take k, ∀ y ∈ B, kq x ≤ kq y) (h2 : ∀ y ∈ B.drop m, ∀ x ∈ A, kq x ≤ kq y)
    (hp : M.Perm (A.drop k ++ B.take m)) (hm : Gr M) : (A.take k ++ (M ++ B.drop m)).Perm (A ++ B) ∧ Gr (A.take k ++ (M ++ B.drop m)) := by
  constructor
  · conv => rhs; rw [← List.take_append_drop k A, ← List.take_append_drop m B]
    rw [List.append_assoc]
    refine List.Perm.append_left _ ?_
    rw [← List.append_assoc]
    exact List.Perm.append_right _ hp
  · have ga' := ga
    have gb' := gb
    rw [← List.take_append_drop k A] at ga'
    rw [← List.take_append_drop m B] at gb'
    unfold Gr at *
    rw [List.pairwise_append] at ga' gb'
    rw [List.pairwise_append, List.pairwise_append]
    have hM : ∀ x ∈ M, x ∈ A.drop k ∨ x ∈ B.take m := fun x hx => List.mem_append.mp (hp.mem_iff.mp hx)
    refine ⟨ga'.1, ⟨hm, gb'.2.1, ?_⟩, ?_⟩
    · intro x hx y hy
      rcases hM x hx with h | h
      · exact h2 y hy x (List.drop_subset _ _ h)
      · exact gb'.2.2 x h y hy
    · intro x hx y hy
      rcases List.mem_append.mp hy with hy | hy
      · rcases hM y hy with h | h
        · exact ga'.2.2 x hx y h
        · exact h1 x hx y (List.take_subset _ _ h)
      · exact h1 x hx y (List.drop_subset _ _ hy)
theorem arrGet {b : Array Keyed} {l : List Keyed} (h : b.toList = l) {i : Nat} (hi : i < b.size) (hl : i < l.length) : b[i] = l[i] := by subst h; simp
section
variable {prog : Program} {w : World} {A : Around} {E : Value → Shared → Prop} {s : Shared}
theorem wpS_set {st st' : SortSt} {Q : PUnit → SortSt → Prop} (h : Q ⟨⟩ st') : wpS (model prog w) A E s (set st' : StateT SortSt Sem PUnit) Q st := by
  unfold wpS; rw [StateT.run_set]; exact wpAny_pure ⟨rfl, h⟩
theorem wpS_elemL {st : SortSt} {xs : Array Keyed} {i : Nat} {x : Keyed} {Q : Keyed → SortSt → Prop} (hi : xs[i]? = some x) (h : Q x st) : wpS (model prog w) A E s (elem' xs i) Q st := by
  rw [elem'_eq, hi]
  exact wpS_pure h
abbrev mergedSt (st : SortSt) (xs : Array Keyed) (p : Array (Nat × Nat × Nat)) (g : Nat) : SortSt := SortSt.mk' (kindOf st) xs p g (failedOf st)
theorem wpS_mergeAt {st : SortSt} {i pw pw' : Nat} {P X Y R : List Keyed} {Q : Bool → SortSt → Prop} (hk : kindOf st = oneType') (hfl : failedOf st = none) (hq : ∀ p ∈ arrOf st, IntP p)
    (ha : (arrOf st).toList = P ++ (X ++ (Y ++ R))) (gx : Gr X) (gy : Gr Y) (hx : 0 < X.length) (hy : 0 < Y.length)
    (h1 : (pendingOf st)[i]? = some (P.length, X.length, pw)) (h2 : (pendingOf st)[i + 1]? = some (P.length + X.length, Y.length, pw'))
    (h : ∀ xs g M, xs.toList = P ++ (M ++ R) → M.Perm (X ++ Y) → Gr M →
      Q true (mergedSt st xs (((pendingOf st).setIfInBounds i (P.length, X.length + Y.length, pw)).eraseIdxIfInBounds (i + 1)) g)) :
    wpS (model prog w) A E s (mergeAt' i) Q st := by
  have hb : (arrOf st).toList = (P ++ X) ++ (Y ++ R) := by rw [ha]; simp
  have hsz : P.length + X.length + Y.length ≤ (arrOf st).size := by
    rw [← Array.length_toList, ha]; simp; omega
  have eb := midAt hb hy
  rw [List.length_append, Nat.add_zero] at eb
  have ea := midAt ha (show X.length - 1 < X.length by omega)
  refine wpS_bind (wpS_get ?_)
  dsimp only
  rw [h1, h2]
  dsimp only
  refine wpS_bind (wpS_set ?_)
  refine wpS_bind (wpS_elemL eb ?_)
  have hqY : ∀ p ∈ Y, IntP p := fun p hp => hq p (by rw [← Array.mem_toList_iff, ha]; simp [hp])
  have hqX : ∀ p ∈ X, IntP p := fun p hp => hq p (by rw [← Array.mem_toList_iff, ha]; simp [hp])
  refine wpS_bind (wpS_gallop (arr := arrOf st) hk (by omega) hx (hqY _ (List.getElem_mem _)) hq (growOf ha gx) fun k hc => ?_)
  dsimp only
  have hck := hc.1
  obtain ⟨c1, c2⟩ := cutTake ha hc
  have d1 : ∀ x ∈ X.take k, ∀ y ∈ Y, kq x ≤ kq y := fun x hx' y hy' => Int.le_trans (beyond_ft (c1 x hx')) (by
    obtain ⟨j, hj, rfl⟩ := List.mem_iff_getElem.mp hy'
    exact growOf (arr := Y.toArray) (P := []) (A := Y) (R := []) (by simp) gy 0 j _ _ (by omega) hj (by simp [hy]) (by simp [hj]))
  refine wpS_ite (fun e => wpS_pure ?_) (fun e => ?_)
  · have e' : k = X.length := by have := beq_iff_eq.mp e; omega
    have hg := mergeGr (M := Y) (k := k) (m := Y.length) gx gy d1 (by simp) (by rw [e']; simp) gy
    exact h (arrOf st) (gallopOf st) _ (by rw [ha, e']; simp) hg.1 hg.2
  have e1 : 0 < X.length - k := Nat.pos_of_ne_zero (neOf e)
  have ea' : (arrOf st)[P.length + k + (X.length - k) - 1]? = some X[X.length - 1] := by
    rw [show P.length + k + (X.length - k) - 1 = P.length + (X.length - 1) by omega]; exact ea
  refine wpS_bind (wpS_elemL ea' ?_)
  have eP : P.length + X.length = (P ++ X).length := by simp
  refine wpS_bind (wpS_gallop (base := P.length + X.length) (arr := arrOf st) hk (by omega) (by omega) (hqX _ (List.getElem_mem _)) hq (eP ▸ growOf hb gy) fun m hm => ?_)
  dsimp only
  have hmk := hm.1
  rw [eP] at hm
  obtain ⟨c3, c4⟩ := cutTake hb hm
  have d2 : ∀ y ∈ Y.drop m, ∀ x ∈ X, kq x ≤ kq y := fun y hy' x hx' => Int.le_trans (by
    obtain ⟨j, hj, rfl⟩ := List.mem_iff_getElem.mp hx'
    exact growOf (arr := X.toArray) (P := []) (A := X) (R := []) (by simp) gx j (X.length - 1) _ _ (by omega) (by omega) (by simp [hj]) (by simp [hx])) (beyond_tf (c4 y hy'))
  refine wpS_ite (fun e2 => wpS_pure ?_) (fun e2 => ?_)
  · have e' : m = 0 := beq_iff_eq.mp e2
    have hg := mergeGr (M := X.drop k) (k := k) (m := m) gx gy d1 d2 (by rw [e']; simp) (gx.sublist (List.drop_sublist _ _))
    exact h (arrOf st) (gallopOf st) _ (by rw [ha, e', ← List.append_assoc, List.drop_zero]; simp only [← List.append_assoc, List.take_append_drop]) hg.1 hg.2
  have e3 : 0 < m := Nat.pos_of_ne_zero (neOf e2)
  have ex : ((arrOf st).extract (P.length + k) (P.length + X.length)).toList = X.drop k := by
    rw [midExtract ha (Nat.le_refl _), List.take_length]
  have ey : ((arrOf st).extract (P.length + X.length) (P.length + X.length + m)).toList = Y.take m := by
    have := midExtract (i := 0) (j := m) hb hmk
    rw [eP]
    simpa using this
  have fin : ∀ r g st', st' = mergedSt st (arrOf st) (((pendingOf st).setIfInBounds i (P.length, X.length + Y.length, pw)).eraseIdxIfInBounds (i + 1)) g →
      Merged ((arrOf st).extract (P.length + k) (P.length + X.length)) ((arrOf st).extract (P.length + X.length) (P.length + X.length + m)) r →
      Q true (mergedSt st (List.foldl (fun a x => a.setIfInBounds (P.length + k + x.snd) x.fst) (arrOf st) r.toList.zipIdx) (((pendingOf st).setIfInBounds i (P.length, X.length + Y.length, pw)).eraseIdxIfInBounds (i + 1)) g) := by
    intro r g st' _ hm'
    obtain ⟨p1, p2⟩ := hm'
    rw [ex, ey] at p1
    have hg := mergeGr (M := r.toList) (k := k) (m := m) gx gy d1 d2 p1 p2
    refine h _ g _ ?_ hg.1 hg.2
    have := foldSet (sa := P.length + k) r.toList 0 (P ++ X.take k) (X.drop k ++ Y.take m) (Y.drop m ++ R) (arrOf st) (by
      rw [ha]
      conv => lhs; rw [← List.take_append_drop k X, ← List.take_append_drop m Y]
      simp only [List.append_assoc]) (by simp; omega) p1.length_eq.symm
    rw [this]
    simp only [List.append_assoc]
  have zx : ((arrOf st).extract (P.length + k) (P.length + X.length)).size = X.length - k := by rw [Array.size_extract]; omega
  have zy : ((arrOf st).extract (P.length + X.length) (P.length + X.length + m)).size = m := by rw [Array.size_extract]; omega
  have hqx : ∀ p ∈ (arrOf st).extract (P.length + k) (P.length + X.length), IntP p := fun p hp => hqX p (List.drop_subset k _ (by rw [← ex]; exact Array.mem_toList_iff.mpr hp))
  have hqy : ∀ p ∈ (arrOf st).extract (P.length + X.length) (P.length + X.length + m), IntP p := fun p hp => hqY p (List.take_subset m _ (by rw [← ey]; exact Array.mem_toList_iff.mpr hp))
  have gx' : Gr ((arrOf st).extract (P.length + k) (P.length + X.length)).toList := by rw [ex]; exact gx.sublist (List.drop_sublist _ _)
  have gy' : Gr ((arrOf st).extract (P.length + X.length) (P.length + X.length + m)).toList := by rw [ey]; exact gy.sublist (List.take_sublist _ _)
  have f0 : ∀ y ∈ X.drop k, kq Y[0] ≤ kq y := fun y hy' => Int.le_of_lt (beyond_ff (c2 y hy'))
  have f1 : ∀ x ∈ Y.take m, kq x ≤ kq X[X.length - 1] := fun x hx' => Int.le_of_lt (beyond_tt (c3 x hx'))
  refine wpS_ite (fun _ => ?_) (fun _ => ?_)
  · refine wpS_bind (wpS_mergeLo (a := (arrOf st).extract (P.length + k) (P.length + X.length)) (b := (arrOf st).extract (P.length + X.length) (P.length + X.length + m)) hk hqx hqy gx' gy' (by omega) (by omega) ?_ ?_ fun r g hm' => ?_)
    · intro y hy'
      rw [ex] at hy'
      rw [arrGet ey (by omega) (by simp; omega), List.getElem_take]
      exact f0 y hy'
    · intro x hx' y hy'
      rw [ey] at hx'
      rw [ex, zx, List.drop_drop] at hy'
      obtain ⟨j, hj, rfl⟩ := List.mem_iff_getElem.mp hy'
      have hj' : j < X.length - (k + (X.length - k - 1)) := by simpa using hj
      rw [List.getElem_drop]
      have ej : k + (X.length - k - 1) + j = X.length - 1 := by omega
      simp only [ej]
      exact f1 x hx'
    · refine wpS_bind (wpS_modify (wpS_bind (wpS_get (wpS_pure ?_))))
      have := fin r g _ rfl hm'
      show Q (failedOf st).isNone (mergedSt st _ _ g)
      rw [hfl]
      exact this
  · refine wpS_bind (wpS_mergeHi (a := (arrOf st).extract (P.length + k) (P.length + X.length)) (b := (arrOf st).extract (P.length + X.length) (P.length + X.length + m)) hk hqx hqy gx' gy' (by omega) (by omega) ?_ ?_ fun r g hm' => ?_)
    · intro x hx' y hy'
      rw [ey, List.take_take] at hx'
      rw [ex] at hy'
      obtain ⟨j, hj, rfl⟩ := List.mem_iff_getElem.mp hx'
      have hj' : j = 0 := by
        rw [List.length_take] at hj
        omega
      subst hj'
      rw [List.getElem_take]
      exact f0 y hy'
    · intro x hx'
      rw [ey] at hx'
      rw [arrGet ex (by omega) (by simp; omega), List.getElem_drop]
      simp only [zx, show k + (X.length - k - 1) = X.length - 1 by omega]
      exact f1 x hx'
    · refine wpS_bind (wpS_modify (wpS_bind (wpS_get (wpS_pure ?_))))
      have := fin r g _ rfl hm'
      show Q (failedOf st).isNone (mergedSt st _ _ g)
      rw [hfl]
      exact this
end
end Mine
end

section
open PySem PySem.W PySem.Calls PySem.Spec PyProof.Rows
set_option maxRecDepth 100000
namespace Mine
/-- the items from lo on, n of them, grow -/
def Up (xs : Array Keyed) (lo n : Nat) : Prop := ∀ i j, i ≤ j → j < n → K xs (lo + i) ≤ K xs (lo + j)
/-- they fall, or stay -/
def Dn (xs : Array Keyed) (lo n : Nat) : Prop := ∀ i j, i ≤ j → j < n → K xs (lo + j) ≤ K xs (lo + i)
/-- the same items, those ahead of lo untouched -/
def Keep (lo : Nat) (ys xs : Array Keyed) : Prop := xs.Perm ys ∧ ∀ k, k < lo → xs[k]? = ys[k]?
theorem Keep.refl {lo : Nat} {ys : Array Keyed} : Keep lo ys ys := ⟨Array.Perm.refl _, fun _ _ => rfl⟩
theorem Keep.trans {lo : Nat} {ys xs zs : Array Keyed} (h : Keep lo ys xs) (h' : Keep lo xs zs) : Keep lo ys zs := ⟨h'.1.trans h.1, fun k hk => (h'.2 k hk).trans (h.2 k hk)⟩
theorem Keep.size {lo : Nat} {ys xs : Array Keyed} (h : Keep lo ys xs) : xs.size = ys.size := h.1.size_eq
theorem Keep.ints {lo : Nat} {ys xs : Array Keyed} (h : Keep lo ys xs) (hq : ∀ p ∈ ys, IntP p) : ∀ p ∈ xs, IntP p := fun p hp => hq p (h.1.mem_iff.mp hp)
theorem keep_mirror {lo i j : Nat} {xs : Array Keyed} (hi : lo ≤ i) (hj : j ≤ xs.size) : Keep lo xs (mirror xs i j ((j - i) / 2)) :=
  ⟨mirror_perm _ _ _ _, fun k hk => by rw [getElem?_mirror_all hj, if_neg (by omega)]⟩
theorem keep_bubble {lo src d : Nat} {xs : Array Keyed} (hs : src < xs.size) (hd : lo + d ≤ src) : Keep lo xs (bubble xs src d) :=
  ⟨bubble_perm _ _ _, fun k hk => by rw [getElem?_bubble hs d (by omega), if_neg (by omega), if_neg (by omega)]⟩
theorem Up.snoc {xs : Array Keyed} {lo n : Nat} (h : Up xs lo n) (hl : 0 < n → K xs (lo + (n - 1)) ≤ K xs (lo + n)) : Up xs lo (n + 1) := by
  intro i j hij hj
  rcases Nat.lt_or_ge j n with h' | h'
  · exact h i j hij h'
  · have : j = n := by omega
    subst this
    rcases Nat.lt_or_ge i j with h'' | h''
    · exact Int.le_trans (h i (j - 1) (by omega) (by omega)) (hl (by omega))
    · have : i = j := by omega
      subst this; exact Int.le_refl _
theorem Dn.snoc {xs : Array Keyed} {lo n : Nat} (h : Dn xs lo n) (hl : 0 < n → K xs (lo + n) ≤ K xs (lo + (n - 1))) : Dn xs lo (n + 1) := by
  intro i j hij hj
  rcases Nat.lt_or_ge j n with h' | h'
  · exact h i j hij h'
  · have : j = n := by omega
    subst this
    rcases Nat.lt_or_ge i j with h'' | h''
    · exact Int.le_trans (hl (by omega)) (h i (j - 1) (by omega) (by omega))
    · have : i = j := by omega
      subst this; exact Int.le_refl _
theorem Up.le1 {xs : Array Keyed} {lo n : Nat} (h : n ≤ 1) : Up xs lo n := fun i j hij hj => by
  have : i = j := by omega
  subst this; exact Int.le_refl _
theorem Dn.le1 {xs : Array Keyed} {lo n : Nat} (h : n ≤ 1) : Dn xs lo n := fun i j hij hj => by
  have : i = j := by omega
  subst this; exact Int.le_refl _
/-- turned round, what fell grows -/
theorem Dn.turn {xs : Array Keyed} {lo n : Nat} (h : Dn xs lo n) (hs : lo + n ≤ xs.size) : Up (mirror xs lo (lo + n) ((lo + n - lo) / 2)) lo n := by
  intro i j hij hj
  rw [K_mirror hs, K_mirror hs, if_pos (by omega), if_pos (by omega)]
  rw [show lo + (lo + n) - 1 - (lo + i) = lo + (n - 1 - i) by omega, show lo + (lo + n) - 1 - (lo + j) = lo + (n - 1 - j) by omega]
  exact h _ _ (by omega) (by omega)
section
variable {prog : Program} {w : World} {A : Around} {E : Value → Shared → Prop} {s : Shared}
theorem wpS_cmp {st : SortSt} {i j : Nat} {Q : Option Bool → SortSt → Prop} (hk : kindOf st = oneType') (hq : ∀ p ∈ arrOf st, IntP p) (hi : i < (arrOf st).size) (hj : j < (arrOf st).size)
    (h : Q (some (decide (K (arrOf st) i < K (arrOf st) j))) st) : wpS (model prog w) A E s (ltAt' i j) Q st := by
  obtain ⟨a, t, ea⟩ := hq _ (Array.getElem_mem hi)
  obtain ⟨b, u, eb⟩ := hq _ (Array.getElem_mem hj)
  have e1 : (arrOf st)[i]? = some (.int a t, (arrOf st)[i].2) := (getElem?_pos _ i hi).trans (congrArg some (Prod.ext ea rfl))
  have e2 : (arrOf st)[j]? = some (.int b u, (arrOf st)[j].2) := (getElem?_pos _ j hj).trans (congrArg some (Prod.ext eb rfl))
  refine wpS_ltAt hk e1 e2 ?_
  unfold K at h
  rw [e1, e2] at h
  exact h
theorem wpS_insert {st : SortSt} {lo n ok : Nat} {Q : Bool → SortSt → Prop} (hk : kindOf st = oneType') (hq : ∀ p ∈ arrOf st, IntP p) (hn : lo + n ≤ (arrOf st).size) (hok : ok ≤ n)
    (hs : Up (arrOf st) lo ok) (h : ∀ xs, Keep lo (arrOf st) xs → Up xs lo n → Q true (setArr st xs)) : wpS (model prog w) A E s (binarySort' lo n ok) Q st := by
  rw [binarySort'_eq]
  refine wpS_bind (wpS_mono (wpS_forRange (I := fun k c st' => c = (none, ()) ∧ ∃ xs, st' = setArr st xs ∧ Keep lo (arrOf st) xs ∧ Up xs lo (min k n))
    (Q := fun c st' => c = (none, ()) ∧ ∃ xs, st' = setArr st xs ∧ Keep lo (arrOf st) xs ∧ Up xs lo n) ?step ?fin ?init) ?post)
  case post =>
    rintro c st' ⟨rfl, xs, rfl, hk', hu⟩
    exact wpS_pure (h xs hk' hu)
  case init =>
    refine ⟨rfl, arrOf st, rfl, .refl, ?_⟩
    rcases Nat.eq_zero_or_pos ok with h0 | h0
    · exact .le1 (by omega)
    · rw [show min (max ok 1) n = ok by omega]
      exact hs
  case fin =>
    rintro c st' ⟨rfl, xs, rfl, hk', hu⟩
    rw [show min (max (max ok 1) n) n = n by omega] at hu
    exact ⟨rfl, xs, rfl, hk', hu⟩
  case step =>
    rintro k c st' hk1 hkn ⟨rfl, xs, rfl, hk', hu⟩
    have hz : xs.size = (arrOf st).size := hk'.size
    have hq' := hk'.ints hq
    rw [show min k n = k by omega] at hu
    dsimp only
    refine wpS_bind (wpS_mono (wpS_forRange (I := fun x c st' => st' = setArr st xs ∧ ∃ l r, c = (none, l, r) ∧ l ≤ r ∧ r ≤ k ∧ r - l ≤ k - x ∧
        (∀ i, i < l → K xs (lo + i) ≤ K xs (lo + k)) ∧ (∀ i, r ≤ i → i < k → K xs (lo + k) ≤ K xs (lo + i)))
      (Q := fun c st' => st' = setArr st xs ∧ ∃ l r, c = (none, l, r) ∧ l ≤ k ∧ (∀ i, i < l → K xs (lo + i) ≤ K xs (lo + k)) ∧ (∀ i, l ≤ i → i < k → K xs (lo + k) ≤ K xs (lo + i)))
      ?istep ?ifin ⟨rfl, 0, k, rfl, Nat.zero_le _, Nat.le_refl _, Nat.le_refl _, fun i hi => by omega, fun i h1 h2 => by omega⟩) ?ipost)
    case ifin =>
      rintro c st' ⟨rfl, l, r, rfl, g1, g2, g3, g4, g5⟩
      exact ⟨rfl, l, r, rfl, by omega, g4, fun i h1 h2 => g5 i (by omega) h2⟩
    case istep =>
      rintro x c st' _ hx ⟨rfl, l, r, rfl, g1, g2, g3, g4, g5⟩
      dsimp only
      refine wpS_ite (fun e => wpS_pure ⟨rfl, l, r, rfl, by omega, g4, fun i h1 h2 => g5 i (by omega) h2⟩) (fun e => ?_)
      refine wpS_bind (wpS_cmp (st := setArr st xs) hk hq' (show lo + k < xs.size by omega) (show lo + (l + r) / 2 < xs.size by omega) ?_)
      show wpS _ _ _ _ _ _ _
      dsimp only
      by_cases hl : K xs (lo + k) < K xs (lo + (l + r) / 2)
      · rw [if_pos (by simpa using hl)]
        exact wpS_pure ⟨rfl, l, (l + r) / 2, rfl, by omega, by omega, by omega, g4, fun i h1 h2 => Int.le_trans (Int.le_of_lt hl) (hu _ _ h1 h2)⟩
      · rw [if_neg (by simpa using hl)]
        exact wpS_pure ⟨rfl, (l + r) / 2 + 1, r, rfl, by omega, by omega, by omega, fun i hi => Int.le_trans (hu i ((l + r) / 2) (by omega) (by omega)) (Int.not_lt.mp hl), g5⟩
    case ipost =>
      rintro c st' ⟨rfl, l, r, rfl, g1, g4, g5⟩
      dsimp only
      rw [moveDown'_eq]
      refine wpS_bind (wpS_modify (wpS_pure ⟨rfl, bubble xs (lo + k) (lo + k - (lo + l)), rfl, hk'.trans (keep_bubble (by omega) (by omega)), ?_⟩))
      rw [show min (k + 1) n = k + 1 by omega]
      intro i j hij hj
      rw [K_bubble (by omega) (by omega), K_bubble (by omega) (by omega)]
      rw [show lo + k - (lo + k - (lo + l)) = lo + l by omega]
      by_cases c1 : i = l <;> by_cases c2 : j = l
      · subst c1; subst c2; exact Int.le_refl _
      · subst c1
        rw [if_pos rfl, if_neg (by omega), if_pos (by omega), show lo + j - 1 = lo + (j - 1) by omega]
        exact g5 _ (by omega) (by omega)
      · subst c2
        rw [if_neg (by omega), if_neg (by omega), if_pos rfl]
        exact g4 _ (by omega)
      · rw [if_neg (by omega), if_neg (show ¬ lo + j = lo + l by omega)]
        by_cases c3 : l < i
        · rw [if_pos (by omega), if_pos (by omega), show lo + i - 1 = lo + (i - 1) by omega, show lo + j - 1 = lo + (j - 1) by omega]
          exact hu _ _ (by omega) (by omega)
        · rw [if_neg (by omega)]
          by_cases c4 : l < j
          · rw [if_pos (by omega), show lo + j - 1 = lo + (j - 1) by omega]
            exact hu _ _ (by omega) (by omega)
          · rw [if_neg (by omega)]
            exact hu _ _ (by omega) (by omega)
end
end Mine
end

section
open PySem PySem.W PySem.Calls PySem.Spec PyProof.Rows
set_option maxRecDepth 100000
namespace Mine
section
variable {prog : Program} {w : World} {A : Around} {E : Value → Shared → Prop} {s : Shared}
theorem wpS_asc {st : SortSt} {xs : Array Keyed} {lo a nrem : Nat} {f : Nat → Option (Option Nat) × Nat → StateT SortSt Sem (ForInStep (Option (Option Nat) × Nat))} {Q : Option (Option Nat) × Nat → SortSt → Prop}
    (ha : 1 ≤ a) (han : a ≤ nrem) (hu : Up xs lo a)
    (hf : ∀ x (Q' : ForInStep (Option (Option Nat) × Nat) → SortSt → Prop), 1 ≤ x → x < nrem → (K xs (lo + x) < K xs (lo + x - 1) → Q' (.done (none, x)) st) →
      (¬ K xs (lo + x) < K xs (lo + x - 1) → Q' (.yield (none, x + 1)) st) → wpS (model prog w) A E s (f x (none, x)) Q' st)
    (h : ∀ n, a ≤ n → n ≤ nrem → Up xs lo n → (n = nrem ∨ K xs (lo + n) < K xs (lo + n - 1)) → Q (none, n) st) :
    wpS (model prog w) A E s (forIn [a:nrem] ((none, a) : Option (Option Nat) × Nat) f) Q st := by
  refine wpS_forRange (I := fun x c st' => st' = st ∧ c = (none, x) ∧ Up xs lo x) ?step ?fin ⟨rfl, rfl, hu⟩
  case fin =>
    rintro c st' ⟨rfl, rfl, hu'⟩
    rw [show max a nrem = nrem by omega] at hu' ⊢
    exact h nrem han (Nat.le_refl _) hu' (.inl rfl)
  case step =>
    rintro x c st' hax hx ⟨rfl, rfl, hu'⟩
    refine hf x _ (by omega) hx (fun hl => ?_) (fun hl => ?_)
    · exact h x hax (by omega) hu' (.inr hl)
    · exact ⟨rfl, rfl, hu'.snoc fun _ => by rw [show lo + (x - 1) = lo + x - 1 by omega]; exact Int.not_lt.mp hl⟩
theorem wpS_run {st : SortSt} {lo nrem : Nat} {Q : Option Nat → SortSt → Prop} (hk : kindOf st = oneType') (hq : ∀ p ∈ arrOf st, IntP p) (hn : lo + nrem ≤ (arrOf st).size) (h1 : 1 ≤ nrem)
    (h : ∀ n xs, 1 ≤ n → n ≤ nrem → Keep lo (arrOf st) xs → Up xs lo n → Q (some n) (setArr st xs)) : wpS (model prog w) A E s (countRun' lo nrem) Q st := by
  have hst : setArr st (arrOf st) = st := rfl
  rw [countRun'_eq]
  dsimp only
  refine wpS_bind (wpS_asc (xs := arrOf st) (lo := lo) (Nat.le_refl 1) h1 (.le1 (Nat.le_refl 1)) (fun x Q' hx0 hx q1 q2 => ?hf) (fun n hn1 hn2 hu hor => ?_))
  case hf =>
    refine wpS_bind (wpS_cmp hk hq (by omega) (by omega) ?_)
    dsimp only
    by_cases hl : K (arrOf st) (lo + x) < K (arrOf st) (lo + x - 1)
    · rw [if_pos (by simpa using hl)]; exact wpS_pure (q1 hl)
    · rw [if_neg (by simpa using hl)]; exact wpS_pure (q2 hl)
  dsimp only
  refine wpS_ite (fun e => wpS_pure (hst ▸ h n _ hn1 hn2 .refl hu)) (fun e => ?_)
  have hnn : n < nrem := ltOf e hn2
  have hlt : K (arrOf st) (lo + n) < K (arrOf st) (lo + n - 1) := hor.resolve_left (by omega)
  refine wpS_ite (fun hg => ?_) (fun hg => ?_)
  all_goals
    first
    | (have hn1' : n = 1 := by omega
       have hD : Dn (arrOf st) lo (n + 1) := (Dn.le1 (by omega)).snoc fun _ => by rw [show lo + (n - 1) = lo + n - 1 by omega]; exact Int.le_of_lt hlt
       obtain ⟨xs, hK, hD', hxs⟩ : ∃ xs, Keep lo (arrOf st) xs ∧ Dn xs lo (n + 1) ∧ st = setArr st xs := ⟨arrOf st, .refl, hD, rfl⟩
       rw [hxs])
    | (refine wpS_bind (wpS_cmp hk hq (by omega) (by omega) ?_)
       dsimp only
       refine wpS_ite (fun e => wpS_pure (hst ▸ h n _ hn1 hn2 .refl hu)) (fun e => ?_)
       have heq : ∀ k, lo ≤ k → k < lo + n → K (arrOf st) k = K (arrOf st) (lo + n - 1) := by
         intro k k1 k2
         have a1 := hu 0 (k - lo) (by omega) (by omega)
         have a2 := hu (k - lo) (n - 1) (by omega) (by omega)
         rw [show lo + (k - lo) = k by omega] at a1 a2
         rw [show lo + (n - 1) = lo + n - 1 by omega] at a2
         have a3 : ¬ K (arrOf st) lo < K (arrOf st) (lo + n - 1) := by simpa using e
         rw [Nat.add_zero] at a1
         omega
       have hD : Dn (mirror (arrOf st) lo (lo + n) ((lo + n - lo) / 2)) lo (n + 1) := by
         intro i j hij hj
         rw [K_mirror_equal (by omega) heq, K_mirror_equal (by omega) heq]
         rcases Nat.lt_or_ge j n with h' | h'
         · rw [heq _ (by omega) (by omega), heq (lo + i) (by omega) (by omega)]; exact Int.le_refl _
         · have : j = n := by omega
           subst this
           rcases Nat.lt_or_ge i j with h'' | h''
           · rw [heq (lo + i) (by omega) (by omega)]; exact Int.le_of_lt hlt
           · have : i = j := by omega
             subst this; exact Int.le_refl _
       refine wpS_bind (wpS_reverse ?_)
       obtain ⟨xs, hK, hD', hxs⟩ : ∃ xs, Keep lo (arrOf st) xs ∧ Dn xs lo (n + 1) ∧ mirror (arrOf st) lo (lo + n) ((lo + n - lo) / 2) = xs := ⟨_, keep_mirror (Nat.le_refl _) (by omega), hD, rfl⟩
       rw [hxs])
    refine wpS_bind (wpS_rule ?_)
    refine wpS_bind (wpS_mono (wpS_forRange
      (I := fun x c st' => ∃ neq ys, c = (none, x, neq) ∧ st' = setArr st ys ∧ Keep lo (arrOf st) ys ∧ Dn ys lo x ∧ neq + 1 ≤ x ∧ (∀ k, lo + x - (neq + 1) ≤ k → k < lo + x → K ys k = K ys (lo + x - 1)))
      (Q := fun c st' => ∃ m neq ys, c = (none, m, neq) ∧ st' = setArr st ys ∧ Keep lo (arrOf st) ys ∧ Dn ys lo m ∧ neq + 1 ≤ m ∧ m ≤ nrem ∧ (∀ k, lo + m - (neq + 1) ≤ k → k < lo + m → K ys k = K ys (lo + m - 1)))
      ?_ ?_ ⟨0, xs, rfl, rfl, hK, hD', by omega, fun k k1 k2 => by rw [show k = lo + (n + 1) - 1 by omega]⟩) ?_)
    · rintro x c st' hax hx ⟨neq, ys, rfl, rfl, hY, hd, hneq, hr⟩
      have zy := hY.size
      have qy := hY.ints hq
      dsimp only
      refine wpS_bind (wpS_cmp (st := setArr st ys) hk qy (show lo + x < ys.size by omega) (show lo + x - 1 < ys.size by omega) ?_)
      dsimp only
      refine wpS_ite (fun e1 => ?_) (fun e1 => ?_)
      · have hless : K ys (lo + x) < K ys (lo + x - 1) := by simpa using e1
        have up : ∀ zs : Array Keyed, (∀ k, K zs k = K ys k) → Dn zs lo (x + 1) := by
          intro zs hz
          have hd' : Dn zs lo x := fun i j hij hj => by rw [hz, hz]; exact hd i j hij hj
          exact hd'.snoc fun _ => by rw [hz, hz, show lo + (x - 1) = lo + x - 1 by omega]; exact Int.le_of_lt hless
        refine wpS_ite (fun e2 => ?_) (fun e2 => ?_)
        · refine wpS_bind (wpS_reverse (wpS_pure ⟨0, _, rfl, rfl, hY.trans (keep_mirror (by omega) (show lo + x ≤ ys.size by omega)), up _ (K_mirror_equal (show lo + x ≤ ys.size by omega) hr), by omega, fun k k1 k2 => by rw [show k = lo + (x + 1) - 1 by omega]⟩))
        · exact wpS_pure ⟨0, ys, rfl, rfl, hY, up ys (fun _ => rfl), by omega, fun k k1 k2 => by rw [show k = lo + (x + 1) - 1 by omega]⟩
      · have hless : ¬ K ys (lo + x) < K ys (lo + x - 1) := by simpa using e1
        refine wpS_bind (wpS_cmp (st := setArr st ys) hk qy (show lo + x - 1 < ys.size by omega) (show lo + x < ys.size by omega) ?_)
        dsimp only
        refine wpS_ite (fun e2 => ?_) (fun e2 => ?_)
        · exact wpS_pure ⟨x, neq, ys, rfl, rfl, hY, hd, hneq, by omega, hr⟩
        · have hmore : ¬ K ys (lo + x - 1) < K ys (lo + x) := by simpa using e2
          have he : K ys (lo + x) = K ys (lo + x - 1) := by omega
          refine wpS_pure ⟨neq + 1, ys, rfl, rfl, hY, hd.snoc fun _ => by rw [show lo + (x - 1) = lo + x - 1 by omega]; omega, by omega, fun k k1 k2 => ?_⟩
          rw [show lo + (x + 1) - 1 = lo + x by omega, he]
          rcases Nat.lt_or_ge k (lo + x) with h' | h'
          · exact hr k (by omega) h'
          · rw [show k = lo + x by omega]; exact he
    · rintro c st' ⟨neq, ys, rfl, rfl, hY, hd, hneq, hr⟩
      have em : max (n + 1) nrem = nrem := by omega
      rw [em] at hd hneq hr ⊢
      exact ⟨nrem, neq, ys, rfl, rfl, hY, hd, hneq, Nat.le_refl _, hr⟩
    · rintro c st' ⟨m, neq, ys, rfl, rfl, hY, hd, hneq, hm, hr⟩
      have zy := hY.size
      dsimp only
      refine wpS_ite (fun e1 => ?_) (fun e1 => ?_)
      all_goals
        first
        | (have e2 : neq = 0 := by omega
           obtain ⟨zs, hzY, hzd, hz⟩ : ∃ zs, Keep lo (arrOf st) zs ∧ Dn zs lo m ∧ ys = zs := ⟨ys, hY, hd, rfl⟩
           rw [hz])
        | (refine wpS_bind (wpS_reverse ?_)
           obtain ⟨zs, hzY, hzd, hz⟩ : ∃ zs, Keep lo (arrOf st) zs ∧ Dn zs lo m ∧ mirror ys (lo + m - (neq + 1)) (lo + m) ((lo + m - (lo + m - (neq + 1))) / 2) = zs :=
             ⟨_, hY.trans (keep_mirror (by omega) (by omega)), fun i j hij hj => by rw [K_mirror_equal (by omega) hr, K_mirror_equal (by omega) hr]; exact hd i j hij hj, rfl⟩
           show wpS _ _ _ _ _ _ (setArr st (mirror ys (lo + m - (neq + 1)) (lo + m) ((lo + m - (lo + m - (neq + 1))) / 2)))
           rw [hz])
        have zz := hzY.size
        refine wpS_bind (wpS_reverse ?_)
        obtain ⟨vs, hvY, hvu, hv⟩ : ∃ vs, Keep lo (arrOf st) vs ∧ Up vs lo m ∧ setArr st (mirror zs lo (lo + m) ((lo + m - lo) / 2)) = setArr st vs :=
          ⟨_, hzY.trans (keep_mirror (Nat.le_refl _) (by omega)), hzd.turn (by omega), rfl⟩
        show wpS _ _ _ _ _ _ (setArr st (mirror zs lo (lo + m) ((lo + m - lo) / 2)))
        rw [hv]
        have zv := hvY.size
        have qv := hvY.ints hq
        refine wpS_bind (wpS_asc (xs := vs) (lo := lo) (by omega) hm hvu (fun x Q' hx0 hx q1 q2 => ?_) (fun n' hn1 hn2 hu' _ => ?_))
        · refine wpS_bind (wpS_cmp (st := setArr st vs) hk qv (show lo + x < vs.size by omega) (show lo + x - 1 < vs.size by omega) ?_)
          dsimp only
          refine wpS_ite (fun e => wpS_pure (q1 (by simpa using e))) (fun e => wpS_pure (q2 (by simpa using e)))
        · exact wpS_pure (h n' vs (by omega) hn2 hvY hu')
end
end Mine
end

section
open PySem PySem.W PySem.Calls PySem.Spec PyProof.Rows
set_option maxRecDepth 100000
namespace Mine
/-- the pending runs are these growing lists, one behind the other from s on -/
def Spans : Nat → List (Nat × Nat × Nat) → List (List Keyed) → Prop
  | _, [], [] => True
  | s, t :: ps, G :: Gs => t.1 = s ∧ t.2.1 = G.length ∧ 0 < G.length ∧ Gr G ∧ Spans (s + G.length) ps Gs
  | _, _, _ => False
theorem Spans.len : ∀ {s : Nat} {ps : List (Nat × Nat × Nat)} {Gs : List (List Keyed)}, Spans s ps Gs → ps.length = Gs.length
  | _, [], [], _ => rfl
  | _, t :: ps, G :: Gs, h => by simp [h.2.2.2.2.len]
  | _, [], G :: Gs, h => h.elim
  | _, t :: ps, [], h => h.elim
theorem Spans.le : ∀ {s : Nat} {ps : List (Nat × Nat × Nat)} {Gs : List (List Keyed)}, Spans s ps Gs → ps.length ≤ Gs.flatten.length
  | _, [], [], _ => Nat.zero_le _
  | _, t :: ps, G :: Gs, h => by
    have := h.2.2.2.2.le
    have := h.2.2.1
    simp only [List.length_cons, List.flatten_cons, List.length_append]; omega
  | _, [], G :: Gs, h => h.elim
  | _, t :: ps, [], h => h.elim
theorem Spans.cut : ∀ {s : Nat} {ps qs : List (Nat × Nat × Nat)} {Gs : List (List Keyed)}, Spans s (ps ++ qs) Gs → ∃ G1 G2, Gs = G1 ++ G2 ∧ Spans s ps G1 ∧ Spans (s + G1.flatten.length) qs G2
  | s, [], qs, Gs, h => ⟨[], Gs, rfl, trivial, h⟩
  | s, t :: ps, qs, [], h => h.elim
  | s, t :: ps, qs, G :: Gs, h => by
    obtain ⟨h1, h2, h3, h4, h5⟩ := h
    obtain ⟨G1, G2, rfl, e1, e2⟩ := Spans.cut h5
    refine ⟨G :: G1, G2, rfl, ⟨h1, h2, h3, h4, e1⟩, ?_⟩
    rw [List.flatten_cons, List.length_append, ← Nat.add_assoc]
    exact e2
theorem Spans.join : ∀ {s : Nat} {ps qs : List (Nat × Nat × Nat)} {G1 G2 : List (List Keyed)}, Spans s ps G1 → Spans (s + G1.flatten.length) qs G2 → Spans s (ps ++ qs) (G1 ++ G2)
  | s, [], qs, [], G2, _, h => by simpa using h
  | s, [], qs, G :: G1, G2, h, _ => h.elim
  | s, t :: ps, qs, [], G2, h, _ => h.elim
  | s, t :: ps, qs, G :: G1, G2, h, h' => by
    obtain ⟨h1, h2, h3, h4, h5⟩ := h
    refine ⟨h1, h2, h3, h4, Spans.join h5 ?_⟩
    rw [List.flatten_cons, List.length_append, ← Nat.add_assoc] at h'
    exact h'
theorem Spans.same : ∀ {s : Nat} {ps qs : List (Nat × Nat × Nat)} {Gs : List (List Keyed)}, Spans s ps Gs → ps.map (fun t => (t.1, t.2.1)) = qs.map (fun t => (t.1, t.2.1)) → Spans s qs Gs
  | s, [], [], [], h, _ => h
  | s, [], _ :: _, _, _, e => by simp at e
  | s, _ :: _, [], _, _, e => by simp at e
  | s, [], [], G :: Gs, h, _ => h
  | s, t :: ps, u :: qs, [], h, _ => h
  | s, t :: ps, u :: qs, G :: Gs, h, e => by
    simp only [List.map_cons, List.cons.injEq, Prod.mk.injEq] at e
    obtain ⟨⟨e1, e2⟩, e3⟩ := e
    obtain ⟨h1, h2, h3, h4, h5⟩ := h
    exact ⟨e1 ▸ h1, e2 ▸ h2, h3, h4, h5.same e3⟩
theorem setDrop {α : Type} (x y v : α) (qs : List α) : ∀ ps : List α, ((ps ++ x :: y :: qs).set ps.length v).eraseIdx (ps.length + 1) = ps ++ v :: qs
  | [] => rfl
  | p :: ps => by
    have := setDrop x y v qs ps
    simpa using this
structure SI (a₀ : Array Keyed) (R : List Keyed) (st : SortSt) : Prop where
  perm : (arrOf st).Perm a₀
  kind : kindOf st = oneType'
  failed : failedOf st = none
  runs : ∃ Gs, (arrOf st).toList = Gs.flatten ++ R ∧ Spans 0 (pendingOf st).toList Gs
theorem SI.ints {a₀ : Array Keyed} {R : List Keyed} {st : SortSt} (h : SI a₀ R st) (h0 : ∀ p ∈ a₀, IntP p) : ∀ p ∈ arrOf st, IntP p := fun p hp => h0 p (h.perm.mem_iff.mp hp)
theorem SI.fits {a₀ : Array Keyed} {R : List Keyed} {st : SortSt} (h : SI a₀ R st) : (pendingOf st).size + R.length ≤ a₀.size := by
  obtain ⟨Gs, h1, h2⟩ := h.runs
  have e := congrArg List.length h1
  rw [Array.length_toList, h.perm.size_eq, List.length_append] at e
  have := h2.le
  rw [Array.length_toList] at this
  omega
section
variable {prog : Program} {w : World} {A : Around} {E : Value → Shared → Prop} {s : Shared}
theorem wpS_mergeSI {a₀ : Array Keyed} {R : List Keyed} {st : SortSt} {i : Nat} {Q : Bool → SortSt → Prop} (h0 : ∀ p ∈ a₀, IntP p) (hS : SI a₀ R st) (hi : i + 1 < (pendingOf st).size)
    (h : ∀ st', SI a₀ R st' → (pendingOf st').size + 1 = (pendingOf st).size → Q true st') : wpS (model prog w) A E s (mergeAt' i) Q st := by
  obtain ⟨Gs, ha, hr⟩ := hS.runs
  obtain ⟨ps, x, y, qs, hp, hl⟩ : ∃ ps x y qs, (pendingOf st).toList = ps ++ x :: y :: qs ∧ ps.length = i := by
    refine ⟨(pendingOf st).toList.take i, (pendingOf st).toList[i]'(by simp; omega), (pendingOf st).toList[i + 1]'(by simp; omega), (pendingOf st).toList.drop (i + 1 + 1), ?_, by simp; omega⟩
    conv => lhs; rw [← List.take_append_drop i (pendingOf st).toList]
    rw [List.drop_eq_getElem_cons (by simp; omega), List.drop_eq_getElem_cons (by simp; omega)]
  subst hl
  rw [hp] at hr
  obtain ⟨G1, G2, rfl, r1, r2⟩ := hr.cut
  obtain ⟨x1, x2, x3⟩ := x
  obtain ⟨y1, y2, y3⟩ := y
  match G2, r2 with
  | X :: Y :: G3, r2 =>
    obtain ⟨p1, p2, p3, p4, q1, q2, q3, q4, r3⟩ := r2
    dsimp only at p1 p2 q1 q2
    have e1 : (pendingOf st)[ps.length]? = some (G1.flatten.length, X.length, x3) := by
      rw [← Array.getElem?_toList, hp, List.getElem?_append_right (Nat.le_refl _)]
      simp [p1, p2]
    have e2 : (pendingOf st)[ps.length + 1]? = some (G1.flatten.length + X.length, Y.length, y3) := by
      rw [← Array.getElem?_toList, hp, List.getElem?_append_right (by omega)]
      simp [q1, q2]
    have hA : (arrOf st).toList = G1.flatten ++ (X ++ (Y ++ (G3.flatten ++ R))) := by rw [ha]; simp
    refine wpS_mergeAt hS.kind hS.failed (hS.ints h0) hA p4 q4 p3 q3 e1 e2 fun xs g M hx hM hg => ?_
    have hlen : M.length = X.length + Y.length := by rw [hM.length_eq, List.length_append]
    have hpd : (((pendingOf st).setIfInBounds ps.length (G1.flatten.length, X.length + Y.length, x3)).eraseIdxIfInBounds (ps.length + 1)).toList = ps ++ (G1.flatten.length, X.length + Y.length, x3) :: qs := by
      rw [Array.toList_eraseIdxIfInBounds, Array.toList_setIfInBounds, hp, setDrop]
    refine h _ ⟨?_, hS.kind, hS.failed, G1 ++ M :: G3, ?_, ?_⟩ ?_
    · refine Array.Perm.trans ?_ hS.perm
      rw [Array.perm_iff_toList_perm]
      show xs.toList.Perm (arrOf st).toList
      rw [hx, hA]
      refine List.Perm.append_left _ ?_
      rw [← List.append_assoc X]
      exact List.Perm.append_right _ hM
    · show xs.toList = _
      rw [hx]; simp
    · show Spans 0 (((pendingOf st).setIfInBounds ps.length (G1.flatten.length, X.length + Y.length, x3)).eraseIdxIfInBounds (ps.length + 1)).toList _
      rw [hpd]
      refine r1.join ⟨by simp, hlen.symm, by omega, hg, ?_⟩
      rw [hlen, ← Nat.add_assoc]
      exact r3
    · show (((pendingOf st).setIfInBounds ps.length (G1.flatten.length, X.length + Y.length, x3)).eraseIdxIfInBounds (ps.length + 1)).size + 1 = _
      rw [← Array.length_toList, hpd, ← Array.length_toList, hp]
      simp only [List.length_append, List.length_cons]; omega
  | [X], r2 => exact r2.2.2.2.2.elim
  | [], r2 => exact r2.elim
end
end Mine
end

section
open PySem PySem.W PySem.Calls PySem.Spec PyProof.Rows
set_option maxRecDepth 100000
namespace Mine
theorem SI.run {a₀ : Array Keyed} {R : List Keyed} {st : SortSt} {lo m : Nat} {zs : Array Keyed} (h : SI a₀ R st) (hlo : lo + R.length = a₀.size) (hK : Keep lo (arrOf st) zs) (hU : Up zs lo m) (hm : m ≤ R.length) :
    ∃ G R', G.length = m ∧ Gr G ∧ SI a₀ (G ++ R') (setArr st zs) ∧ m + R'.length = R.length := by
  obtain ⟨Gs, ha, hr⟩ := h.runs
  have hz : zs.size = a₀.size := hK.size.trans h.perm.size_eq
  have hl : Gs.flatten.length = lo := by
    have e := congrArg List.length ha
    rw [Array.length_toList, h.perm.size_eq, List.length_append] at e
    omega
  have ht : zs.toList.take lo = Gs.flatten := by
    apply List.ext_getElem?
    intro k
    rw [List.getElem?_take]
    split
    · rename_i hk
      rw [Array.getElem?_toList, hK.2 k hk, ← Array.getElem?_toList, ha, List.getElem?_append_left (by omega)]
    · rw [List.getElem?_eq_none (by omega)]
  refine ⟨(zs.toList.drop lo).take m, (zs.toList.drop lo).drop m, by simp; omega, ?_, ⟨hK.1.trans h.perm, h.kind, h.failed, Gs, ?_, hr⟩, by simp; omega⟩
  · rw [Gr, List.pairwise_iff_getElem]
    intro i j hi hj hij
    have hj' : j < m ∧ j < zs.size - lo := by simpa [Nat.lt_min] using hj
    have hu := hU i j (Nat.le_of_lt hij) hj'.1
    rw [K_eq (by omega), K_eq (by omega)] at hu
    simpa [kq] using hu
  · show zs.toList = _
    rw [List.take_append_drop, ← ht, List.take_append_drop]
theorem SI.push {a₀ : Array Keyed} {G R : List Keyed} {st : SortSt} {lo m : Nat} (h : SI a₀ (G ++ R) st) (hG : Gr G) (hm : G.length = m) (h0 : 0 < m) (hlo : lo + (m + R.length) = a₀.size) :
    SI a₀ R (setPending st ((pendingOf st).push (lo, m, 0))) := by
  obtain ⟨Gs, ha, hr⟩ := h.runs
  have hl : Gs.flatten.length = lo := by
    have e := congrArg List.length ha
    rw [Array.length_toList, h.perm.size_eq, List.length_append, List.length_append] at e
    omega
  subst hm
  refine ⟨h.perm, h.kind, h.failed, Gs ++ [G], ?_, ?_⟩
  · show (arrOf st).toList = _
    rw [ha]; simp
  · show Spans 0 ((pendingOf st).push (lo, G.length, 0)).toList _
    rw [Array.toList_push]
    exact hr.join ⟨by simp [hl], rfl, h0, hG, trivial⟩
theorem SI.power {a₀ : Array Keyed} {R : List Keyed} {st : SortSt} {i pw : Nat} (h : SI a₀ R st) :
    SI a₀ R (setPending st ((pendingOf st).modify i fun t => (t.1, t.2.1, pw))) := by
  obtain ⟨Gs, ha, hr⟩ := h.runs
  refine ⟨h.perm, h.kind, h.failed, Gs, ha, hr.same ?_⟩
  show _ = List.map _ ((pendingOf st).modify i fun t => (t.1, t.2.1, pw)).toList
  apply List.ext_getElem?
  intro k
  rw [List.getElem?_map, List.getElem?_map, Array.getElem?_toList, Array.getElem?_toList, Array.getElem?_modify]
  split
  · cases (pendingOf st)[k]? <;> rfl
  · rfl
section
variable {prog : Program} {w : World} {A : Around} {E : Value → Shared → Prop} {s : Shared}
theorem wpS_timsort {a₀ : Array Keyed} {st : SortSt} {Q : Unit → SortSt → Prop} (h0 : ∀ p ∈ a₀, IntP p) (hpos : 0 < a₀.size) (hk : kindOf st = oneType') (hp : (arrOf st).Perm a₀) (hf : failedOf st = none) (hpd : pendingOf st = #[])
    (h : ∀ st', (arrOf st').Perm a₀ → failedOf st' = none → Gr (arrOf st').toList → Q () st') : wpS (model prog w) A E s sortRuns' Q st := by
  have hz : (arrOf st).size = a₀.size := hp.size_eq
  rw [sortRuns'_eq]
  refine wpS_bind (wpS_get ?_)
  dsimp only
  rw [hz]
  generalize minRun' a₀.size a₀.size 0 = mr
  refine wpS_bind (wpS_mono (wpS_forRange
    (I := fun x c st' => ∃ lo R, c = (none, lo) ∧ SI a₀ R st' ∧ lo + R.length = a₀.size ∧ x ≤ lo)
    (Q := fun c st' => ∃ lo, c = (none, lo) ∧ SI a₀ [] st') ?step ?fin ⟨0, (arrOf st).toList, rfl, ⟨hp, hk, hf, [], by simp, by rw [hpd]; trivial⟩, by simp [hz], Nat.le_refl _⟩) ?post)
  case fin =>
    rintro c st' ⟨lo, R, rfl, hS, hlo, hx⟩
    have : R = [] := List.length_eq_zero_iff.mp (by omega)
    subst this
    exact ⟨lo, rfl, hS⟩
  case step =>
    rintro x c st' _ hx ⟨lo, R, rfl, hS, hlo, hxl⟩
    dsimp only
    refine wpS_ite (fun e => wpS_pure ?_) (fun e => ?_)
    · have : R = [] := List.length_eq_zero_iff.mp (by omega)
      subst this
      exact ⟨lo, rfl, hS⟩
    have zz : (arrOf st').size = a₀.size := hS.perm.size_eq
    refine wpS_bind (wpS_run hS.kind (hS.ints h0) (by omega) (by omega) fun n xs hn1 hn2 hK hU => ?_)
    dsimp only
    refine wpS_ite (fun hm => ?_) (fun hm => ?_)
    all_goals
      first
      | (have hm' : mr ≤ n := by omega
         obtain ⟨m, zs, hm1, hm2, hKz, hUz, hnm, hxz⟩ : ∃ m zs, 1 ≤ m ∧ m ≤ R.length ∧ Keep lo (arrOf st') zs ∧ Up zs lo m ∧ n = m ∧ xs = zs := ⟨n, xs, hn1, by omega, hK, hU, rfl, rfl⟩
         rw [hnm, hxz])
      | (refine wpS_bind (wpS_rule ?_)
         refine wpS_bind (wpS_insert (st := setArr st' xs) (lo := lo) (ok := n) hS.kind (hK.ints (hS.ints h0)) (by show _ ≤ xs.size; rw [hK.size]; omega) (by omega) hU fun zs hKz' hUz => ?_)
         have hKz := hK.trans hKz'
         have hm1 : 1 ≤ min (a₀.size - lo) mr := by omega
         have hm2 : min (a₀.size - lo) mr ≤ R.length := by omega
         show wpS _ _ _ _ _ _ (setArr st' zs)
         generalize min (a₀.size - lo) mr = m at *
         rw [if_neg (by decide)])
      obtain ⟨G, R', g1, g2, hS2, g3⟩ := hS.run hlo hKz hUz hm2
      generalize setArr st' zs = st2 at hS2 ⊢
      refine wpS_bind (wpS_get ?_)
      rcases (pendingOf st2).back? with _ | ⟨s1, n1, q1⟩
      · exact wpS_bind (wpS_modify (wpS_pure ⟨lo + m, R', rfl, hS2.push g2 g1 hm1 (by omega), by omega, by omega⟩))
      · dsimp only
        generalize power' a₀.size (2 * s1 + n1) (2 * s1 + n1 + n1 + m) a₀.size = pw
        refine wpS_bind (wpS_mono (wpS_forRange (I := fun _ c st => c = (none, ()) ∧ SI a₀ (G ++ R') st) (Q := fun c st => c = (none, ()) ∧ SI a₀ (G ++ R') st) ?_ (fun _ _ hh => hh) ⟨rfl, hS2⟩) ?_)
        · rintro y c st3 _ _ ⟨rfl, hS3⟩
          refine wpS_bind (wpS_get ?_)
          by_cases hs : (pendingOf st3).size > 1
          · rw [if_pos hs, getElem?_pos (pendingOf st3) ((pendingOf st3).size - 2) (by omega)]
            dsimp only
            refine wpS_ite (fun _ => wpS_pure ⟨rfl, hS3⟩) (fun _ => ?_)
            refine wpS_bind (wpS_mergeSI h0 hS3 (by omega) fun st4 hS4 _ => ?_)
            rw [if_neg (by decide)]
            exact wpS_pure ⟨rfl, hS4⟩
          · rw [if_neg hs]
            exact wpS_pure ⟨rfl, hS3⟩
        · rintro c st3 ⟨rfl, hS3⟩
          exact wpS_bind (wpS_modify (wpS_bind (wpS_modify (wpS_pure ⟨lo + m, R', rfl, hS3.power.push g2 g1 hm1 (by omega), by omega, by omega⟩))))
  case post =>
    rintro c st' ⟨lo, rfl, hS⟩
    dsimp only
    refine wpS_bind (wpS_mono (wpS_forRange (I := fun x c st' => c = (none, ()) ∧ SI a₀ [] st' ∧ (pendingOf st').size ≤ max 1 (a₀.size - x))
      (Q := fun c st' => c = (none, ()) ∧ SI a₀ [] st' ∧ (pendingOf st').size ≤ 1) ?_ ?_ ⟨rfl, hS, by have := hS.fits; omega⟩) ?_)
    · rintro x c st3 _ hx ⟨rfl, hS3, hn3⟩
      refine wpS_bind (wpS_get ?_)
      refine wpS_ite (fun e => wpS_pure ⟨rfl, hS3, e⟩) (fun e => ?_)
      refine wpS_bind (wpS_mergeSI h0 hS3 (by (repeat' split) <;> omega) fun st4 hS4 hn4 => ?_)
      rw [if_neg (by decide)]
      exact wpS_pure ⟨rfl, hS4, by omega⟩
    · rintro c st3 ⟨rfl, hS3, hn3⟩
      exact ⟨rfl, hS3, by omega⟩
    · rintro c st3 ⟨rfl, hS3, hn3⟩
      refine wpS_pure (h st3 hS3.perm hS3.failed ?_)
      obtain ⟨Gs, ha, hr⟩ := hS3.runs
      have := hr.len
      rw [Array.length_toList] at this
      rw [ha]
      match Gs, hr with
      | [], _ => exact List.Pairwise.nil
      | [G], hr => 
        match (pendingOf st3).toList, hr with
        | t :: ps, hr => simpa using hr.2.2.2.1
        | [], hr => exact hr.elim
      | G :: G' :: Gs, _ => simp at this; omega
end
end Mine
end

section
open PySem PySem.W PySem.Calls PySem.Spec PyProof.Rows
set_option maxRecDepth 100000
namespace Mine
theorem sortedOf {xs : Array Keyed} (h : Gr xs.toList) : SortedTo xs xs.size := by
  intro i j hij hj
  rw [K_eq (by omega), K_eq hj]
  exact h.at hij hj
theorem idSorted : id256.Pairwise (· ≤ ·) := by
  rw [← id256Eq, rangeKs, List.pairwise_map, List.pairwise_iff_getElem]
  intro i j hi hj hij
  simp only [List.getElem_range]
  omega
theorem sortsTo {S : List Int} (hp : S.Perm id256) (hs : S.Pairwise (· ≤ ·)) : S = id256 :=
  hp.eq_of_pairwise (le := (· ≤ ·)) (fun _ _ _ _ h1 h2 => Int.le_antisymm h1 h2) hs idSorted
/-- the heap while the list at a is being sorted: the list is empty, its items are held in a tuple -/
def inSort (h : Heap) (a : Addr) (vs : List Value) : Heap := ((h.update a (Obj.mapSeq fun _ => #[])).push (seqObj "tuple" vs.toArray 0)).push (seqObj "list" #[] 0)
theorem inSort_at {h : Heap} {a : Addr} {vs : List Value} {n : Nat} (ho : h.get? a = some (seqObj "list" vs.toArray n)) :
    ∃ e, (h.update a (Obj.mapSeq fun _ => #[])).get? a = some (seqObj "list" #[] e) ∧ (inSort h a vs).get? a = some (seqObj "list" #[] e) :=
  ⟨_, get?_update_seq ho _, Heap.get?_push_of_some _ (Heap.get?_push_of_some _ (get?_update_seq ho _))⟩
section
variable {prog : Program} {w : World} {A : Around} {E : Value → Shared → Prop} {s : Shared}
/-- the runs of a list of two ints and more, sorted -/
theorem sortInts {vs : List Value} {ns : List Int} {Q : Unit → SortSt → Prop} (hI : IntsAre vs ns) (h0 : 0 < vs.length)
    (h : ∀ st ns', (arrOf st).size = vs.length → failedOf st = none → IntsAre ((arrOf st).map (·.2)).toList ns' → ns'.Perm ns → ns'.Pairwise (· ≤ ·) → Q () st) :
    wpS (model prog w) A E s sortRuns' Q (SortSt.mk' oneType' (pairsOf vs) #[] 7 none) := by
  refine wpS_timsort (a₀ := pairsOf vs) (fun p hp => hI.intKeys p (Array.mem_toList_iff.mpr hp)) (by rw [pairsOf_size]; exact h0) rfl (Array.Perm.refl _) rfl rfl fun st q1 q2 q3 => ?_
  obtain ⟨ns', r1, r2, r3⟩ := sorted_out hI q1 (q1.size_eq ▸ sortedOf q3)
  exact h st ns' (q1.size_eq.trans (pairsOf_size vs)) q2 r1 r2 r3
theorem sortCall {a : Addr} {vs : List Value} {ns : List Int} {n : Nat} {P : PySem.Fin → Shared → Prop} (ho : s.heap.get? a = some (seqObj "list" vs.toArray n)) (hI : IntsAre vs ns) (h2 : 2 ≤ vs.length) (hm : vs.length ≤ 4096)
    (h : ∀ (out : Array Value) (ns' : List Int), IntsAre out.toList ns' → ns'.Perm ns → ns'.Pairwise (· ≤ ·) → P (.done (.ret .none)) { s with heap := sortedHeap s.heap a vs out }) :
    wpAny (model prog w) A (Builtin.«list.sort» ⟨[.ref a], []⟩) P E s := by
  have hline : vs.length ≤ sizeLine := by rw [sizeLine_eq]; omega
  obtain ⟨e, he, hu⟩ := inSort_at ho
  rw [list_sort_plain]
  refine wpAny_bind (listItems_at ho rfl (wpAny_bind (listUpdate_at ho rfl ?_ (by simpa using hline))))
  refine wpAny_bind (seqEpoch_at he rfl (wpAny_bind (wpAny_newTuple (wpAny_bind (wpAny_newList (wpAny_holding ?_))))))
  change wpAny (model prog w) A _ P E { s with heap := inSort s.heap a vs }
  obtain ⟨v, u, rest, rfl⟩ : ∃ v u rest, vs = v :: u :: rest := by
    match vs, h2 with
    | v :: u :: rest, _ => exact ⟨v, u, rest, rfl⟩
  simp only [List.size_toArray, show ¬ (v :: u :: rest).length < 2 by omega, if_false, keyKind_ints hI]
  refine wpAny_bind (wpAny_pure (wpAny_bind (wpAny_mono (sortInts hI (by omega)
    (Q := fun _ st => ∃ ns', (arrOf st).size = (v :: u :: rest).length ∧ failedOf st = none ∧ IntsAre ((arrOf st).map (·.2)).toList ns' ∧ ns'.Perm ns ∧ ns'.Pairwise (· ≤ ·))
    fun st ns' q1 q2 q3 q4 q5 => ⟨ns', q1, q2, q3, q4, q5⟩) ?_ fun _ _ x => x)))
  rintro ⟨⟨⟩, st⟩ s' ⟨rfl, ns', q1, q2, q3, q4, q5⟩
  refine wpAny_bind (seqEpoch_at hu rfl (wpAny_bind (listUpdate_at hu rfl ?_ (Nat.zero_le _) (by rw [Array.size_map]; exact Nat.le_succ_of_le (q1 ▸ hline)))))
  rw [q2]
  refine wpAny_ite ?_
  rw [if_neg (by simp)]
  exact wpAny_pure (h _ ns' q3 q4 q5)
end
section
variable {prog : Program} {w : World} {A : Around} {E : Value → Shared → Prop} {s : Shared} {h₀ : Heap} {L l : Addr} {m : PySem.Str → Option Value} {news : List (Addr × Obj)}
/-- sorted(xs) of a list that holds each of 0 .. 255 once -/
theorem sorted256 {vs : List Value} {S : List Int} {c : Nat} {Q : Value → Shared → Prop} (F : Fr h₀ L s.heap m) (N : News h₀ L s.heap news) (hm : (l, listOf vs.toArray c) ∈ news) (hi : IntsAre vs S) (hp : S.Perm id256)
    (h : ∀ D us c' h', Fr h₀ L h' m → News h₀ L h' ((D, listOf (List.toArray us) c') :: news) → (∀ q ∈ news, q.1 < D) → IntsAre us id256 → Q (.ref D) { s with heap := h' }) :
    wpAny (model prog w) A (call (.builtin "sorted") [.ref l]) Q E s := by
  have hlen : vs.length = 256 := by rw [hi.length, hp.length_eq, id256Len]
  refine call_function_entry kind_sorted plain_sorted entry_sorted (args_sorted1 _) ?_
  unfold Builtin.«sorted»
  refine wpAny_bind (m := checkCount "sorted" 1 1 _) (wpAny_pure ?_)
  refine wpAny_bind (collect_list (N.isList hm) ?_ (by rw [hlen, sizeLine_eq]; omega))
  refine wpAny_bind (wpAny_newList ?_)
  have hsz : ((s.heap.push (seqObj "list" #[] 0)).update s.heap.objs.size (Obj.mapSeq (· ++ vs.toArray))).objs.size = s.heap.objs.size + 1 := by
    rw [Heap.size_update, size_push']
  have hnew := Heap.get?_push_size ((s.heap.push (seqObj "list" #[] 0)).update s.heap.objs.size (Obj.mapSeq (· ++ vs.toArray))) (o := seqObj "list" vs.toArray 0) rfl
  rw [hsz] at hnew
  show wpAny _ _ _ _ _ { s with heap := ((s.heap.push (seqObj "list" #[] 0)).update s.heap.objs.size (Obj.mapSeq (· ++ vs.toArray))).push (seqObj "list" vs.toArray 0) }
  rw [hsz]
  refine wpAny_bind (wpAny_holding (wpAny_call_entry slot_list_sort ⟨_, hnew, rfl⟩ entry_list_sort (sortCall hnew hi (by omega) (by omega) fun out ns' a1 a2 a3 => ⟨_, rfl, ?_⟩) (args_list_sort _)))
  have e' := sortsTo (a2.trans hp) a3
  rw [e'] at a1
  obtain ⟨c', hc'⟩ := sortedAll_at s.heap vs out
  exact wpAny_pure ⟨_, rfl, h _ out.toList c' _ (F.kept fun _ _ => sortedAll_old) (N.kept_cons F (fun _ _ => sortedAll_old) (Nat.le_succ _) hc') (fun q hq => Nat.lt_succ_of_lt (Heap.lt_size (N q hq).1)) a1⟩
end
end Mine
end

section
open PySem PySem.W PySem.Calls PySem.Spec PyProof.Rows
namespace Mine
def cell (ns : List Int) (i d : Int) : Int := if i < ns.length then ns.getD i.toNat 0 else d

def msgL (ns : List Int) : List Int := List.map (fun k' => (cell ns 2 77 + 91 * k').fmod 256) (rangeKs 0 (((cell ns 0 27).fdiv 6).fmod 9 - 0).toNat)
theorem msgSize (ns : List Int) : (byteArr (msgL ns)).size ≤ 8 := by
  rw [byteArr_size, msgL, List.length_map, rangeKs_length]
  have h := Int.fmod_lt_of_pos ((cell ns 0 27).fdiv 6) (show (0 : Int) < 9 by decide)
  omega

section
variable {w : World} {mean : ExcName → Option Value} {mg mb : PySem.Str → Option Value} {dp un : Nat} {gd : Option (List Code)} {cn : PySem.Str} {cs : Scope} {a : Addr} {ccd : Value} {cl : List (PySem.Str × Addr)} {outer : List Env} {A₀ : Around} {base h₀ : Heap} {L : Addr} {m : PySem.Str → Option Value}
  {s : Shared} {Q E : Value → Shared → Prop}
theorem initUse {D f e : Addr} {of oe : Obj} {vs : List Value} {K : List Int} (B : Below A₀ base outer h₀) (F : Fr h₀ L s.heap m) (X : (hd.heap_39 w.params).In h₀) (N : News h₀ L s.heap [(f, of), (D, LCg.lst vs), (e, oe)]) (hne : @Ne Nat e D)
    (T : Top hd.view_39 (looseW hd.view_39 [Str.ofString "Arcfour"]) mean mg mb h₀) (hk : cs.kind = .function) (hi : IntsAre vs K) (h1 : 1 ≤ K.length) (h2 : K.length ≤ 6) (hdp : dp + 2 < recursionLimit) (hun : un + 16 < cLine)
    (ret : ∀ (x d l : Addr) (cc : Nat) (vs' : List Value) (S : List Int) (j : Int) (ts ti tj t1 t2 : Tok) h' tk', ksa K = (S, j) → IntsAre vs' S → GoodK (S, j) → (@Ne Nat x d ∧ @Ne Nat x l ∧ @Ne Nat d l) → (@Ne Nat e x ∧ @Ne Nat e d ∧ @Ne Nat e l) → Fr h₀ L h' m →
      News h₀ L h' [(x, instObj 38 d), (d, dictOf [⟨PyData.keyHash w.params (Str.ofString "s"), .str (Str.ofString "s") ts, .ref l⟩, ⟨PyData.keyHash w.params (Str.ofString "i"), .str (Str.ofString "i") ti, .int 0 t1⟩, ⟨PyData.keyHash w.params (Str.ofString "j"), .str (Str.ofString "j") tj, .int 0 t2⟩] 3), (l, listOf vs'.toArray cc), (e, oe)] →
      Q (.ref x) { s with heap := h', toks := tk' }) :
    wpAny (model PySem.Challenge.rw_bq0010_01.row.prog w) (ktrTop dp un gd cn cs L a ccd cl outer) (call (.ref 38) [.ref D]) Q E s := by
  refine initTells w mean mg mb dp un gd cn cs a ccd cl outer A₀ base h₀ L m [(e, oe)] s Q E D vs.length vs K B F X (newsSub N fun p hp => ?_) (fun p hp b hb => ?_) T hk hi h1 h2 hdp hun ?_
  · rcases List.mem_cons.mp hp with rfl | hp
    · exact .tail _ (.head _)
    · exact .tail _ (.tail _ hp)
  · rw [List.mem_singleton.mp hp, List.mem_singleton.mp hb]
    exact hne
  · intro x d l cc vs' S j ts ti tj t1 t2 h' tk' hq hi' hG hn hof F' N'
    have h9 : (e, oe) ∈ [(D, listOf vs.toArray vs.length), (e, oe)] := .tail _ (.head _)
    refine ret x d l cc vs' S j ts ti tj t1 t2 h' tk' hq hi' hG hn ⟨hof _ h9 _ (.head _), hof _ h9 _ (.tail _ (.head _)), hof _ h9 _ (.tail _ (.tail _ (.head _)))⟩ F' (newsSub N' fun p hp => ?_)
    rcases List.mem_cons.mp hp with rfl | hp
    · exact .head _
    rcases List.mem_cons.mp hp with rfl | hp
    · exact .tail _ (.head _)
    rcases List.mem_cons.mp hp with rfl | hp
    · exact .tail _ (.tail _ (.head _))
    exact .tail _ (.tail _ (.tail _ (.tail _ hp)))
end
local macro_rules | `(tactic| walk_at "call type:list") => `(tactic| (k_here; (with_reducible show wpAny _ _ (call (Value.type _) [Value.ref _]) _ _ _); (rename IsRange _ _ 0 256 _ _ _ _ => rgX); (with_unfolding_all refine' list256 ?k0 ?k1 ?k2 ?k3 ?_; (case k0 => rfl); (case k1 => k_asm); (case k2 => k_asm); (case k3 => exact rgX); k_whole); intro D' vs' c' h' tk' F' N' l1 hI'; (try k_lt l1); (try k_sweep)))
local macro_rules | `(tactic| walk_at "call type:list") => `(tactic| (k_here; (with_reducible show wpAny _ _ (call (Value.type _) [Value.ref _]) _ _ _); k_dflt (refine' listCopy ?k1 ?k2 ?k3 ?k4 ?k5 ?_; (case k1 => k_asm); (case k2 => k_asm); (case k3 => k_mem); (case k4 => with_reducible assumption); (case k5 => first | assumption | (simp only [List.length_set]; assumption)); k_whole); intro D' c' h' F' N' l1; (try k_lt l1); (try k_sweep)))
local macro_rules | `(tactic| walk_at "subscriptTail") => `(tactic| (k_here; (with_reducible show wpAny _ _ (subscriptTail (PySem.Expr.Name _ _) _ (Value.bytes _ _) (Value.int _ _)) _ _ _); k_dflt (refine itemOne (by assumption) ?_); intro t' k'))
local macro_rules | `(tactic| walk_at "exec Return some") => `(tactic| (k_here; (with_reducible show wpAny _ _ (exec (Stmt.Return (some (PySem.Expr.Constant (PySem.Const.bool false) _ _)) _) _) _ _ _); refine Stop.of ?_))
local macro_rules | `(tactic| walk_at "call builtin:sorted") => `(tactic| (k_here; (with_reducible show wpAny _ _ (call (Value.builtin _) [Value.ref _]) _ _ _); k_dflt (refine' sorted256 ?k1 ?k2 ?k3 ?k4 ?k5 ?_; (case k1 => k_asm); (case k2 => k_asm); (case k3 => k_mem); (case k4 => with_reducible assumption); (case k5 => assumption); k_whole); intro D' us' c' h' F' N' l1 hI'; (try k_lt l1); (try k_sweep)))
local macro_rules | `(tactic| walk_at "call builtin:list.index") => `(tactic| (k_here; (with_reducible show wpAny _ _ (call (Value.builtin _) [Value.ref _, Value.int _ _]) _ _ _); k_dflt (refine' index256 ?k1 ?k2 ?k3 ?k4 ?k5 ?_; (case k1 => k_asm); (case k2 => k_mem); (case k3 => with_reducible assumption); (case k4 => first | assumption | (simp only [List.length_set]; assumption)); (case k5 => assumption); k_whole); intro j' h0' h1' h2'; (have hIdx := IdxAt.mk h0' h1' h2')))
local macro_rules | `(tactic| walk_at "call type:bytes") => `(tactic| (k_here; (with_reducible show wpAny _ _ (call (Value.type "bytes") [Value.int _ _]) _ _ _); k_dflt (refine' bytesCountK ?k1 ?k2 ?_; (case k1 => omega); (case k2 => omega)); intro bN' t' k' hbN'))
local macro_rules | `(tactic| walk_at "execs nil") => `(tactic| (k_here; (rename Mine.TailMark => hTail); refine wpAny_execs_nil ?_))
local macro_rules | `(tactic| walk_at "execs cons") => `(tactic| (k_here; (rename Mine.TailMark => hTail); refine wpAny_execs_cons ?_))
local macro_rules | `(tactic| walk_at "execs cons") => `(tactic| (k_here; (with_reducible show wpAny _ _ (execs (Stmt.Return (some (PySem.Expr.Constant (PySem.Const.bool false) _ _)) _ :: _) _) _ _ _); refine Stop.of ?_))
local macro_rules | `(tactic| walk_at "compareOp NotEq ref ref") => `(tactic| (k_here; refine Stop.of ?_))
local macro_rules | `(tactic| walk_at "compareOp Eq ref ref") => `(tactic| (k_here; refine Stop.of ?_))
local macro_rules | `(tactic| walk_at "call ref") => `(tactic| (k_here; (first | (with_reducible show wpAny _ _ (call (Value.ref 38) _) _ _ _) | (with_reducible show wpAny _ _ (call (Value.ref 35) _) _ _ _)); refine Stop.of ?_))
local macro_rules | `(tactic| walk_at "pyIter ref") => `(tactic| (k_here; (with_reducible show wpAny _ _ (pyIter (Value.ref _)) (fun it s₂ => LoopAtV _ _ _ _ _ _ _ _ _ it s₂) _ _); refine Stop.of ?_))
local macro_rules | `(tactic| walk_at "pyIter bytes") => `(tactic| (k_here; (with_reducible show wpAny _ _ (pyIter (Value.bytes _ _)) (fun it s₂ => LoopAtV _ _ _ _ _ _ _ _ _ it s₂) _ _); refine Stop.of ?_))
set_option maxRecDepth 100000 in
set_option maxHeartbeats 8000000 in
theorem w1 : PySem.Challenge.rw_bq0010_01.Holds := by
  w_on
  (k_with "tree" => simp only [Mine.cell])
  (k_with "call ref" => k_call_by "_law_at" Mine.cell (fun (_ : List Int) (i _ : Int) => 0 ≤ i))
  refine hd ?_
  k_go0
  all_goals try k_fold
  k_steps
  case' _ =>
    rename (256 : Int) ^ _ = 0 => hz
    exact absurd hz (pow256 _)
  refine Stop.out ?_
  rename Fr _ _ _ _ => F1
  rename News _ _ _ _ => N1
  rename Below callerA _ _ _ => B0
  rename Top _ _ _ _ _ _ => T0
  rename Frag.In _ _ => X1
  with_unfolding_all refine' initUse B0 F1 X1 N1 ?n1 T0 ?n0 ?n2 ?n3 ?n4 ?n5 ?n6 ?n7
  case n0 => rfl
  case n2 => assumption
  case n1 => first | assumption | omega
  case n3 => simp only [List.length_map, rangeKs_length]; omega
  case n4 => simp only [List.length_map, rangeKs_length]; omega
  case n5 => ktr_room
  case n6 => ktr_units
  case n7 =>
  clear F1 N1
  rename List Int => ns
  intro x d l cc vs S j ts ti tj t1 t2 h tk hksa hi hG hne hce F2 N2
  rw [show List.map (fun k' => (cell ns 2 77 + 91 * k').fmod 256) (rangeKs 0 (((cell ns 0 27).fdiv 6).fmod 9 - 0).toNat) = msgL ns from rfl] at F2
  have hbs := msgSize ns
  have hlen : S.length = 256 := hG.len
  generalize byteArr (msgL ns) = b at F2 hbs
  k_steps
  refine Stop.out ?_
  rename Fr _ _ _ _ => F3
  rename News _ _ _ _ => N3
  with_unfolding_all refine' law1 ?hh F3 N3 hi (good0 hG) (fin0 S) hne ?hst ?hfi hce ?turn ?done
  case hh => rfl
  case hst => omega
  case hfi => omega
  case turn =>
    clear F3 N3
    intro n k t vs' ls str S' i' j' t1' t2' cs h tk own rs hn hk0 hk1 hof hof2 hin hown hi' hG' hF' hls hln F4 N4
    k_steps
    refine Stop.out ?_
    rename Fr _ _ _ _ => F5
    rename News _ _ _ _ => N5
    rename _ = k => hk9
    with_unfolding_all refine' procUse1 B0 F5 X1 N5 hne hof2 T0 ?h1 hi' hG' ?h3 ?h4 ?h5 ?h6
    case h1 => rfl
    case h3 => exact congrArg (fun z => [z]) hk9
    case h4 => ktr_room
    case h5 => ktr_units
    clear F5 N5
    case h6 =>
    intro vs2 ti' tj' tr r S2 i2 j2 z h5 tk5 hst hz hz0 hz1 hi2 hlen2 hmem2 hi20 hi21 hj20 hj21 hr F6 N6
    have hnf : ¬ Fin ⟨S2, i2, j2⟩ := fun h => hF' (finBack hG' (hst ▸ h))
    have hx9 := xrSelf hk0 hk1 hz0 hz1
    k_steps
    · refine Stop.out ?_
      rename j2 = _ => e1
      rename _ = (1 : Int) => e2
      exact (hnf ⟨e1, e2⟩).elim
    all_goals (
      rename Fr _ _ _ _ => F7
      rename News _ _ _ _ => N7
      simp only [List.push_toArray] at N7
      exact law1End F7 N7 hin hown hst hz hx9 hi2 ⟨hlen2, hmem2, hi20, hi21, hj20, hj21⟩ hnf hls hln (fun q hq => if_neg hq))
  case done =>
  clear F3 N3 hlen
  intro vs1 ls1 q1 str1 t11 t12 cs1 u1 h1 tk1 hq1 hi1 hG1 hls1 hln1 N4 F4
  have hlen1 : q1.S.length = 256 := hG1.len
  k_steps
  refine Stop.out ?_

  rename Fr _ _ _ _ => F5
  rename News _ _ _ _ => N5
  with_unfolding_all refine' law2 ?hh F5 N5 hi1 hG1 ?hbk ?hfx ?m1 ?m2 ?m3 ?turn ?done
  case hh => rfl
  case m1 => with_unfolding_all rfl
  case m2 => with_unfolding_all rfl
  case m3 => with_unfolding_all rfl
  case hbk => omega
  case hfx => (repeat' (first | exact offNil | refine offCons ?_ ?_)) <;> omega
  case turn =>
    clear F5 N5
    intro n k t vb lb S' i' j' bl t1' t2' cb ck bk u h tk own rs hn hof hne2 hin hown hsep1 hsep2 hi' hG' hlb hbl F6 N6
    obtain ⟨hlen', hmem', hi0', hi1', hj0', hj1'⟩ := id hG'
    dsimp only at hlen' hmem' hi0' hi1' hj0' hj1'
    k_steps
    rename Fr _ _ _ _ => F7
    rename News _ _ _ _ => N7
    rename IntsAre _ (List.set _ _ _) => hv7
    rename IntsAre _ (_ ++ bl) => hw7
    refine' law2End (p := ⟨⟨S', i', j'⟩, bl⟩) (k := k) F7 N7 hin hown hsep1 hsep2 ?h1 hG' hbl hv7 hw7 ?h2 ?h3
    case h1 => assumption
    case h2 => kst_all
    case h3 => kst_same
  case done =>
  clear F5 N5
  intro vb2 lb2 q2 bl2 t1' t2' cb2 ck2 bk2 u2 h2 tk2 hq2 hi2 hG2 hlb2 hbl2 hne2 N6 F6
  k_steps
  refine Stop.out ?_
  obtain ⟨e1, e2⟩ := backAll (good0 hG) hq1 hq2
  subst e1 e2
  rename News _ _ _ _ => N7
  k_dflt (refine' ne4 N7 ?h1 ?h2 ?h3 ?h4 ?h5 ?h6 hi2 hlb2 hi hls1 ?h7 ?h8)
  case h1 => k_mem
  case h2 => k_mem
  case h3 => k_mem
  case h4 => k_mem
  case h5 => k_mem
  case h6 => k_mem
  case h7 => ke_room
  case h8 =>
  have hperm : q1.S.Perm id256 := (runPerm (good0 hG) hq1).trans (ksaPerm hksa)

  k_steps
  refine Stop.out ?_
  rename News _ _ _ _ => N8
  k_dflt (refine' neSame N8 ?h1 ?h2 ?i1 ?i2 ?hu ?hr)
  case h1 => k_mem
  case h2 => k_mem
  case i1 => with_reducible assumption
  case i2 => with_reducible assumption
  case hu => ke_room
  case hr =>
  have N9 := keep4 N8
  clear N8
  have hmw : (q1.i + 2 - q1.j).fmod 256 ∈ q1.S := permIn hperm (fm0 _) (fm1 _)
  obtain ⟨hi10, hi11, hj10, hj11⟩ : 0 ≤ q1.i ∧ q1.i < 256 ∧ 0 ≤ q1.j ∧ q1.j < 256 := ⟨hG1.i0, hG1.i1, hG1.j0, hG1.j1⟩
  k_steps
  refine Stop.out ?_
  rename Fr _ _ _ _ => F8
  rename News _ _ _ _ => N8
  rename IntsAre _ (List.set (List.set _ _ _) _ _) => hi8
  rename KBw.bInts _ = List.replicate _ _ => hb8
  rename IdxAt q1.S _ _ => hw8
  with_unfolding_all refine' procUse1 (k := 0) B0 F8 X1 (newsSub N8 fun _ hp => .tail _ hp) hne (offOne3 hce) T0 ?h1 hi8 (goodSwp hG1) hb8 ?h4 ?h5 ?h6
  case h1 => rfl
  case h4 => ktr_room
  case h5 => ktr_units
  case h6 =>
  clear F8 N8
  intro vs3 ti3 tj3 tr3 r3 S3 i3 j3 z3 h3 tk3 hst3 hz3 hz30 hz31 hi3 hlen3 hmem3 hi30 hi31 hj30 hj31 hr3 F9 N9
  obtain ⟨ei3, ej3, hp3⟩ := place1 hG1 hw8.j0 hw8.j1 hw8.at' hst3
  dsimp only at ei3 ej3 hp3
  clear hi8 hw8 hb8 hst3 hz3 hr3
  have hp30 : S3.Perm id256 := hp3.trans hperm
  have hm3 : (1 : Int) ∈ S3 := permIn hp30 (by decide) (by decide)
  have hs24 := fmod_lo ((cell ns 3 0).fdiv 4) (show (0 : Int) < 24 by decide)
  have hs24' := fmod_hi ((cell ns 3 0).fdiv 4) (show (0 : Int) < 24 by decide)
  subst ei3 ej3
  generalize (q1.i + 1).fmod 256 = pl at *
  k_steps
  · refine Stop.out ?_
    rename ¬ _ = _ => hne9
    exact absurd rfl hne9
  · refine Stop.out ?_
    rename ¬ _ = _ => hne9
    exact absurd rfl hne9
  · refine Stop.out ?_
    rename Fr _ _ _ _ => F10
    rename News _ _ _ _ => N10
    rename IntsAre _ (List.set (List.set _ _ _) _ _) => hi10
    rename KBw.bInts _ = List.replicate _ _ => hb10
    rename IdxAt S3 _ _ => hx10
    with_unfolding_all refine' procUse B0 F10 X1 (permN N10) hne (offTwo3 ?h0 hce) T0 ?h1 hi10 (goodSwp ⟨hlen3, hmem3, hi30, hi31, hj30, hj31⟩) ?h2 hb10 ?h4 ?h5 ?h6
    case h0 => omega
    case h1 => rfl
    case h2 => rw [List.length_replicate]; omega
    case h4 => ktr_room
    case h5 => ktr_units
    clear F10 N10
    case h6 =>
    intro vs4 ti4 tj4 tr4 r4 q4 out4 h4 tk4 hq4 hi4 hG4 hr4 hl4 F11 N11
    obtain ⟨hS4, hqi4, hqj4, hq41, hS41⟩ := finAll (t := (pl + 1).fmod 256) ⟨hlen3, hmem3, hi30, hi31, hj30, hj31⟩ rfl hx10 hq4
    have hlen4 : q4.S.length = 256 := hG4.len
    obtain ⟨g40, g41, g42, g43⟩ : 0 ≤ q4.i ∧ q4.i < 256 ∧ 0 ≤ q4.j ∧ q4.j < 256 := ⟨hG4.i0, hG4.i1, hG4.j0, hG4.j1⟩
    have hA := Stop.out (rangeAll (t := (pl + 1).fmod 256) ⟨hlen3, hmem3, hi30, hi31, hj30, hj31⟩ rfl hx10 hq4)
    have hqi5 : q4.i = (pl + 255).fmod 256 := hqi4
    clear hS4 hq4 hr4 hl4 hb10 hqi4 hS41 hx10 hmem3 hm3 hp30 hp3 hperm hmw hq1 hq2 hlb2 hls1 hln1 hbl2 hi2 hG2 hksa
    have hTail : TailMark := TailMark.mk
    k_steps
    · refine Stop.out ?_
      rename ¬ q4.i = _ => hne9
      exact absurd hqi5 hne9
    · refine Stop.out ?_
      rename ¬ q4.j = _ => hne9
      exact absurd hqj4 hne9
    · refine Stop.out ?_
      rename ¬ _ = (1 : Int) => hne9
      exact absurd hq41 hne9
    have hA' := Stop.rev hA
    refine Stop.out ?_
    rename News _ _ _ _ => N12
    rename IntsAre _ (List.drop _ _ ++ List.take _ _) => iD12
    rename IntsAre _ q4.S => iS12
    k_dflt (refine' eqSame N12 ?h1 ?h2 (hA' ▸ iS12) iD12 ?hu ?hr)
    case h1 => k_mem
    case h2 => k_mem
    case hu => ke_room
    case hr =>
    k_steps
  · refine Stop.out ?_
    rename Fr _ _ _ _ => F10
    rename News _ _ _ _ => N10
    rename IntsAre _ (List.set (List.set _ _ _) _ _) => hi10
    rename KBw.bInts _ = List.replicate _ _ => hb10
    rename IdxAt S3 _ _ => hx10
    with_unfolding_all refine' procUse B0 F10 X1 (permN N10) hne (offTwo3 ?h0 hce) T0 ?h1 hi10 (goodSwp ⟨hlen3, hmem3, hi30, hi31, hj30, hj31⟩) ?h2 hb10 ?h4 ?h5 ?h6
    case h0 => omega
    case h1 => rfl
    case h2 => rw [List.length_replicate]; omega
    case h4 => ktr_room
    case h5 => ktr_units
    clear F10 N10
    case h6 =>
    intro vs4 ti4 tj4 tr4 r4 q4 out4 h4 tk4 hq4 hi4 hG4 hr4 hl4 F11 N11
    obtain ⟨hS4, hqi4, hqj4, hq41, hS41⟩ := finAll (t := (pl + 1).fmod 256) ⟨hlen3, hmem3, hi30, hi31, hj30, hj31⟩ rfl hx10 hq4
    have hlen4 : q4.S.length = 256 := hG4.len
    obtain ⟨g40, g41, g42, g43⟩ : 0 ≤ q4.i ∧ q4.i < 256 ∧ 0 ≤ q4.j ∧ q4.j < 256 := ⟨hG4.i0, hG4.i1, hG4.j0, hG4.j1⟩
    have hB := Stop.out hS4
    clear hS4 hq4 hr4 hl4 hb10 hS41 hx10 hmem3 hm3 hp30 hp3 hperm hmw hq1 hq2 hlb2 hls1 hln1 hbl2 hi2 hG2 hksa
    have hTail : TailMark := TailMark.mk
    k_steps
    refine Stop.out ?_
    rename Fr _ _ _ _ => F12
    rename News _ _ _ _ => N12
    rename IsRange _ _ 0 _ _ _ _ _ => rg12
    with_unfolding_all refine' law3 ((pl + 1).fmod 256) ?hh rg12 ?he0 ?he1 F12 N12 hi10 ?hl ?off ?turn ?done
    case hh => rfl
    case he0 => omega
    case he1 => omega
    case hl => simp only [List.length_set]; assumption
    case off => (repeat' (first | exact offNil | refine offCons ?_ ?_)) <;> omega
    case turn =>
      clear F12 N12
      intro k t' vd D c' h tk own rs hk0 hk1 hof hin hown hiD hlD F13 N13
      have hfk0 := fm0 ((pl + 1).fmod 256 + k)
      have hfk1 := fm1 ((pl + 1).fmod 256 + k)
      have hfk2 := fm0 ((pl + 1).fmod 256 + k + 1)
      have hfk3 := fm1 ((pl + 1).fmod 256 + k + 1)
      k_steps
      rename Fr _ _ _ _ => F14
      rename News _ _ _ _ => N14
      rename IntsAre _ (List.set (List.set D _ _) _ _) => hi14
      with_unfolding_all exact law3End F14 N14 hin hown hi14 hlD (fun q hq => if_neg hq)
    case done =>
      clear F12 N12
      intro vd' c' u h tk hiD F13 N13
      have hqi5 := hqi4
      rw [Int.toNat_of_nonneg (by omega)] at hqi5
      k_steps
      · refine Stop.out ?_
        rename ¬ q4.i = _ => hne9
        exact absurd hqi5 hne9
      · refine Stop.out ?_
        rename ¬ q4.j = _ => hne9
        exact absurd hqj4 hne9
      · refine Stop.out ?_
        rename ¬ _ = (1 : Int) => hne9
        exact absurd hq41 hne9
      have hB' := Stop.rev hB
      refine Stop.out ?_
      rename News _ _ _ _ => N15
      rename IntsAre _ q4.S => iS15
      have iD15 := hiD
      clear hB hiD
      k_dflt (refine' eqSame N15 ?h1 ?h2 (hB' ▸ iS15) iD15 ?hu ?hr)
      case h1 => k_mem
      case h2 => k_mem
      case hu => ke_room
      case hr =>
      k_steps
end Mine
end

theorem PySem.Challenge.cw_bq0010_01_holds : PySem.Challenge.rw_bq0010_01.Holds := by
  exact Mine.w1
