import PyProof.Rows.All
import Wide.All
import OpenK.AllK
import Wide.FinOn
import PySem.Challenge.RW_pg0173_01
set_option Elab.async false
set_option rowWalk.seconds 0
section
open PySem PySem.W PyProof.Rows
namespace Mine
set_option maxRecDepth 100000
set_option maxHeartbeats 8000000
open_top hd for PySem.Challenge.rw_pg0173_01
end Mine
end
section
open PySem PySem.W PyProof.Rows PySem.Calls
set_option maxRecDepth 100000
namespace Mine

/-- everything that stood still stands -/
def Kept (h h' : Heap) : Prop := ∀ b o, h.get? b = some o → h'.get? b = some o
theorem Kept.refl (h : Heap) : Kept h h := fun _ _ e => e
theorem Kept.trans {a b c : Heap} (x : Kept a b) (y : Kept b c) : Kept a c := fun i o e => y i o (x i o e)

/-- what a call of ours hands on: a value, a grown heap -/
def Back (s : Shared) (Q : Value → Shared → Prop) (R : Value → Heap → Prop) : Prop :=
  ∀ v h' tk, Kept s.heap h' → R v h' → Q v { s with heap := h', toks := tk }

def flowVal : Flow → Value
  | .ret v => v
  | _ => .none

section
variable {prog : Program} {w : World} {A : Around} {s : Shared} {K : Frag} {p : Program} {loose : List Str} {mean : ExcName → Option Value} {mg mb : Str → Option Value}
  {name qual : Str} {params : Arguments} {body : List Stmt} {scope : Scope} {dV kV doc pm cdv ct oc : Value} {an od : Option Addr} {osl : Array (Option Value)} {f : Addr} {binds : List (Str × Value)} {Q E : Value → Shared → Prop}
  {pos : List Value} {kw : List (Str × Value)}

theorem enter (X : K.In s.heap) (T : Top p loose mean mg mb s.heap) (hroom : A.depth < recursionLimit)
    (ho : K.lookup f = some ⟨oc, od, .func (fnOf name qual params body scope dV kV doc pm an cdv ct), osl⟩) (hcd : codeIn K cdv qual = true)
    (hbind : BindsTo s (fnOf name qual params body scope dV kV doc pm an cdv ct) ⟨pos, kw⟩ binds) (hloc : ∀ y ∈ binds, scope.names.lookup y.1 = some .local)
    (hco : scope.isCoroutine = false) (hgen : scope.isGenerator = false) (hk : scope.kind = .function) (hcell : ∀ x ∈ scope.names, x.2 ≠ .cell)
    (h : ∀ L h₁ tk, Fr s.heap L h₁ (fun y => binds.reverse.lookup y) → News s.heap L h₁ [] →
      wpAny (model prog w) (A.deeper (envOf qual scope L f cdv)) (execs body (envOf qual scope L f cdv)) (fun fl s' => Q (flowVal fl) s') (fun _ _ => False) { s with heap := h₁, toks := tk }) :
    wpAny (model prog w) A (call (.ref f) pos kw) Q E s := by
  refine wpAny_call ?_
  refine codeAny_call_def (fd := fnOf name qual params body scope dV kV doc pm an cdv ct) (body := body) (binds := binds) hroom (X _ _ ho) rfl T.nolimit (codeRec_of X hcd) rfl hbind hcell hloc (fun h₁ hns hk₁ => ?_) hco hgen hk
  refine wpAny_mono (h s.heap.objs.size h₁ _ ⟨hns, fun b o e => hk₁ b o e, Nat.le_refl _⟩ News.nil) (fun fl s' hq => ?_) fun _ _ x => x.elim
  cases fl <;> exact hq
end

section
variable {prog : Program} {w : World} {A : Around} {s : Shared} {K : Frag} {p : Program} {loose : List Str} {mean : ExcName → Option Value} {mg mb : Str → Option Value}
  {name qual : Str} {params : Arguments} {body : List Stmt} {scope : Scope} {dV kV doc pm cdv ct oc : Value} {an od : Option Addr} {osl : Array (Option Value)} {f : Addr} {binds : List (Str × Value)} {Q E : Value → Shared → Prop}
  {pos : List Value} {kw : List (Str × Value)} {la : Addr} {o : Obj}
/-- a call that may change the one object at la -/
theorem enterM (hla : s.heap.get? la = some o) (X : K.In s.heap) (T : Top p loose mean mg mb s.heap) (hroom : A.depth < recursionLimit)
    (ho : K.lookup f = some ⟨oc, od, .func (fnOf name qual params body scope dV kV doc pm an cdv ct), osl⟩) (hcd : codeIn K cdv qual = true)
    (hbind : BindsTo s (fnOf name qual params body scope dV kV doc pm an cdv ct) ⟨pos, kw⟩ binds) (hloc : ∀ y ∈ binds, scope.names.lookup y.1 = some .local)
    (hco : scope.isCoroutine = false) (hgen : scope.isGenerator = false) (hk : scope.kind = .function) (hcell : ∀ x ∈ scope.names, x.2 ≠ .cell)
    (h : ∀ L h₁ tk, Fr (s.heap.hide la) L h₁ (fun y => binds.reverse.lookup y) → News (s.heap.hide la) L h₁ [(la, o)] →
      wpAny (model prog w) (A.deeper (envOf qual scope L f cdv)) (execs body (envOf qual scope L f cdv)) (fun fl s' => Q (flowVal fl) s') (fun _ _ => False) { s with heap := h₁, toks := tk }) :
    wpAny (model prog w) A (call (.ref f) pos kw) Q E s := by
  refine wpAny_call ?_
  refine codeAny_call_def (fd := fnOf name qual params body scope dV kV doc pm an cdv ct) (body := body) (binds := binds) hroom (X _ _ ho) rfl T.nolimit (codeRec_of X hcd) rfl hbind hcell hloc (fun h₁ hns hk₁ => ?_) hco hgen hk
  refine wpAny_mono (h s.heap.objs.size h₁ _ ⟨hns, fun b o e => hk₁ b o (Heap.of_hide e), Nat.le_of_eq (Heap.hide_size _ _)⟩ (fun p hp => ?_)) (fun fl s' hq => ?_) fun _ _ x => x.elim
  · rw [List.mem_singleton.mp hp]
    exact ⟨hk₁ _ _ hla, Nat.ne_of_lt (Heap.lt_size hla), Heap.hide_self _ _⟩
  · cases fl <;> exact hq
theorem hide_stays {g h : Heap} {L : Addr} {m : Str → Option Value} {rest : List (Addr × Obj)} (F : Fr g L h m) (N : News g L h ((la, o) :: rest)) : ∀ b x, g.get? b = some x → (h.hide la).get? b = some x := fun b x e => by
  have hne : b ≠ la := fun q => by
    have := (N _ (.head _)).2.2
    rw [← q, e] at this
    cases this
  rw [Heap.hide_ne _ hne]
  exact F.keep b x e
/-- back from such a call -/
theorem backM {g h h' : Heap} {L L' : Addr} {m m' : Str → Option Value} {o' : Obj} {rest : List (Addr × Obj)} (F : Fr g L h m) (N : News g L h ((la, o) :: rest)) (hr : ∀ p ∈ rest, p.1 ≠ la) (F' : Fr (h.hide la) L' h' m') (N' : News (h.hide la) L' h' [(la, o')]) :
    Fr g L h' m ∧ News g L h' ((la, o') :: rest) := by
  have st := hide_stays F N
  have hL : L ≠ la := fun q => (N _ (.head _)).2.1 q.symm
  obtain ⟨oL, es, ep, hL1, r⟩ := F.ns
  refine ⟨⟨⟨oL, es, ep, F'.keep _ _ ((Heap.hide_ne _ hL).trans hL1), r⟩, fun b x e => F'.keep b x (st b x e), F.above⟩, fun p hp => ?_⟩
  rcases List.mem_cons.mp hp with rfl | hp
  · exact ⟨(N' _ (.head _)).1, (N _ (.head _)).2⟩
  · have P := N p (.tail _ hp)
    exact ⟨F'.keep _ _ ((Heap.hide_ne _ (hr p hp)).trans P.1), P.2⟩
end

end Mine
namespace Mine
/-- a frame's map, its named places written out -/
def has (ps : List (Str × Value)) (m : Str → Option Value) : Prop := ∀ p ∈ ps, m p.1 = some p.2
theorem has.eq {ps : List (Str × Value)} {m : Str → Option Value} (h : has ps m) : kstB m ps = m := funext fun _ => kstB_eq h fun _ => rfl
theorem has.fr {g h : Heap} {L : Addr} {ps : List (Str × Value)} {m : Str → Option Value} (F : Fr g L h m) (hm : has ps m) : Fr g L h (kstB m ps) := by rw [hm.eq]; exact F
theorem has.nil {m : Str → Option Value} : has [] m := fun _ hp => nomatch hp
theorem has.cons {x : Str} {v : Value} {ps : List (Str × Value)} {m : Str → Option Value} (h : m x = some v) (r : has ps m) : has ((x, v) :: ps) m := fun p hp => by
  rcases List.mem_cons.mp hp with rfl | hp
  · exact h
  · exact r p hp
end Mine

namespace Mine
/-- behind a piece of a body: the frame, the ledger, what is said of the map and the heap -/
def Aft (g : Heap) (L : Addr) (s : Shared) (news : List (Addr × Obj)) (R : (Str → Option Value) → Heap → Prop) (s' : Shared) : Prop :=
  ∃ h' tk m', s' = { s with heap := h', toks := tk } ∧ Fr g L h' m' ∧ News g L h' news ∧ R m' h'
theorem Aft.mk {g : Heap} {L : Addr} {s : Shared} {news : List (Addr × Obj)} {R : (Str → Option Value) → Heap → Prop} {h' : Heap} {tk : Tok} {m' : Str → Option Value} (F : Fr g L h' m') (N : News g L h' news) (r : R m' h') :
    Aft g L s news R { s with heap := h', toks := tk } := ⟨h', tk, m', rfl, F, N, r⟩
end Mine
namespace Mine
/-- how a piece of a body ends: it goes on (the frame, the ledger, R), or it returns and the whole's Q holds -/
def Cut (Q : Flow → Shared → Prop) (g : Heap) (L : Addr) (s : Shared) (news : List (Addr × Obj)) (R : (Str → Option Value) → Heap → Prop) (fl : Flow) (s' : Shared) : Prop :=
  (fl = .next ∧ Aft g L s news R s') ∨ ((∃ v, fl = .ret v) ∧ Q fl s')
section
variable {Q : Flow → Shared → Prop} {g : Heap} {L : Addr} {s : Shared} {news : List (Addr × Obj)} {R : (Str → Option Value) → Heap → Prop}
theorem Cut.go {h' : Heap} {tk : Tok} {m' : Str → Option Value} (F : Fr g L h' m') (N : News g L h' news) (r : R m' h') : Cut Q g L s news R .next { s with heap := h', toks := tk } :=
  .inl ⟨rfl, h', tk, m', rfl, F, N, r⟩
theorem Cut.back {v : Value} {s' : Shared} (h : Q (.ret v) s') : Cut Q g L s news R (.ret v) s' := .inr ⟨⟨v, rfl⟩, h⟩

variable {prog : Program} {w : World} {A : Around} {E : Value → Shared → Prop} {env : Env} {h₀ : Heap} {tk₀ : Tok}
theorem execs_app (xs ys : List Stmt) : execs (xs ++ ys) env = (do match ← execs xs env with | .next => execs ys env | f => pure f) := by
  induction xs with
  | nil =>
    show execs ys env = _
    have e : execs [] env = (pure Flow.next : Sem Flow) := by rw [execs]
    rw [e, pure_bind]
  | cons x xs ih =>
    have e1 : ∀ zs, execs (x :: zs) env = (do match ← exec x env with | .next => execs zs env | f => pure f) := fun zs => by rw [execs]; rfl
    rw [List.cons_append, e1, e1, bind_assoc]
    congr 1
    funext fl
    cases fl <;> first | exact ih | rw [pure_bind]

theorem seqn (xs : List Stmt) {ys : List Stmt} (R : (Str → Option Value) → Heap → Prop) (h1 : wpAny (model prog w) A (execs xs env) (Cut Q g L s news R) E { s with heap := h₀, toks := tk₀ })
    (h2 : ∀ h' tk m', Fr g L h' m' → News g L h' news → R m' h' → wpAny (model prog w) A (execs ys env) Q E { s with heap := h', toks := tk }) :
    wpAny (model prog w) A (execs (xs ++ ys) env) Q E { s with heap := h₀, toks := tk₀ } := by
  rw [execs_app]
  refine wpAny_bind (wpAny_mono h1 (fun fl s' hc => ?_) fun _ _ x => x)
  rcases hc with ⟨rfl, h', tk, m', rfl, F, N, r⟩ | ⟨⟨v, rfl⟩, hq⟩
  · exact h2 h' tk m' F N r
  · exact wpAny_pure hq
theorem seq1 {a : Stmt} {ys : List Stmt} (R : (Str → Option Value) → Heap → Prop) (h1 : wpAny (model prog w) A (execs [a] env) (Cut Q g L s news R) E { s with heap := h₀, toks := tk₀ })
    (h2 : ∀ h' tk m', Fr g L h' m' → News g L h' news → R m' h' → wpAny (model prog w) A (execs ys env) Q E { s with heap := h', toks := tk }) :
    wpAny (model prog w) A (execs (a :: ys) env) Q E { s with heap := h₀, toks := tk₀ } := seqn [a] R h1 h2
theorem seq2 {a b : Stmt} {ys : List Stmt} (R : (Str → Option Value) → Heap → Prop) (h1 : wpAny (model prog w) A (execs [a, b] env) (Cut Q g L s news R) E { s with heap := h₀, toks := tk₀ })
    (h2 : ∀ h' tk m', Fr g L h' m' → News g L h' news → R m' h' → wpAny (model prog w) A (execs ys env) Q E { s with heap := h', toks := tk }) :
    wpAny (model prog w) A (execs (a :: b :: ys) env) Q E { s with heap := h₀, toks := tk₀ } := seqn [a, b] R h1 h2
theorem seq3 {a b c : Stmt} {ys : List Stmt} (R : (Str → Option Value) → Heap → Prop) (h1 : wpAny (model prog w) A (execs [a, b, c] env) (Cut Q g L s news R) E { s with heap := h₀, toks := tk₀ })
    (h2 : ∀ h' tk m', Fr g L h' m' → News g L h' news → R m' h' → wpAny (model prog w) A (execs ys env) Q E { s with heap := h', toks := tk }) :
    wpAny (model prog w) A (execs (a :: b :: c :: ys) env) Q E { s with heap := h₀, toks := tk₀ } := seqn [a, b, c] R h1 h2

/-- one statement, alone: its end -/
theorem one {a : Stmt} (h : wpAny (model prog w) A (exec a env) Q E s) : wpAny (model prog w) A (execs [a] env) Q E s := by
  have e1 : execs [a] env = (do match ← exec a env with | .next => execs [] env | f => pure f) := by rw [execs]; rfl
  rw [e1]
  refine wpAny_bind (wpAny_mono h (fun fl s' hq => ?_) fun _ _ x => x)
  cases fl <;> first | exact wpAny_pure hq | (rw [execs]; exact wpAny_pure hq)
end
end Mine

namespace Mine
section
variable {Q : Flow → Shared → Prop} {g : Heap} {L : Addr} {s : Shared} {news : List (Addr × Obj)} {R : (Str → Option Value) → Heap → Prop}
  {prog : Program} {w : World} {A : Around} {E : Value → Shared → Prop} {env : Env} {h₀ : Heap} {tk₀ : Tok}
theorem whileR {test : Expr} {body : List Stmt} {pos : Pos} {m₀ : Str → Option Value} {n₀ : Nat} (I : Nat → (Str → Option Value) → Prop) (F : Fr g L h₀ m₀) (N : News g L h₀ news) (h0 : I n₀ m₀)
    (turn : ∀ n m h tk, Fr g L h m → News g L h news → I n m → wpAny (model prog w) A (isTrue test env (eval test env)) (fun b s₂ =>
      if b = true then wpAny (model prog w) A (execs body env) (Cut (fun _ _ => False) g L s news (fun m' _ => ∃ n', n' < n ∧ I n' m')) E s₂ else Aft g L s news R s₂) E { s with heap := h, toks := tk })
    (hE : PassesOwn (model prog w) A env E := by passes_own) :
    wpAny (model prog w) A (exec (.While test body [] pos) env) (Cut Q g L s news R) E { s with heap := h₀, toks := tk₀ } := by
  refine While_inv2 (s := { s with heap := h₀, toks := tk₀ }) (fun n m nx => nx = news ∧ I n m) F N ⟨rfl, h0⟩ ?_ hE
  rintro n m nx h tk F1 N1 ⟨rfl, hI⟩
  refine wpAny_mono (turn n m h tk F1 N1 hI) (fun b s₂ q => ?_) fun _ _ x => x
  cases b with
  | false =>
    simp only [Bool.false_eq_true, if_false] at q ⊢
    exact .inl ⟨rfl, q⟩
  | true =>
    simp only [if_true] at q ⊢
    refine wpAny_mono q (fun fl s₃ c => ?_) fun _ _ x => x
    rcases c with ⟨rfl, h', tk', m', rfl, F', N', n', hn, hI'⟩ | ⟨_, hF⟩
    · exact ⟨h', tk', m', _, n', rfl, F', N', hn, rfl, hI'⟩
    · exact hF.elim
end
end Mine

theorem Mine.has.append {ps qs : List (Str × Value)} {m : Str → Option Value} (h : Mine.has ps m) (k : Mine.has qs m) : Mine.has (ps ++ qs) m := fun p hp => (List.mem_append.mp hp).elim (h p) (k p)
end
section
open PySem PySem.W PyProof.Rows PySem.Calls
namespace Mine

def ofL (l : List Nat) : Str := ⟨l.toArray⟩
theorem ofL_inj {a b : List Nat} : ofL a = ofL b ↔ a = b := by
  constructor
  · intro h
    have := congrArg (fun x => x.cps.toList) h
    simpa [ofL] using this
  · rintro rfl; rfl
theorem ofL_len (l : List Nat) : (ofL l).length = l.length := by simp [ofL, Str.length]
theorem ofL_cps (l : List Nat) : (ofL l).cps.toList = l := by simp [ofL]
theorem ofL_eta (x : Str) : x = ofL x.cps.toList := by cases x; simp [ofL]
theorem ofL_beq (a b : List Nat) : (ofL a == ofL b) = decide (a = b) := by
  rw [Bool.eq_iff_iff, beq_iff_eq, ofL_inj, decide_eq_true_iff]

theorem slice_from (l : List Nat) {k : Int} (h0 : 0 ≤ k) (h1 : k ≤ l.length) : Txt.slice (ofL l) (some k) none = ofL (l.drop k.toNat) := by
  rw [slice_from_eq (b := ((ofL l).length : Int)) h0 (by rw [ofL_len]; exact h1) rfl, ofL_cps, ofL_len]
  unfold ofL
  congr 2
  rw [List.take_of_length_le]
  rw [List.length_drop]
  omega
theorem slice_to (l : List Nat) {j : Int} (h0 : j < 0) (h1 : -(l.length : Int) ≤ j) : Txt.slice (ofL l) none (some j) = ofL (l.take (l.length + j).toNat) := by
  have := slice_closes_to_neg (x := ofL l) (j := j) (k := j + (ofL l).length) h0 (by rw [ofL_len]; exact h1) rfl
  rw [beq_iff_eq.mp this, ofL_cps, ofL_len]
  unfold ofL
  congr 2
  simp only [Int.toNat_zero, List.drop_zero]
  congr 1
  omega
theorem slice_all (x : Str) : Txt.slice x none none = x := by
  have e : (Builtin.Str.strSliceIndices none none 1 x.length).length = x.length := by
    have h := sliceRange_one 0 x.length
    simp [Builtin.Str.strSliceIndices]
    have h2 : sliceRange 0 (x.length : Int) 1 = (List.range (x.length - 0)).map (0 + ·) := h
    rw [h2]
    simp
  unfold Txt.slice
  rw [e]
  simp
theorem item_at (l : List Nat) {k : Int} (h0 : 0 ≤ k) (h1 : k < l.length) : Txt.item (ofL l) k = ofL [l.getD k.toNat 0] := by
  have := item_closes (x := ofL l) (i := k) ⟨h0, by rw [ofL_len]; exact h1⟩
  rw [beq_iff_eq.mp this]
  simp [ofL]
theorem item_neg (l : List Nat) {k : Int} (h0 : k < 0) (h1 : -(l.length : Int) ≤ k) : Txt.item (ofL l) k = ofL [l.getD (l.length + k).toNat 0] := by
  have := item_closes_neg (x := ofL l) (i := k) h0 (by rw [ofL_len]; exact h1) rfl
  rw [beq_iff_eq.mp this, ofL_len]
  have e : (k + (l.length : Int)).toNat = (l.length + k).toNat := by congr 1; omega
  rw [e]
  simp [ofL]

def cpl : List Nat → List Nat → Nat
  | x :: xs, y :: ys => if x = y then cpl xs ys + 1 else 0
  | _, _ => 0
theorem cpl_nil_l (b : List Nat) : cpl [] b = 0 := by cases b <;> rfl
theorem cpl_nil_r (a : List Nat) : cpl a [] = 0 := by cases a <;> rfl
theorem cpl_le_l : ∀ a b : List Nat, cpl a b ≤ a.length
  | [], b => by simp [cpl_nil_l]
  | x :: xs, [] => by simp [cpl_nil_r]
  | x :: xs, y :: ys => by
    have := cpl_le_l xs ys
    simp only [cpl, List.length_cons]
    split <;> omega
theorem cpl_comm : ∀ a b : List Nat, cpl a b = cpl b a
  | [], b => by simp [cpl_nil_l, cpl_nil_r]
  | x :: xs, [] => by simp [cpl_nil_l, cpl_nil_r]
  | x :: xs, y :: ys => by
    simp only [cpl]
    rw [cpl_comm xs ys]
    by_cases h : x = y
    · subst h; rfl
    · rw [if_neg h, if_neg (Ne.symm h)]
theorem cpl_le_r (a b : List Nat) : cpl a b ≤ b.length := by rw [cpl_comm]; exact cpl_le_l b a
theorem drop_cons (l : List Nat) (k : Nat) (h : k < l.length) : l.drop k = l.getD k 0 :: l.drop (k + 1) := by
  rw [List.drop_eq_getElem_cons h]
  congr 1
  simp [List.getD_eq_getElem?_getD, List.getElem?_eq_getElem h]

section
variable {la lb : List Nat} {k : Int} {N : Nat}
theorem pre_go (h0 : 0 ≤ k) (hka : k ≤ la.length) (hkb : k ≤ lb.length) (hc : k + cpl (la.drop k.toNat) (lb.drop k.toNat) = (N : Int))
    (ha : ((Txt.slice (ofL la) (some k) none).length : Int) ≠ 0) (hb : ((Txt.slice (ofL lb) (some k) none).length : Int) ≠ 0) (he : (Txt.item (ofL la) k == Txt.item (ofL lb) k) = true) :
    k + 1 ≤ la.length ∧ k + 1 ≤ lb.length ∧ (k + 1) + cpl (la.drop (k + 1).toNat) (lb.drop (k + 1).toNat) = (N : Int) := by
  rw [slice_from la h0 hka, ofL_len, List.length_drop] at ha
  rw [slice_from lb h0 hkb, ofL_len, List.length_drop] at hb
  have h1 : k < la.length := by omega
  have h2 : k < lb.length := by omega
  rw [item_at la h0 h1, item_at lb h0 h2, ofL_beq, decide_eq_true_iff] at he
  have he' : la.getD k.toNat 0 = lb.getD k.toNat 0 := by simpa using he
  refine ⟨by omega, by omega, ?_⟩
  rw [drop_cons la k.toNat (by omega), drop_cons lb k.toNat (by omega)] at hc
  simp only [cpl, he', if_true] at hc
  have e : (k + 1).toNat = k.toNat + 1 := by omega
  rw [e]
  push_cast at hc
  omega
theorem pre_stop_a (h0 : 0 ≤ k) (hka : k ≤ la.length) (hc : k + cpl (la.drop k.toNat) (lb.drop k.toNat) = (N : Int))
    (ha : ((Txt.slice (ofL la) (some k) none).length : Int) = 0) : k = N := by
  rw [slice_from la h0 hka, ofL_len, List.length_drop] at ha
  have : la.drop k.toNat = [] := List.drop_eq_nil_of_le (by omega)
  rw [this, cpl_nil_l] at hc
  omega
theorem pre_stop_b (h0 : 0 ≤ k) (hkb : k ≤ lb.length) (hc : k + cpl (la.drop k.toNat) (lb.drop k.toNat) = (N : Int))
    (hb : ((Txt.slice (ofL lb) (some k) none).length : Int) = 0) : k = N := by
  rw [slice_from lb h0 hkb, ofL_len, List.length_drop] at hb
  have : lb.drop k.toNat = [] := List.drop_eq_nil_of_le (by omega)
  rw [this, cpl_nil_r] at hc
  omega
theorem pre_stop_c (h0 : 0 ≤ k) (hka : k ≤ la.length) (hkb : k ≤ lb.length) (hc : k + cpl (la.drop k.toNat) (lb.drop k.toNat) = (N : Int))
    (ha : ((Txt.slice (ofL la) (some k) none).length : Int) ≠ 0) (hb : ((Txt.slice (ofL lb) (some k) none).length : Int) ≠ 0) (he : (Txt.item (ofL la) k == Txt.item (ofL lb) k) = false) : k = N := by
  rw [slice_from la h0 hka, ofL_len, List.length_drop] at ha
  rw [slice_from lb h0 hkb, ofL_len, List.length_drop] at hb
  have h1 : k < la.length := by omega
  have h2 : k < lb.length := by omega
  rw [item_at la h0 h1, item_at lb h0 h2, ofL_beq, decide_eq_false_iff_not] at he
  have he' : la.getD k.toNat 0 ≠ lb.getD k.toNat 0 := by simpa using he
  rw [drop_cons la k.toNat (by omega), drop_cons lb k.toNat (by omega)] at hc
  simp only [cpl, he', if_false] at hc
  omega
end

theorem rev_getD (l : List Nat) (j : Nat) (h : j < l.length) : l.reverse.getD j 0 = l.getD (l.length - 1 - j) 0 := by
  rw [List.getD_eq_getElem?_getD, List.getD_eq_getElem?_getD, List.getElem?_reverse h]
section
variable {xa xb : List Nat} {k : Int} {N : Nat}
theorem post_item {l : List Nat} {k : Int} (h0 : k ≤ 0) (h1 : -(l.length : Int) < k) : Txt.item (ofL l) (k - 1) = ofL [l.reverse.getD (-k).toNat 0] := by
  rw [item_neg l (by omega) (by omega), rev_getD l _ (by omega)]
  have e : ((l.length : Int) + (k - 1)).toNat = l.length - 1 - (-k).toNat := by omega
  rw [e]
theorem post_go (h0 : k ≤ 0) (hka : -(xa.length : Int) < k) (hkb : -(xb.length : Int) < k) (hc : -k + cpl (xa.reverse.drop (-k).toNat) (xb.reverse.drop (-k).toNat) = (N : Int))
    (he : (Txt.item (ofL xa) (k - 1) == Txt.item (ofL xb) (k - 1)) = true) : -(k - 1) + cpl (xa.reverse.drop (-(k - 1)).toNat) (xb.reverse.drop (-(k - 1)).toNat) = (N : Int) := by
  rw [post_item h0 hka, post_item h0 hkb, ofL_beq, decide_eq_true_iff] at he
  have he' : xa.reverse.getD (-k).toNat 0 = xb.reverse.getD (-k).toNat 0 := by simpa using he
  rw [drop_cons xa.reverse (-k).toNat (by rw [List.length_reverse]; omega), drop_cons xb.reverse (-k).toNat (by rw [List.length_reverse]; omega)] at hc
  simp only [cpl, he', if_true] at hc
  have e : (-(k - 1)).toNat = (-k).toNat + 1 := by omega
  rw [e]
  push_cast at hc
  omega
theorem post_stop_c (h0 : k ≤ 0) (hka : -(xa.length : Int) < k) (hkb : -(xb.length : Int) < k) (hc : -k + cpl (xa.reverse.drop (-k).toNat) (xb.reverse.drop (-k).toNat) = (N : Int))
    (he : (Txt.item (ofL xa) (k - 1) == Txt.item (ofL xb) (k - 1)) = false) : k = -(N : Int) := by
  rw [post_item h0 hka, post_item h0 hkb, ofL_beq, decide_eq_false_iff_not] at he
  have he' : xa.reverse.getD (-k).toNat 0 ≠ xb.reverse.getD (-k).toNat 0 := by simpa using he
  rw [drop_cons xa.reverse (-k).toNat (by rw [List.length_reverse]; omega), drop_cons xb.reverse (-k).toNat (by rw [List.length_reverse]; omega)] at hc
  simp only [cpl, he', if_false] at hc
  omega
theorem post_stop_a (h0 : k ≤ 0) (hka : k = -(xa.length : Int)) (hc : -k + cpl (xa.reverse.drop (-k).toNat) (xb.reverse.drop (-k).toNat) = (N : Int)) : k = -(N : Int) := by
  have : xa.reverse.drop (-k).toNat = [] := List.drop_eq_nil_of_le (by rw [List.length_reverse]; omega)
  rw [this, cpl_nil_l] at hc
  omega
theorem post_stop_b (h0 : k ≤ 0) (hkb : k = -(xb.length : Int)) (hc : -k + cpl (xa.reverse.drop (-k).toNat) (xb.reverse.drop (-k).toNat) = (N : Int)) : k = -(N : Int) := by
  have : xb.reverse.drop (-k).toNat = [] := List.drop_eq_nil_of_le (by rw [List.length_reverse]; omega)
  rw [this, cpl_nil_r] at hc
  omega
end
theorem take_len (l : List Nat) {k : Int} (h0 : k ≤ 0) (h1 : -(l.length : Int) ≤ k) : ((l.take ((l.length : Int) + k).toNat).length : Int) = l.length + k := by
  rw [List.length_take]; omega

section
open PySem.Calls
variable {prog : Program} {w : World} {A : Around} {E : Value → Shared → Prop} {s : Shared} {h₀ : Heap} {L : Addr} {m : Str → Option Value} {news : List (Addr × Obj)} {Q : Value → Shared → Prop} {value slice : Expr} {l : List Nat} {t : Tok}
/-- x[:None] -/
theorem my_slice_nn (hF : Fr h₀ L s.heap m) (hN : News h₀ L s.heap news) (hl : l.length ≤ 40) (h : ∀ h' t' k, Fr h₀ L h' m → News h₀ L h' news → Q (.str (ofL l) t') { s with heap := h', toks := k })
    (hs : subscripted slice false (.str (ofL l) t) (.ref s.heap.objs.size) = operate [.ref s.heap.objs.size, .str (ofL l) t] (getItem (.str (ofL l) t) (.ref s.heap.objs.size)) := by with_unfolding_all rfl)
    (ht : ∀ r, letTemporaryGo value (.str (ofL l) t) r = pure () := by intro _; with_unfolding_all rfl) :
    wpAny (model prog w) A (subscriptTail value slice (.str (ofL l) t) (.ref s.heap.objs.size)) Q E { s with heap := s.heap.push { cls := .type "slice", data := .fields #[.none, .none, .none] } } :=
  slice_strN_nn hF hN (fun h' t' k a b => by rw [slice_all]; exact h h' t' k a b) hs ht (by rw [ofL_len, sizeLine_eq]; omega)
/-- x[:j], j below nought, in bounds -/
theorem my_slice_to {j : Int} {uj : Tok} (hF : Fr h₀ L s.heap m) (hN : News h₀ L s.heap news) (hl : l.length ≤ 40) (h0 : j < 0) (h1 : -(l.length : Int) ≤ j)
    (h : ∀ h' t' k, Fr h₀ L h' m → News h₀ L h' news → ((ofL (l.take ((l.length : Int) + j).toNat)).length : Int) = l.length + j → Q (.str (ofL (l.take ((l.length : Int) + j).toNat)) t') { s with heap := h', toks := k })
    (hs : subscripted slice false (.str (ofL l) t) (.ref s.heap.objs.size) = operate [.ref s.heap.objs.size, .str (ofL l) t] (getItem (.str (ofL l) t) (.ref s.heap.objs.size)) := by with_unfolding_all rfl)
    (ht : ∀ r, letTemporaryGo value (.str (ofL l) t) r = pure () := by intro _; with_unfolding_all rfl) :
    wpAny (model prog w) A (subscriptTail value slice (.str (ofL l) t) (.ref s.heap.objs.size)) Q E { s with heap := s.heap.push { cls := .type "slice", data := .fields #[.none, .int j uj, .none] } } :=
  slice_strN_ns hF hN (fun h' t' k a b => by rw [slice_to l h0 h1]; exact h h' t' k a b (by rw [ofL_len]; exact take_len l (by omega) h1)) hs ht (by rw [ofL_len, sizeLine_eq]; omega)
end
end Mine
end
section
open PySem PySem.W PyProof.Rows PySem.Calls
set_option maxRecDepth 100000
namespace Mine
section
variable {prog : Program} {w : World} {A : Around} {E : Value → Shared → Prop} {s : Shared} {env : Env} {g : Heap} {L : Addr} {m : Str → Option Value} {news : List (Addr × Obj)}

theorem my_list_range {r : Addr} {a b c : Int} {t u v : Tok} {n : Nat} {Q : Value → Shared → Prop} (hh : A.handled = none) (F : Fr g L s.heap m) (N : News g L s.heap news) (hr : IsRange s.heap r a b c t u v)
    (hsmall : Builtin.Range.small a b c = true) (hn : Builtin.Range.rangeSize a b c = n) (hlen : n ≤ 2 ^ 24)
    (hQ : ∀ h' tk D vs k, Fr g L h' m → News g L h' ((D, W.listOf vs.toArray k) :: news) → IntsAre vs (rangeInts a c n) → Q (.ref D) { s with heap := h', toks := tk }) :
    wpAny (model prog w) A (call (.type "list") [.ref r]) Q E s := by
  refine call_list_range hh hr hsmall hn hlen fun h' tk acc' c' hk hS' hacc => ?_
  refine hQ h' tk s.heap.objs.size acc'.toList c' (Fr.after F hk) (fun p hp => ?_) ?_
  · rcases List.mem_cons.mp hp with rfl | hp
    · refine ⟨by simpa [W.listOf] using hS', Nat.ne_of_gt F.ns.lt, ?_⟩
      cases e : g.get? s.heap.objs.size with
      | none => rfl
      | some o => exact absurd (Heap.lt_size (F.keep _ _ e)) (Nat.lt_irrefl _)
    · exact ⟨hk _ _ (N p hp).1, (N p hp).2⟩
  · have key : ∀ (l : List Value) (ns : List Int), l.length = ns.length → (∀ (j : Nat) (v : Value) (k : Int), l[j]? = some v → ns[j]? = some k → ∃ t, v = .int k t) → IntsAre l ns := by
      intro l
      induction l with
      | nil => intro ns hl _; cases ns with
        | nil => exact .nil
        | cons _ _ => simp at hl
      | cons v l ih =>
        intro ns hl hj
        cases ns with
        | nil => simp at hl
        | cons k ns =>
          obtain ⟨t, rfl⟩ := hj 0 v k rfl rfl
          exact .cons k t (ih ns (by simpa using hl) fun j v' k' h1 h2 => hj (j + 1) v' k' (by simpa using h1) (by simpa using h2))
    refine key _ _ (by simp [hacc.1, rangeInts_length]) fun j v k h1 h2 => ?_
    have hj : j < n := by
      have := (List.getElem?_eq_some_iff.mp h2).1
      rwa [rangeInts_length] at this
    rw [rangeInts_get hj] at h2
    cases h2
    exact hacc.2 j v (by simpa using h1)

/-- how a turn of a for ends -/
def Turn (Q : Flow → Shared → Prop) (g : Heap) (L : Addr) (s : Shared) (adr : List Addr) (own : List (Addr × Obj)) (J : (Str → Option Value) → List (Addr × Obj) → Prop) (fl : Flow) (s' : Shared) : Prop :=
  (fl = .next ∧ ∃ h' tk m' nx, s' = { s with heap := h', toks := tk } ∧ Fr g L h' m' ∧ News g L h' (nx ++ own) ∧ nx.map (·.1) = adr ∧ J m' nx) ∨ ((∃ v, fl = .ret v) ∧ Q fl s')
theorem Turn.go {Q : Flow → Shared → Prop} {s : Shared} {adr : List Addr} {own : List (Addr × Obj)} {J : (Str → Option Value) → List (Addr × Obj) → Prop} {h' : Heap} {tk : Tok} {m' : Str → Option Value} {nx : List (Addr × Obj)}
    (F : Fr g L h' m') (N : News g L h' (nx ++ own)) (ha : nx.map (·.1) = adr) (r : J m' nx) : Turn Q g L s adr own J .next { s with heap := h', toks := tk } := .inl ⟨rfl, h', tk, m', nx, rfl, F, N, ha, r⟩
theorem Turn.back {Q : Flow → Shared → Prop} {s : Shared} {adr : List Addr} {own : List (Addr × Obj)} {J : (Str → Option Value) → List (Addr × Obj) → Prop} {v : Value} {s' : Shared} (h : Q (.ret v) s') : Turn Q g L s adr own J (.ret v) s' := .inr ⟨⟨v, rfl⟩, h⟩

/-- behind a loop, the ledger named by what is said of it -/
def CutN (Q : Flow → Shared → Prop) (g : Heap) (L : Addr) (s : Shared) (R : (Str → Option Value) → List (Addr × Obj) → Prop) (fl : Flow) (s' : Shared) : Prop :=
  (fl = .next ∧ ∃ h' tk m' nx, s' = { s with heap := h', toks := tk } ∧ Fr g L h' m' ∧ News g L h' nx ∧ R m' nx) ∨ ((∃ v, fl = .ret v) ∧ Q fl s')

theorem forRange {x : Str} {px pos : Pos} {iter : Expr} {body : List Stmt} {Q : Flow → Shared → Prop} {R : (Str → Option Value) → List (Addr × Obj) → Prop} {h₀ : Heap} {tk₀ : Tok} (hh : A.handled = none) (n : Nat) (I : Nat → (Str → Option Value) → List (Addr × Obj) → Prop) (hx : env.kindOf x = some .local)
    (hp : (env.scope.kind == .class || (env.scope.kind == .module && env.locals != env.globals)) = false)
    (hiter : wpAny (model prog w) A (eval iter env) (fun v s₁ => ∃ r t u v' h tk m, v = .ref r ∧ s₁ = { s with heap := h, toks := tk } ∧ IsRange h r 0 n 1 t u v' ∧ Fr g env.locals h m ∧ News g env.locals h news ∧ I 0 m news) E { s with heap := h₀, toks := tk₀ })
    (hn : n < 2 ^ 60)
    (turn : ∀ i t m₁ nx h tk own, i < n → nx.map (·.1) = news.map (·.1) → OwnOff own (news.map (·.1)) → I i m₁ nx → Fr g env.locals h (fun y => if y = x then some (.int i t) else m₁ y) → News g env.locals h (nx ++ own) →
      wpAny (model prog w) A (execs body env) (Turn Q g env.locals s (news.map (·.1)) own (I (i + 1))) E { s with heap := h, toks := tk })
    (done : ∀ m nx, I n m nx → R m nx)
    (hs : ∀ x, foldedSetIterable iter env x = pure x := by intro _; rfl)
    (hE : PassesOwn (model prog w) A env E := by passes_own) :
    wpAny (model prog w) A (exec (.For (.Name x px) iter body [] pos) env) (CutN Q g env.locals s R) E { s with heap := h₀, toks := tk₀ } := by
  refine For_invV g hx hp (wpAny_mono hiter (fun v s₁ hv => ?_) fun _ _ e => e) hs hE
  obtain ⟨r, t, u, v', h, tk, m, rfl, rfl, hr, F, N, hI⟩ := hv
  have hsmall : Builtin.Range.small 0 (n : Int) 1 = true := by
    have e : Builtin.Range.rangeSize 0 (n : Int) 1 = (n : Int) := by
      unfold Builtin.Range.rangeSize
      by_cases h0 : (0 : Int) < n
      · simp only [h0, if_true]; simp
      · simp only [h0, if_false]; simp; omega
    simp [Builtin.Range.small, Builtin.Range.rangeFitsLong, e]
    omega
  have hsz : Builtin.Range.rangeSize 0 (n : Int) 1 = (n : Int) := by
    unfold Builtin.Range.rangeSize
    by_cases h0 : (0 : Int) < n
    · simp only [h0, if_true]; simp
    · simp only [h0, if_false]; simp; omega
  refine wpAny_pyIter_range hr hsmall ?_
  have W : Walks prog w A h.objs.size [h.objs.size] [h.objs.size] n (fun i v => i < n ∧ ∃ t, v = .int (0 + (i : Int) * 1) t)
      (fun i h' => IsRangeIter h' h.objs.size (0 + (i : Nat) * 1) ((n : Int) - (i : Nat)) 1) := (Walks.range hh _ 0 1 n).bound
  refine loop_invN (fun i m nx => I i m nx) W ?_ ?_ ?_ ?_ (by show IsRangeIter _ _ _ _ _; rw [hsz]; simpa using Heap.get?_push_size _ rfl) (F.push _) (fun p hp => ⟨Heap.get?_push_of_some _ (N p hp).1, (N p hp).2⟩) hI ?_ ?_
  · intro hm
    exact absurd F.ns.lt ((List.mem_singleton.mp hm) ▸ Nat.lt_irrefl _)
  · intro b hb
    rw [List.mem_singleton.mp hb]
    exact next_is_new F
  · intro p hp hI
    exact absurd (Heap.lt_size (N p hp).1) ((List.mem_singleton.mp hI) ▸ Nat.lt_irrefl _)
  · intro p hp hI
    exact absurd (Heap.lt_size (N p hp).1) ((List.mem_singleton.mp hI) ▸ Nat.lt_irrefl _)
  · rintro i v m₁ nx h tk own hi ⟨_, t, rfl⟩ hadr hoff hI' F₁ N₁
    have e1 : (0 : Int) + (i : Int) * 1 = (i : Int) := by omega
    rw [e1] at F₁
    refine wpAny_mono (turn i t m₁ nx h tk own hi hadr hoff hI' F₁ N₁) (fun fl s' c => ?_) fun _ _ e => e
    rcases c with ⟨rfl, h', tk', m', nx', rfl, F', N', ha, hI''⟩ | ⟨⟨v, rfl⟩, hq⟩
    · exact ⟨h', tk', m', nx' ++ own, nx', rfl, F', N', fun p hp => List.mem_append.mpr (.inl hp), fun p hp => List.mem_append.mpr (.inr hp), ha, hI''⟩
    · exact .inr ⟨⟨v, rfl⟩, hq⟩
  · rintro m₁ nx h tk hI' F₁ N₁
    exact .inl ⟨rfl, h, tk, m₁, nx, rfl, F₁, N₁, done _ _ hI'⟩

theorem CutN.go {Q : Flow → Shared → Prop} {s : Shared} {R : (Str → Option Value) → List (Addr × Obj) → Prop} {h' : Heap} {tk : Tok} {m' : Str → Option Value} {nx : List (Addr × Obj)} (F : Fr g L h' m') (N : News g L h' nx) (r : R m' nx) : CutN Q g L s R .next { s with heap := h', toks := tk } :=
  .inl ⟨rfl, h', tk, m', nx, rfl, F, N, r⟩
theorem CutN.back {Q : Flow → Shared → Prop} {s s' : Shared} {R : (Str → Option Value) → List (Addr × Obj) → Prop} {v : Value} (h : Q (.ret v) s') : CutN Q g L s R (.ret v) s' := .inr ⟨⟨v, rfl⟩, h⟩
theorem seqnN {Q : Flow → Shared → Prop} {h₀ : Heap} {tk₀ : Tok} (xs : List Stmt) {ys : List Stmt} (R : (Str → Option Value) → List (Addr × Obj) → Prop) (h1 : wpAny (model prog w) A (execs xs env) (CutN Q g L s R) E { s with heap := h₀, toks := tk₀ })
    (h2 : ∀ h' tk m' nx, Fr g L h' m' → News g L h' nx → R m' nx → wpAny (model prog w) A (execs ys env) Q E { s with heap := h', toks := tk }) :
    wpAny (model prog w) A (execs (xs ++ ys) env) Q E { s with heap := h₀, toks := tk₀ } := by
  rw [execs_app]
  refine wpAny_bind (wpAny_mono h1 (fun fl s' hc => ?_) fun _ _ x => x)
  rcases hc with ⟨rfl, h', tk, m', nx, rfl, F, N, r⟩ | ⟨⟨v, rfl⟩, hq⟩
  · exact h2 h' tk m' nx F N r
  · exact wpAny_pure hq
theorem seqN1 {Q : Flow → Shared → Prop} {h₀ : Heap} {tk₀ : Tok} {a : Stmt} {ys : List Stmt} (R : (Str → Option Value) → List (Addr × Obj) → Prop) (h1 : wpAny (model prog w) A (execs [a] env) (CutN Q g L s R) E { s with heap := h₀, toks := tk₀ })
    (h2 : ∀ h' tk m' nx, Fr g L h' m' → News g L h' nx → R m' nx → wpAny (model prog w) A (execs ys env) Q E { s with heap := h', toks := tk }) :
    wpAny (model prog w) A (execs (a :: ys) env) Q E { s with heap := h₀, toks := tk₀ } := seqnN [a] R h1 h2
theorem seqN2 {Q : Flow → Shared → Prop} {h₀ : Heap} {tk₀ : Tok} {a b : Stmt} {ys : List Stmt} (R : (Str → Option Value) → List (Addr × Obj) → Prop) (h1 : wpAny (model prog w) A (execs [a, b] env) (CutN Q g L s R) E { s with heap := h₀, toks := tk₀ })
    (h2 : ∀ h' tk m' nx, Fr g L h' m' → News g L h' nx → R m' nx → wpAny (model prog w) A (execs ys env) Q E { s with heap := h', toks := tk }) :
    wpAny (model prog w) A (execs (a :: b :: ys) env) Q E { s with heap := h₀, toks := tk₀ } := seqnN [a, b] R h1 h2

theorem evens_small (n : Nat) (hn : n < 2 ^ 60) : Builtin.Range.small 2 (2 * ((n : Int) + 1)) 2 = true ∧ Builtin.Range.rangeSize 2 (2 * ((n : Int) + 1)) 2 = n := by
  have e : Builtin.Range.rangeSize 2 (2 * ((n : Int) + 1)) 2 = (n : Int) := by
    unfold Builtin.Range.rangeSize
    by_cases h0 : (2 : Int) < 2 * ((n : Int) + 1)
    · simp only [h0, if_true]; simp; omega
    · simp only [h0, if_false]; simp; omega
  refine ⟨?_, e⟩
  simp [Builtin.Range.small, Builtin.Range.rangeFitsLong, e]
  omega

/-- one row of the table -/
def stepIn (bch : Nat) : List Nat → List Int → Int → Int → Int → List Int × Int × Int
  | a :: as, r :: rs, dist, res, mn =>
    let sub := dist + (if bch = a then 0 else 2)
    let ins := (if r < res then r else res) + 2
    let res' := if sub < ins then sub else ins
    let rest := stepIn bch as rs r res' (if res' < mn then res' else mn)
    (res' :: rest.1, rest.2)
  | _, rs, _, res, mn => (rs, res, mn)
/-- the rows -/
def stepOut (as : List Nat) (c : Int) : List Nat → Int → List Int → Int → Int
  | [], _, _, res => res
  | b :: bs, i, row, _ =>
    let t := stepIn b as row (i * 2) (i * 2) 9223372036854775807
    if t.2.2 > c then c + 1 else stepOut as c bs (i + 1) t.1 t.2.1
def levCore (la lb : List Nat) (c : Int) : Int :=
  if la = [] ∨ lb = [] then 2 * ((la.length : Int) + lb.length) else
    let x := if lb.length < la.length then lb else la
    let y := if lb.length < la.length then la else lb
    if ((y.length : Int) - x.length) * 2 > c then c + 1 else stepOut x c y 0 (rangeInts 2 2 x.length) 0
def levPost (la lb : List Nat) (c : Int) : Int := levCore (la.take (la.length - cpl la.reverse lb.reverse)) (lb.take (lb.length - cpl la.reverse lb.reverse)) c
def levF (la lb : List Nat) (c : Int) : Int := if la = lb then 0 else levPost (la.drop (cpl la lb)) (lb.drop (cpl la lb)) c

def RangeAt (g : Heap) (L : Addr) (s : Shared) (news : List (Addr × Obj)) (n : Nat) (J : (Str → Option Value) → Prop) (v : Value) (s₁ : Shared) : Prop :=
  ∃ r t u v' h tk m, v = .ref r ∧ s₁ = { s with heap := h, toks := tk } ∧ IsRange h r 0 n 1 t u v' ∧ Fr g L h m ∧ News g L h news ∧ J m
theorem RangeAt.mk {n : Nat} {J : (Str → Option Value) → Prop} {r : Addr} {t u v' : Tok} {h : Heap} {tk : Tok} (hr : IsRange h r 0 n 1 t u v') (F : Fr g L h m) (N : News g L h news) (hJ : J m) : RangeAt g L s news n J (.ref r) { s with heap := h, toks := tk } :=
  ⟨r, t, u, v', h, tk, m, rfl, rfl, hr, F, N, hJ⟩
theorem forR {x : Str} {px pos : Pos} {iter : Expr} {body : List Stmt} {Q : Flow → Shared → Prop} {R : (Str → Option Value) → List (Addr × Obj) → Prop} {h₀ : Heap} {tk₀ : Tok} (hL : env.locals = L) (hh : A.handled = none) (n : Nat) (I : Nat → (Str → Option Value) → List (Addr × Obj) → Prop) (hx : env.kindOf x = some .local)
    (hp : (env.scope.kind == .class || (env.scope.kind == .module && env.locals != env.globals)) = false)
    (hiter : wpAny (model prog w) A (eval iter env) (RangeAt g L s news n (fun m => I 0 m news)) E { s with heap := h₀, toks := tk₀ })
    (hn : n < 2 ^ 60)
    (turn : ∀ i t m₁ nx h tk own, i < n → nx.map (·.1) = news.map (·.1) → OwnOff own (news.map (·.1)) → I i m₁ nx → Fr g L h (fun y => if y = x then some (.int i t) else m₁ y) → News g L h (nx ++ own) →
      wpAny (model prog w) A (execs body env) (Turn Q g L s (news.map (·.1)) own (I (i + 1))) E { s with heap := h, toks := tk })
    (done : ∀ m nx, I n m nx → R m nx)
    (hs : ∀ x, foldedSetIterable iter env x = pure x := by intro _; rfl)
    (hE : PassesOwn (model prog w) A env E := by passes_own) :
    wpAny (model prog w) A (exec (.For (.Name x px) iter body [] pos) env) (CutN Q g L s R) E { s with heap := h₀, toks := tk₀ } := by
  subst hL
  exact forRange hh n I hx hp (wpAny_mono hiter (fun _ _ h => h) fun _ _ e => e) hn turn done hs hE
theorem forBind {x : Str} {v : Value} {m₁ : Str → Option Value} {ps : List (Str × Value)} (h : (ps.map (·.1)).contains x = false) (hm : has ps m₁) : has ((x, v) :: ps) (fun y => if y = x then some v else m₁ y) := by
  refine has.cons (by simp) fun p hp => ?_
  show (if p.1 = x then some v else m₁ p.1) = some p.2
  have hne : p.1 ≠ x := fun e => by
    have : (ps.map (·.1)).contains x = true := by
      rw [List.contains_iff_mem]
      exact List.mem_map.mpr ⟨p, hp, e⟩
    rw [h] at this
    cases this
  rw [if_neg hne]
  exact hm p hp

theorem stepIn_len (bch : Nat) : ∀ (as : List Nat) (row : List Int) (d r mn : Int), row.length = as.length → (stepIn bch as row d r mn).1.length = as.length
  | [], row, _, _, _, h => by simpa [stepIn] using h
  | _ :: as, [], _, _, _, h => by simp at h
  | _ :: as, x :: row, d, r, mn, h => by
    simp only [stepIn, List.length_cons]
    rw [stepIn_len bch as row _ _ _ (by simpa using h)]
theorem stepIn_end {za : List Nat} {bc j : Nat} {p rest : List Int} {r dist res mn : Int} {T : List Int × Int × Int} (hj : j < za.length)
    (v1 : p ++ (stepIn bc (za.drop j) (r :: rest) dist res mn).1 = T.1) (v2 : (stepIn bc (za.drop j) (r :: rest) dist res mn).2 = T.2) {X : Int}
    (hX : X = if (dist + if bc = za.getD j 0 then 0 else 2) < (if r < res then r else res) + 2 then (dist + if bc = za.getD j 0 then 0 else 2) else (if r < res then r else res) + 2) :
    (p ++ [X]) ++ (stepIn bc (za.drop (j + 1)) rest r X (if X < mn then X else mn)).1 = T.1 ∧ (stepIn bc (za.drop (j + 1)) rest r X (if X < mn then X else mn)).2 = T.2 := by
  rw [drop_cons za j hj] at v1 v2
  simp only [stepIn] at v1 v2
  rw [← hX] at v1 v2
  exact ⟨by rw [List.append_assoc]; exact v1, v2⟩
theorem getD_mid {p rest : List Int} {r d : Int} {j : Nat} (hp : p.length = j) : (p ++ r :: rest).getD j d = r := by
  subst hp; simp [List.getD_eq_getElem?_getD]
theorem set_mid {p rest : List Int} {r x : Int} {j : Nat} (hp : p.length = j) : (p ++ r :: rest).set j x = (p ++ [x]) ++ rest := by
  subst hp; simp [List.set_append]
theorem stepOut_at {za zb : List Nat} {c : Int} {i : Nat} {row : List Int} {res : Int} (hi : i < zb.length) :
    stepOut za c (zb.drop i) i row res = if (stepIn (zb.getD i 0) za row ((i : Int) * 2) ((i : Int) * 2) 9223372036854775807).2.2 > c then c + 1
      else stepOut za c (zb.drop (i + 1)) ((i + 1 : Nat) : Int) (stepIn (zb.getD i 0) za row ((i : Int) * 2) ((i : Int) * 2) 9223372036854775807).1 (stepIn (zb.getD i 0) za row ((i : Int) * 2) ((i : Int) * 2) 9223372036854775807).2.1 := by
  rw [drop_cons zb i hi]
  rfl
section
variable {value slice : Expr} {Q : Value → Shared → Prop}
theorem my_item {l : List Nat} {j : Nat} {t u : Tok} (hl : l.length ≤ 40) (hj : j < l.length) (h : Q (.str (ofL [l.getD j 0]) s.toks) { s with toks := s.toks + 1 })
    (hs : subscripted slice false (.str (ofL l) t) (.int j u) = operate [.str (ofL l) t, .int j u] (getItem (.str (ofL l) t) (.int j u)) := by with_unfolding_all rfl)
    (ht : ∀ r, letTemporaryGo value (.str (ofL l) t) r = pure () := by intro _; with_unfolding_all rfl) :
    wpAny (model prog w) A (subscriptTail value slice (.str (ofL l) t) (.int j u)) Q E s := by
  refine item_str (fitsSsize_of (N := 9223372036854775808) (by omega) (by omega) (Int.le_refl _)) (by rw [ofL_len]; omega) (by rw [ofL_len]; omega) (fun _ => ?_) hs ht
  rw [item_at l (by omega) (by omega)]
  exact h
theorem my_getrow' {D : Addr} {vs : List Value} {k : Nat} {ns : List Int} {j : Nat} {u : Tok} {r : Int} (N : News g L s.heap news) (hm : (D, W.listOf vs.toArray k) ∈ news) (hi : IntsAre vs ns) (hj : j < ns.length) (hb : ns.length ≤ 40) (hg : ns.getD j 0 = r)
    (h : ∀ t, Q (.int r t) s)
    (hs : subscripted slice false (.ref D) (.int j u) = operate [.ref D, .int j u] (getItem (.ref D) (.int j u)) := by with_unfolding_all rfl) :
    wpAny (model prog w) A (subscriptTail value slice (.ref D) (.int j u)) Q E s := by
  have hl : s.heap.IsList D vs.toArray := ⟨_, (N _ hm).1, rfl, _, rfl⟩
  obtain ⟨t, ht⟩ := hi.get j (ns.getD j 0) (by simp [List.getD_eq_getElem?_getD, hj])
  rw [hg] at ht
  refine tail_any hl.typeIs slot_list_getitem.lookup (wpAny_getItem_list hl (by omega) (by omega) (by simpa using ht) (h t)) hs
theorem my_getrow {D : Addr} {vs : List Value} {k : Nat} {ns : List Int} {j : Nat} {u : Tok} (N : News g L s.heap news) (hm : (D, W.listOf vs.toArray k) ∈ news) (hi : IntsAre vs ns) (hj : j < ns.length) (hb : ns.length ≤ 40)
    (h : ∀ t, Q (.int (ns.getD j 0) t) s)
    (hs : subscripted slice false (.ref D) (.int j u) = operate [.ref D, .int j u] (getItem (.ref D) (.int j u)) := by with_unfolding_all rfl) :
    wpAny (model prog w) A (subscriptTail value slice (.ref D) (.int j u)) Q E s := by
  have hl : s.heap.IsList D vs.toArray := ⟨_, (N _ hm).1, rfl, _, rfl⟩
  obtain ⟨t, ht⟩ := hi.get j (ns.getD j 0) (by simp [List.getD_eq_getElem?_getD, hj])
  refine tail_any hl.typeIs slot_list_getitem.lookup (wpAny_getItem_list hl (by omega) (by omega) (by simpa using ht) (h t)) hs
end
end
end Mine
namespace Mine
section
variable {prog : Program} {w : World} {A : Around} {E : Value → Shared → Prop} {s : Shared} {env : Env} {g : Heap} {L : Addr} {m : Str → Option Value} {news : List (Addr × Obj)} {h₀ : Heap} {tk₀ : Tok} {Q : Flow → Shared → Prop}
/-- a test that the facts decide -/
def TestIs (b : Bool) (g : Heap) (L : Addr) (s : Shared) (news : List (Addr × Obj)) (R : (Str → Option Value) → Prop) (r : Bool) (s' : Shared) : Prop := r = b ∧ ∃ h' tk m', s' = { s with heap := h', toks := tk } ∧ Fr g L h' m' ∧ News g L h' news ∧ R m'
theorem TestIs.mk {R : (Str → Option Value) → Prop} {b : Bool} {h' : Heap} {tk : Tok} {m' : Str → Option Value} (F : Fr g L h' m') (N : News g L h' news) (r : R m') : TestIs b g L s news R b { s with heap := h', toks := tk } := ⟨rfl, h', tk, m', rfl, F, N, r⟩
theorem ifYes {test : Expr} {body orelse : List Stmt} {pos : Pos} (R : (Str → Option Value) → Prop) (ht : wpAny (model prog w) A (isTrue test env (eval test env)) (TestIs true g L s news R) E { s with heap := h₀, toks := tk₀ })
    (hb : ∀ h' tk m', Fr g L h' m' → News g L h' news → R m' → wpAny (model prog w) A (execs body env) Q E { s with heap := h', toks := tk }) : wpAny (model prog w) A (exec (.If test body orelse pos) env) Q E { s with heap := h₀, toks := tk₀ } := by
  refine wpAny_If (wpAny_mono ht (fun r s' h => ?_) fun _ _ x => x)
  obtain ⟨rfl, h', tk, m', rfl, F, N, r⟩ := h
  simp only [if_true]
  exact hb h' tk m' F N r
theorem ifNo {test : Expr} {body orelse : List Stmt} {pos : Pos} (R : (Str → Option Value) → Prop) (ht : wpAny (model prog w) A (isTrue test env (eval test env)) (TestIs false g L s news R) E { s with heap := h₀, toks := tk₀ })
    (hb : ∀ h' tk m', Fr g L h' m' → News g L h' news → R m' → wpAny (model prog w) A (execs orelse env) Q E { s with heap := h', toks := tk }) : wpAny (model prog w) A (exec (.If test body orelse pos) env) Q E { s with heap := h₀, toks := tk₀ } := by
  refine wpAny_If (wpAny_mono ht (fun r s' h => ?_) fun _ _ x => x)
  obtain ⟨rfl, h', tk, m', rfl, F, N, r⟩ := h
  simp only [Bool.false_eq_true, if_false]
  exact hb h' tk m' F N r
end
end Mine
end
section
open PySem PySem.W PyProof.Rows PySem.Calls
set_option maxRecDepth 100000
namespace Mine
/-- bisect_right, its question answered by lt (x before the i-th) -/
def bisR (lt : Nat → Bool) : Nat → Nat → Nat → Nat
  | 0, lo, _ => lo
  | f + 1, lo, hi => if lo < hi then (if lt ((lo + hi) / 2) then bisR lt f lo ((lo + hi) / 2) else bisR lt f ((lo + hi) / 2 + 1) hi) else lo
/-- bisect_left, its question answered by lt (the i-th before x) -/
def bisL (lt : Nat → Bool) : Nat → Nat → Nat → Nat
  | 0, lo, _ => lo
  | f + 1, lo, hi => if lo < hi then (if lt ((lo + hi) / 2) then bisL lt f ((lo + hi) / 2 + 1) hi else bisL lt f lo ((lo + hi) / 2)) else lo
theorem bisR_le (lt : Nat → Bool) : ∀ f lo hi, lo ≤ hi → bisR lt f lo hi ≤ hi
  | 0, lo, hi, h => h
  | f + 1, lo, hi, h => by
    simp only [bisR]
    split
    · split
      · have := bisR_le lt f lo ((lo + hi) / 2) (by omega); omega
      · exact bisR_le lt f ((lo + hi) / 2 + 1) hi (by omega)
    · exact h
theorem bisR_is {lt : Nat → Bool} {k n : Nat} (hk : ∀ i, i < n → lt i = decide (k ≤ i)) : ∀ f lo hi, hi ≤ n → lo ≤ k → k ≤ hi → hi - lo ≤ f → bisR lt f lo hi = k
  | 0, lo, hi, _, _, _, _ => by simp only [bisR]; omega
  | f + 1, lo, hi, h1, h2, h3, h4 => by
    simp only [bisR]
    split
    · rw [hk _ (by omega)]
      split
      · rename_i h; have := of_decide_eq_true h; exact bisR_is hk f lo _ (by omega) h2 this (by omega)
      · rename_i h; have : ¬ k ≤ (lo + hi) / 2 := fun e => h (decide_eq_true e); exact bisR_is hk f _ hi h1 (by omega) h3 (by omega)
    · omega
theorem bisL_is {lt : Nat → Bool} {k n : Nat} (hk : ∀ i, i < n → lt i = decide (i < k)) : ∀ f lo hi, hi ≤ n → lo ≤ k → k ≤ hi → hi - lo ≤ f → bisL lt f lo hi = k
  | 0, lo, hi, _, _, _, _ => by simp only [bisL]; omega
  | f + 1, lo, hi, h1, h2, h3, h4 => by
    simp only [bisL]
    split
    · rw [hk _ (by omega)]
      split
      · rename_i h; have := of_decide_eq_true h; exact bisL_is hk f _ hi h1 (by omega) h3 (by omega)
      · rename_i h; have : ¬ (lo + hi) / 2 < k := fun e => h (decide_eq_true e); exact bisL_is hk f lo _ (by omega) h2 (by omega) (by omega)
    · omega

def LtOk (prog : Program) (w : World) (h : Heap) (x v : Value) (b : Bool) : Prop :=
  ∀ (A : Around) (s : Shared) (Q E : Value → Shared → Prop), A.handled = none → A.depth + 2 < recursionLimit → A.units + 16 < cLine → Kept h s.heap →
    (∀ h' tk, Kept s.heap h' → Q (.bool b) { s with heap := h', toks := tk }) → wpAny (model prog w) A (compareOp .Lt x v) Q E s
section
variable {prog : Program} {w : World} {A : Around} {E : Value → Shared → Prop} {s : Shared} {g : Heap} {L : Addr} {m : Str → Option Value} {news : List (Addr × Obj)}
theorem lt_use {x v : Value} {b : Bool} {Q : Value → Shared → Prop} (H : LtOk prog w g x v b) (F : Fr g L s.heap m) (N : News g L s.heap news) (hh : A.handled = none) (hd : A.depth + 2 < recursionLimit) (hu : A.units + 16 < cLine)
    (h : ∀ h' tk, Fr g L h' m → News g L h' news → Q (.bool b) { s with heap := h', toks := tk }) : wpAny (model prog w) A (compareOp .Lt x v) Q E s :=
  H A s Q E hh hd hu F.keep fun h' tk hk => h h' tk (Fr.after F hk) (News.keepsAll N hk)
theorem my_len {l : Addr} {vs : List Value} {Q : Value → Shared → Prop} (F : Fr g L s.heap m) (hl : g.IsList l vs.toArray) (hb : vs.length ≤ 100)
    (h : Q (.int vs.length (s.toks + 1)) { s with toks := s.toks + 1 + 1 }) : wpAny (model prog w) A (call (.builtin "len") [.ref l]) Q E s :=
  Calls.call_len_list (hl.at fun o e => F.keep l o e) (by rw [List.size_toArray]; omega) (by rw [List.size_toArray]; exact h)
theorem my_insert {D : Addr} {vs : List Value} {k r : Nat} {u : Tok} {y : Value} {rest : List (Addr × Obj)} {Q : Value → Shared → Prop} (F : Fr g L s.heap m) (N : News g L s.heap ((D, W.listOf vs.toArray k) :: rest)) (hne : ∀ p ∈ rest, p.1 ≠ D) (hr : r ≤ vs.length) (hb : vs.length ≤ 100)
    (h : ∀ h', Fr g L h' m → News g L h' ((D, W.listOf (vs.take r ++ y :: vs.drop r).toArray (k + 1)) :: rest) → Q .none { s with heap := h' }) :
    wpAny (model prog w) A (call (.builtin "list.insert") [.ref D, .int r u, y]) Q E s := by
  refine kl_insert (l := vs.take r ++ y :: vs.drop r) F N ?_ ?_ (Upd.head hne) (by rw [sizeLine_eq]; simp; omega) h
  · simp [Builtin.List.listFitsIndex]; omega
  · have e : (if (r : Int) < 0 then ((r : Int) + (vs.length : Int)).toNat else min (r : Int).toNat vs.length) = r := by
      rw [if_neg (by omega)]; simp only [Int.toNat_natCast]; omega
    unfold kl_ins
    simp only [e]
theorem my_getval {value slice : Expr} {l : Addr} {vs : List Value} {k : Int} {u : Tok} {v : Value} {Q : Value → Shared → Prop} (F : Fr g L s.heap m) (hl : g.IsList l vs.toArray) {j : Nat} (hk : k = j) (hb : vs.length < 2 ^ 60) (hv : vs[j]? = some v) (h : Q v s)
    (hs : subscripted slice false (.ref l) (.int k u) = operate [.ref l, .int k u] (getItem (.ref l) (.int k u)) := by with_unfolding_all rfl) :
    wpAny (model prog w) A (subscriptTail value slice (.ref l) (.int k u)) Q E s := by
  subst hk
  have hl' : s.heap.IsList l vs.toArray := hl.at fun o e => F.keep l o e
  have hj := (List.getElem?_eq_some_iff.mp hv).1
  exact tail_any hl'.typeIs slot_list_getitem.lookup (wpAny_getItem_list hl' (by omega) (by omega) (by simpa using hv) h) hs
end
end Mine
end
section
open PySem PySem.W PyProof.Rows PySem.Calls
set_option maxRecDepth 100000
namespace Mine

def bindAll : List Str → List Value → (Str → Option Value) → Str → Option Value
  | x :: xs, v :: vs, m => bindAll xs vs fun y => if y = x then some v else m y
  | _, _, m => m

/-- what the turns of an iterator bind -/
structure Binds (prog : Program) (w : World) (A : Around) (target : Expr) (names : List Str) (I : Addr) (fp wr : List Addr) (n : Nat) (P : Nat → List Value → Prop) (St : Nat → Heap → Prop) : Prop where
  sub : ∀ b ∈ wr, b ∈ fp
  live : ∀ i h, St i h → ∀ b ∈ wr, ∃ o, h.get? b = some o
  frame : ∀ i h h', St i h → (∀ b ∈ fp, ∀ o, h.get? b = some o → h'.get? b = some o) → St i h'
  step : ∀ (cenv : Env) i (s : Shared) m (Q : Shared → Prop), i < n → St i s.heap → (∀ x ∈ names, cenv.kindOf x = some .local) → (cenv.scope.kind == .class || (cenv.scope.kind == .module && cenv.locals != cenv.globals)) = false →
    cenv.locals ∉ fp → s.heap.Ns cenv.locals m →
    (∀ vals h' tk, P i vals → St (i + 1) h' → h'.Ns cenv.locals (bindAll names vals m) → (∀ b o, b ∉ wr → b ≠ cenv.locals → s.heap.get? b = some o → h'.get? b = some o) → Q { s with heap := h', toks := tk }) →
    wpAny (model prog w) A (pyNext (.ref I)) (fun r s₁ => ∃ v, r = some v ∧ wpAny (model prog w) A (letOwnedTupleGo target (.ref I) v) (fun _ s₂ =>
      wpAny (model prog w) A (assign target cenv v) (fun _ s₃ => Q s₃) (fun _ _ => False) s₂) (fun _ _ => False) s₁) (fun _ _ => False) s
  done : ∀ (s : Shared) (Q : Option Value → Shared → Prop) (E : Value → Shared → Prop), St n s.heap →
    (∀ h' tk, (∀ b o, b ∉ wr → s.heap.get? b = some o → h'.get? b = some o) → Q none { s with heap := h', toks := tk }) → wpAny (model prog w) A (pyNext (.ref I)) Q E s
  self : ∀ i (s : Shared) (Q : Value → Shared → Prop) (E : Value → Shared → Prop), St i s.heap → Q (.ref I) s → wpAny (model prog w) A (pyIter (.ref I)) Q E s

section
variable {prog : Program} {w : World} {A : Around}
theorem Binds.name {I : Addr} {fp wr : List Addr} {n : Nat} {P : Nat → Value → Prop} {St : Nat → Heap → Prop} {x : Str} {px : Pos} (W : Walks prog w A I fp wr n P St) (hl : ∀ i h, St i h → ∀ b ∈ wr, ∃ o, h.get? b = some o) :
    Binds prog w A (.Name x px) [x] I fp wr n (fun i vals => ∃ v, vals = [v] ∧ P i v) St where
  sub := W.sub
  live := hl
  frame := W.frame
  step := fun cenv i s m Q hi st hx hp hC hn hQ => by
    refine W.item i s _ _ hi st fun v h₁ tk₁ hPv hst₁ hk₁ => ⟨v, rfl, ?_⟩
    show wpAny _ _ (pure ()) _ _ _
    refine wpAny_pure ?_
    have hCw : cenv.locals ∉ wr := fun h => hC (W.sub _ h)
    refine wpAny_assign_Name (wpAny_storeName_local (hx x (.head _)) (hn.at' fun o e => hk₁ _ o hCw e) (fun h₂ hn₂ hs₂ => ?_) hp)
    exact hQ [v] h₂ _ ⟨v, rfl, hPv⟩ (W.frame _ _ _ hst₁ fun b hb o e => hs₂.extBut b o (fun h => hC (h ▸ hb)) e) hn₂ fun b o hb hbC e => hs₂.extBut b o hbC (hk₁ b o hb e)
  done := W.done
  self := W.self
theorem Binds.pair {I : Addr} {fp wr : List Addr} {n : Nat} {Pt : Nat → Array Value → Prop} {St : Nat → Heap → Prop} {Mid : Nat → Addr → Heap → Prop} {a b : Str} {pa pb tp : Pos} {kk : Nat} (hh : A.handled = none)
    (W : WalksU prog w A I fp wr n Pt St Mid) (hl : ∀ i h, St i h → ∀ b ∈ wr, ∃ o, h.get? b = some o) (h2 : ∀ i vals, Pt i vals → ∃ x y, vals = #[x, y]) :
    Binds prog w A (.Tuple [.Name a pa, .Name b pb] kk tp) [a, b] I fp wr n (fun i vals => ∃ x y, vals = [x, y] ∧ Pt i #[x, y]) St where
  sub := W.sub
  live := hl
  frame := W.frame
  step := fun cenv i s m Q hi st hx hp hC hn hQ => by
    refine W.item i s _ _ hi st fun T vals h₁ tk₁ hPv hT hmid hk₁ => ⟨.ref T, rfl, ?_⟩
    obtain ⟨x, y, rfl⟩ := h2 i vals hPv
    have hCw : cenv.locals ∉ wr := fun h => hC (W.sub _ h)
    have hTw := W.apart i T _ hmid
    refine W.go _ _ _ i T _ _ _ hmid fun h₂ hst₂ hk₂ => ?_
    have hn₂ : h₂.Ns cenv.locals m := (hn.at' fun o e => hk₁ _ o hCw e).at' fun o e => hk₂ _ o hCw e
    obtain ⟨oT, hoT, hrT⟩ := hT
    refine kcp_assign hh ⟨oT, hk₂ _ _ hTw hoT, hrT⟩ (hx a (.head _)) (hx b (.tail _ (.head _))) hp hn₂ fun h₃ tk₃ hn₃ hk₃ => ?_
    exact hQ [x, y] h₃ _ ⟨x, y, rfl, hPv⟩ (W.frame _ _ _ hst₂ fun b hb o e => hk₃ b o (fun h => hC (h ▸ hb)) e) hn₃ fun b o hb hbC e => hk₃ b o hbC (hk₂ b o hb (hk₁ b o hb e))
  done := W.done
  self := W.self

/-- the loop of a list comprehension of one clause -/
theorem compLoopAny {elt target iter : Expr} {ifs : List Expr} {scope : Scope} {pos : Pos} {it acc : Value} {cenv : Env} {R : Result → Shared → Prop} (n : Nat) (J : Nat → Shared → Prop)
    (turn : ∀ i s, i < n → J i s → wpAny (model prog w) A (pyNext it) (fun r s₁ => ∃ v, r = some v ∧ wpAny (model prog w) A (letOwnedTupleGo target it v) (fun _ s₂ =>
      wpAny (model prog w) A (assign target cenv v) (fun _ s₃ =>
        wpAny (model prog w) A (forIn ifs true fun c r => if r = true then do let ok ← isTrue c cenv (eval c cenv); pure (ForInStep.yield ok) else pure (ForInStep.yield r)) (fun ok s₄ =>
          if ok = true then wpAny (model prog w) A (eval elt cenv) (fun x s₅ => wpAny (model prog w) A (call (.builtin "list.append") [acc, x]) (fun _ s₆ => J (i + 1) s₆) (fun _ _ => False) s₅) (fun _ _ => False) s₄ else J (i + 1) s₄)
          (fun _ _ => False) s₃) (fun _ _ => False) s₂) (fun _ _ => False) s₁) (fun _ _ => False) s)
    (done : ∀ s, J n s → wpAny (model prog w) A (pyNext it) (fun r s₁ => r = none ∧ R (.ok .next) s₁) (fun _ _ => False) s) {s : Shared} (h0 : J 0 s) :
    codeAny (model prog w) A (.compLoop (.ListComp elt [⟨target, iter, ifs, 0⟩] scope pos) 0 it acc cenv) R s := by
  refine codeAny_loop rfl (fun k s => ∃ i, i ≤ n ∧ k = n - i ∧ J i s) (fun k s hI => ?_) (n - 0) ⟨0, Nat.zero_le _, rfl, h0⟩
  obtain ⟨i, hi, rfl, hJ⟩ := hI
  show wpAny _ A ((compTurn (.ListComp elt [⟨target, iter, ifs, 0⟩] scope pos) 0 it acc cenv).onRaise (fun x => do noteFrame x cenv; theTreesLotGoes x)) _ _ s
  refine wpAny_noted ?_
  rw [compTurn_list]
  refine wpAny_bind (wpAny_standAt (wpAny_bind ?_))
  by_cases hlt : i < n
  · refine wpAny_mono (turn i s hlt hJ) (fun r s₁ h₁ => ?_) fun _ _ f => f.elim
    obtain ⟨v, rfl, h₁⟩ := h₁
    refine wpAny_bind (wpAny_mono h₁ (fun _ s₂ h₂ => wpAny_bind (wpAny_mono h₂ (fun _ s₃ h₃ => wpAny_bind (wpAny_mono h₃ (fun ok s₄ h₄ => ?_) fun _ _ f => f.elim)) fun _ _ f => f.elim)) fun _ _ f => f.elim)
    cases ok with
    | false =>
      simp only [Bool.false_eq_true, if_false] at h₄ ⊢
      exact wpAny_bind (wpAny_pure (wpAny_pure ⟨rfl, n - (i + 1), by omega, i + 1, hlt, rfl, h₄⟩))
    | true =>
      simp only [if_true] at h₄ ⊢
      exact wpAny_bind (wpAny_bind (wpAny_mono h₄ (fun x s₅ h₅ => wpAny_bind (wpAny_mono h₅ (fun _ s₆ h₆ => wpAny_pure (wpAny_pure ⟨rfl, n - (i + 1), by omega, i + 1, hlt, rfl, h₆⟩)) fun _ _ f => f.elim)) fun _ _ f => f.elim))
  · have e : i = n := by omega
    subst e
    refine wpAny_mono (done s hJ) (fun r s₁ h₁ => ?_) fun _ _ f => f.elim
    obtain ⟨rfl, h₁⟩ := h₁
    exact wpAny_pure h₁
end
end Mine
end
section
open PySem PySem.W PyProof.Rows PySem.Calls
set_option maxRecDepth 100000
namespace Mine
section
variable {prog : Program} {w : World} {A : Around} {env : Env} {s : Shared}

/-- what a comprehension walks over, from state s on -/
def Src (prog : Program) (w : World) (A : Around) (s : Shared) (target : Expr) (names : List Str) (n : Nat) (P' : Nat → List Value → Prop) (it : Value) (s₂ : Shared) : Prop :=
  ∃ I fp wr P St h tk, it = .ref I ∧ s₂ = { s with heap := h, toks := tk } ∧ Binds prog w A target names I fp wr n P St ∧ St 0 h ∧ (∀ b ∈ fp, b < h.objs.size) ∧ (∀ b ∈ wr, s.heap.get? b = none) ∧ Kept s.heap h ∧ s.heap.objs.size ≤ h.objs.size ∧ ∀ i vals, P i vals → P' i vals

/-- an element is reckoned: the value, what was made for it -/
def EltEnd (s : Shared) (C : Addr) (h₀ : Heap) (own made : List (Addr × Obj)) (J : Value → List (Addr × Obj) → Prop) (y : Value) (s' : Shared) : Prop :=
  ∃ h' tk m' fresh, s' = { s with heap := h', toks := tk } ∧ Fr s.heap C h' m' ∧ News s.heap C h' (own ++ (made ++ fresh)) ∧ (∀ p ∈ fresh, h₀.get? p.1 = none) ∧ J y (made ++ fresh)
/-- a test has failed -/
def SkipEnd (s : Shared) (C : Addr) (own made : List (Addr × Obj)) (J : List (Addr × Obj) → Prop) (s' : Shared) : Prop :=
  ∃ h' tk m', s' = { s with heap := h', toks := tk } ∧ Fr s.heap C h' m' ∧ News s.heap C h' (own ++ made) ∧ J made

theorem EltEnd.mk {C : Addr} {h₀ h' : Heap} {own made : List (Addr × Obj)} {J : Value → List (Addr × Obj) → Prop} {y : Value} {tk : Tok} {m' : Str → Option Value} (F : Fr s.heap C h' m') (N : News s.heap C h' (own ++ made)) (j : J y made) :
    EltEnd s C h₀ own made J y { s with heap := h', toks := tk } := ⟨h', tk, m', [], rfl, F, by simpa using N, (fun _ hp => nomatch hp), by simpa using j⟩
theorem SkipEnd.mk {C : Addr} {h' : Heap} {own made : List (Addr × Obj)} {J : List (Addr × Obj) → Prop} {tk : Tok} {m' : Str → Option Value} (F : Fr s.heap C h' m') (N : News s.heap C h' (own ++ made)) (j : J made) :
    SkipEnd s C own made J { s with heap := h', toks := tk } := ⟨h', tk, m', rfl, F, N, j⟩

/-- behind the comprehension -/
def CompOut (s : Shared) (n : Nat) (J : Nat → List Value → List (Addr × Obj) → Prop) (Q : Value → Shared → Prop) : Prop :=
  ∀ D ys k made h' tk, J n ys made → Kept s.heap h' → (∀ p ∈ (D, W.listOf ys.toArray k) :: made, h'.get? p.1 = some p.2 ∧ s.heap.get? p.1 = none) → Q (.ref D) { s with heap := h', toks := tk }

/-- behind the last turn -/
def CompFin (s : Shared) (n : Nat) (J : Nat → List Value → List (Addr × Obj) → Prop) (post : Value → Addr → Shared → Prop) : Prop :=
  ∀ D C ys k made h' tk m, J n ys made → Kept s.heap h' → (∀ p ∈ (D, W.listOf ys.toArray k) :: made, h'.get? p.1 = some p.2 ∧ s.heap.get? p.1 = none ∧ p.1 ≠ C) → s.heap.get? C = none → h'.Ns C m → post (.ref D) C { s with heap := h', toks := tk }

theorem CompOut.fin {n : Nat} {J : Nat → List Value → List (Addr × Obj) → Prop} {Q : Value → Shared → Prop} {E : Value → Shared → Prop} {M : Model} (H : CompOut s n J Q) : CompFin s n J (fun acc C s' => compPost M A E none Q acc C (.ok .next) s') :=
  fun D C ys k made h' tk m hJ hk hp hC hn => ⟨m, hn, fun h'' hs => H D ys k made h'' tk hJ (fun b o e => hs.extBut b o (fun q => by rw [q, hC] at e; cases e) (hk b o e)) fun p hp' => ⟨hs.extBut _ _ (hp p hp').2.2 (hp p hp').1, (hp p hp').2.1⟩⟩

/-- the list is put into a place of the frame -/
theorem compFinUse {g : Heap} {L : Addr} {m₀ : Str → Option Value} {news : List (Addr × Obj)} {y : Str} {py : Pos} {n : Nat} {J : Nat → List Value → List (Addr × Obj) → Prop} {Q : Shared → Prop} {E : Value → Shared → Prop}
    (hy : env.kindOf y = some .local) (hp : (env.scope.kind == .class || (env.scope.kind == .module && env.locals != env.globals)) = false) (hL : env.locals = L) (F : Fr g L s.heap m₀) (N : News g L s.heap news)
    (H : ∀ D ys k made h' tk, J n ys made → Fr g L h' (fun z => if z = y then some (.ref D) else m₀ z) → News g L h' ((D, W.listOf ys.toArray k) :: (made ++ news)) → Kept (s.heap.hide L) h' → Q { s with heap := h', toks := tk }) :
    CompFin s n J (fun acc C s' => compPost (model prog w) A E (some (assign (.Name y py) env)) (fun _ s' => Q s') acc C (.ok .next) s') := by
  subst hL
  intro D C ys k made h' tk m hJ hk hp' hC hn
  have hsL : ∃ o, s.heap.get? env.locals = some o := by obtain ⟨o, _, _, ho, _⟩ := F.ns; exact ⟨o, ho⟩
  obtain ⟨oL, hoL⟩ := hsL
  have hLC : env.locals ≠ C := fun q => by rw [← q, hoL] at hC; cases hC
  have hLp : ∀ p ∈ (D, W.listOf ys.toArray k) :: made, p.1 ≠ env.locals := fun p hm q => by have := (hp' p hm).2.1; rw [q, hoL] at this; cases this
  show wpAny _ A (assign (.Name y py) env (.ref D)) _ _ _
  refine wpAny_assign_Name (wpAny_storeName_local hy (F.ns.at' fun o e => hk _ o e) (fun h₂ hn₂ hs₂ => ?_) hp)
  refine ⟨m, hn.sameBut hs₂ (Ne.symm hLC), fun h₃ hs₃ => ?_⟩
  have keep : ∀ b o, b ≠ env.locals → s.heap.get? b = some o → h₃.get? b = some o := fun b o hb e => hs₃.extBut b o (fun q => by rw [q, hC] at e; cases e) (hs₂.extBut b o hb (hk b o e))
  refine H D ys k made h₃ _ hJ ⟨hn₂.sameBut hs₃ hLC, fun b o e => keep b o (fun q => ?_) (F.keep b o e), F.above⟩ (fun p hm => ?_) fun b o e => ?_
  · rw [q] at e
    exact absurd (Heap.lt_size e) (Nat.not_lt.mpr F.above)
  · rw [← List.cons_append] at hm
    rcases List.mem_append.mp hm with hm | hm
    · have z := hp' p hm
      refine ⟨hs₃.extBut _ _ z.2.2 (hs₂.extBut _ _ (hLp p hm) z.1), hLp p hm, ?_⟩
      cases q : g.get? p.1 with
      | none => rfl
      | some o => have := F.keep _ _ q; rw [z.2.1] at this; cases this
    · have z := N p hm
      exact ⟨keep _ _ z.2.1 z.1, z.2⟩
  · have hb : b ≠ env.locals := fun q => by rw [q, Heap.hide_self] at e; cases e
    exact keep b o hb (Heap.of_hide e)

theorem compCore {elt target iter : Expr} {ifs : List Expr} {scope : Scope} {cl : List (Str × Addr)} {pos pos' : Pos} {names : List Str} {n : Nat} {P' : Nat → List Value → Prop} {Q : Value → Shared → Prop} {E : Value → Shared → Prop} {use : Option (Value → Sem Unit)}
    (hclos : closureFor scope env = pure cl) (hcell : ∀ y ∈ scope.names, y.2 ≠ .cell) (hkind : scope.kind = .function) (hnames : ∀ y ∈ scope.names, y.2 = .local → scope.names.lookup y.1 = some .local)
    (hloc : ∀ x ∈ names, scope.names.lookup x = some .local) (hn : n ≤ sizeLine) (J : Nat → List Value → List (Addr × Obj) → Prop) (J0 : J 0 [] [])
    (hiter : wpAny (model prog w) A (eval iter env) (fun xv s₁ => wpAny (model prog w) A (pyIter xv) (fun it s₂ => Src prog w A s target names n P' it s₂) E s₁) E s)
    (turn : ∀ i ys made C h tk m own vals, i < n → J i ys made → ys.length ≤ i → P' i vals → Fr s.heap C h (bindAll names vals m) → News s.heap C h (own ++ made) →
      wpAny (model prog w) A (forIn ifs true fun c r => if r = true then do let ok ← isTrue c (compEnvC scope cl C env) (eval c (compEnvC scope cl C env)); pure (ForInStep.yield ok) else pure (ForInStep.yield r))
        (fun ok s₄ => if ok = true then wpAny (model prog w) A (eval elt (compEnvC scope cl C env)) (EltEnd s C h own made fun y made' => J (i + 1) (ys ++ [y]) made') (fun _ _ => False) s₄ else SkipEnd s C own made (J (i + 1) ys) s₄) (fun _ _ => False) { s with heap := h, toks := tk })
    (done : CompFin s n J (fun acc C s' => compPost (model prog w) A E use Q acc C (.ok .next) s'))
    (hs : ∀ x, foldedSetIterable iter env x = pure x := by intro _; rfl) :
    wpAny (model prog w) A (comprehension (.ListComp elt [⟨target, iter, ifs, 0⟩] scope pos) scope env pos' (newList []) false (eval iter env) use) Q E s := by
  refine wpAny_comprehension_free (use := use) rfl hs hclos hkind hnames (wpAny_mono hiter (fun xv s₁ h₁ => wpAny_mono h₁ (fun it s₂ h₂ => ?_) fun _ _ e => e) fun _ _ e => e)
  obtain ⟨I, fp, wr, P, St, h, tk, rfl, rfl, B, hst, hfp, hwr, hk0, hsz0, hP⟩ := h₂
  refine wpAny_newObj_type (wpAny_newFunctionEnv hcell (by intro y hy; simp at hy) (fun h₁ hns₁ hsb₁ => ?_) hkind)
  dsimp only at hns₁ hsb₁ ⊢
  generalize hH2 : h.push { cls := .type "list", dict := none, data := .seq ([] : List Value).toArray } = H2 at hns₁ hsb₁ ⊢
  have hC : H2.objs.size = h.objs.size + 1 := by rw [← hH2, Heap.size_push]
  generalize hDD : h.objs.size = D at hC ⊢
  generalize hCC : H2.objs.size = C at hC hns₁ hsb₁ ⊢
  subst hC
  have hDC : D ≠ D + 1 := Nat.ne_of_lt (Nat.lt_succ_self _)
  have old : ∀ b o, h.get? b = some o → h₁.get? b = some o := fun b o e => by
    have hb : b < D := hDD ▸ Heap.lt_size e
    exact hsb₁.extBut b o (Nat.ne_of_lt (Nat.lt_succ_of_lt hb)) (Heap.get?_push_of_some _ (hH2 ▸ Heap.get?_push_of_some _ e))
  have hDf : D ∉ fp := fun hm => Nat.lt_irrefl _ (hDD ▸ hfp _ hm)
  have hCf : D + 1 ∉ fp := fun hm => Nat.not_succ_lt_self (hDD ▸ hfp _ hm)
  have hDw : D ∉ wr := fun h => hDf (B.sub _ h)
  have hCw : D + 1 ∉ wr := fun h => hCf (B.sub _ h)
  have hacc : h₁.get? D = some (W.listOf ([] : List Value).toArray 0) := by
    have : H2.get? D = some (W.listOf ([] : List Value).toArray 0) := by rw [← hH2, ← hDD]; exact Heap.get?_push_size _ rfl
    exact hsb₁.extBut _ _ hDC (Heap.get?_push_of_some _ this)
  have hst₁ : St 0 h₁ := B.frame _ _ _ hst fun b _ o e => old b o e
  have hk1 : Kept s.heap h₁ := hk0.trans old
  have fresh : ∀ a, D ≤ a → s.heap.get? a = none := fun a ha => by
    cases e : s.heap.get? a with
    | none => rfl
    | some o' => exact absurd (Heap.lt_size e) (Nat.not_lt.mpr (Nat.le_trans hsz0 (hDD ▸ ha)))
  have loop : ∀ s₃ : Shared, (∃ tk', s₃ = { s with heap := h₁, toks := tk' }) →
      codeAny (model prog w) A (.compLoop (.ListComp elt [⟨target, iter, ifs, 0⟩] scope pos) 0 (.ref I) (.ref D) (compEnvC scope cl (D + 1) env)) (compPost (model prog w) A E use Q (.ref D) (D + 1)) s₃ := by
    rintro s₃ ⟨tk', rfl⟩
    refine compLoopAny n (fun i s' => ∃ h tk m ys made k, s' = { s with heap := h, toks := tk } ∧ St i h ∧ h.get? D = some (W.listOf ys.toArray k) ∧ h.Ns (D + 1) m ∧ Kept s.heap h ∧
      (∀ p ∈ made, h.get? p.1 = some p.2 ∧ s.heap.get? p.1 = none ∧ p.1 ∉ wr ∧ p.1 ≠ D ∧ p.1 ≠ D + 1) ∧ J i ys made ∧ ys.length ≤ i) ?_ ?_ ⟨h₁, tk', _, [], [], 0, rfl, hst₁, hacc, hns₁, hk1, (fun _ hp => nomatch hp), J0, Nat.le_refl _⟩
    · rintro i s' hi ⟨H, tk, m, ys, made, k, rfl, hst', hacc', hn', hk', hm', hJ, hlen⟩
      refine B.step (compEnvC scope cl (D + 1) env) i _ m _ hi hst' (fun x hx => lookup_relabel_local (hloc x hx)) (by simp [compEnvC, relabel, hkind]) hCf hn' fun vals h₂ tk₂ hPv hst₂ hn₂ hk₂ => ?_
      have F₂ : Fr s.heap (D + 1) h₂ (bindAll names vals m) := ⟨hn₂, fun b o e => hk₂ b o (fun hb => by rw [hwr b hb] at e; cases e) (fun hb => by rw [hb] at e; have q2 := fresh (D + 1) (Nat.le_succ _); rw [show s.heap.get? (compEnvC scope cl (D + 1) env).locals = none from q2] at e; cases e) (hk' b o e), Nat.le_trans hsz0 (hDD ▸ Nat.le_succ _)⟩
      have hD₂ : h₂.get? D = some (W.listOf ys.toArray k) := hk₂ D _ hDw hDC hacc'
      have N₂ : News s.heap (D + 1) h₂ (((D, W.listOf ys.toArray k) :: ownOf s.heap fp h₂) ++ made) := fun p hp => by
        rcases List.mem_append.mp hp with hp | hp
        · rcases List.mem_cons.mp hp with rfl | hp
          · exact ⟨hD₂, hDC, fresh _ (Nat.le_refl _)⟩
          · obtain ⟨b, hb, hbo⟩ := List.mem_filterMap.mp hp
            split at hbo
            · rename_i hnone
              obtain ⟨o, ho, rfl⟩ := Option.map_eq_some_iff.mp hbo
              exact ⟨ho, fun e => hCf (by dsimp only at e; exact e ▸ hb), by simpa using hnone⟩
            · cases hbo
        · obtain ⟨a1, a2, a3, a4, a5⟩ := hm' p hp
          exact ⟨hk₂ _ _ a3 a5 a1, a5, a2⟩
      have stOf : ∀ h₃ m₃ mk, Fr s.heap (D + 1) h₃ m₃ → News s.heap (D + 1) h₃ (((D, W.listOf ys.toArray k) :: ownOf s.heap fp h₂) ++ mk) → St (i + 1) h₃ := fun h₃ m₃ mk F₃ N₃ => by
        refine B.frame _ _ _ hst₂ fun b hb o e => ?_
        cases q : s.heap.get? b with
        | some o₀ =>
          have : o₀ = o := by have := F₂.keep b o₀ q; rw [e] at this; exact (Option.some.inj this).symm
          exact this ▸ F₃.keep b o₀ q
        | none => exact (N₃ _ (List.mem_append_left _ (.tail _ (mem_ownOf hb q e)))).1
      refine wpAny_mono (turn i ys made (D + 1) h₂ tk₂ m _ vals hi hJ hlen (hP _ _ hPv) F₂ N₂) (fun ok s₄ h₄ => ?_) fun _ _ f => f
      cases ok with
      | false =>
        simp only [Bool.false_eq_true, if_false] at h₄ ⊢
        obtain ⟨h₅, tk₅, m₅, rfl, F₅, N₅, hJ₅⟩ := h₄
        refine ⟨h₅, tk₅, m₅, ys, made, k, rfl, stOf _ _ _ F₅ N₅, (N₅ _ (List.mem_append_left _ (.head _))).1, F₅.ns, F₅.keep, fun p hp => ?_, hJ₅, Nat.le_succ_of_le hlen⟩
        obtain ⟨a1, a2, a3, a4, a5⟩ := hm' p hp
        exact ⟨(N₅ _ (List.mem_append_right _ hp)).1, a2, a3, a4, a5⟩
      | true =>
        simp only [if_true] at h₄ ⊢
        refine wpAny_mono h₄ (fun y s₅ h₅ => ?_) fun _ _ f => f
        obtain ⟨h₅, tk₅, m₅, fr, rfl, F₅, N₅, hfr, hJ₅⟩ := h₅
        have hD₅ := (N₅ _ (List.mem_append_left _ (.head _))).1
        dsimp only at hD₅
        have hmade : ∀ p ∈ made ++ fr, h₅.get? p.1 = some p.2 ∧ s.heap.get? p.1 = none ∧ p.1 ∉ wr ∧ p.1 ≠ D ∧ p.1 ≠ D + 1 := fun p hp => by
          have z := N₅ p (List.mem_append_right _ hp)
          rcases List.mem_append.mp hp with hp | hp
          · obtain ⟨a1, a2, a3, a4, a5⟩ := hm' p hp
            exact ⟨z.1, a2, a3, a4, a5⟩
          · have hnone := hfr p hp
            refine ⟨z.1, z.2.2, fun hw => ?_, fun e => ?_, z.2.1⟩
            · obtain ⟨o, ho⟩ := B.live _ _ hst₂ _ hw
              rw [ho] at hnone; cases hnone
            · rw [e, hD₂] at hnone; cases hnone
        have hst₅ := stOf _ _ _ F₅ N₅
        refine wpAny_list_append_plain (items := ys.toArray) (hsz := by rw [List.size_toArray]; omega) ⟨k, hD₅⟩ fun h₆ hl₆ hs₆ => ?_
        obtain ⟨k', hD₆⟩ := hl₆
        refine ⟨h₆, _, m₅, ys ++ [y], made ++ fr, k', rfl, B.frame _ _ _ hst₅ fun b hb o e => hs₆.extBut b o (fun q => hDf (q ▸ hb)) e, by simpa [W.listOf] using hD₆, F₅.ns.sameBut hs₆ (Ne.symm hDC), fun b o e => hs₆.extBut b o (fun q => by rw [q, fresh _ (Nat.le_refl _)] at e; cases e) (F₅.keep b o e), fun p hp => ?_, hJ₅, by rw [List.length_append]; simpa using hlen⟩
        obtain ⟨a1, a2, a3, a4, a5⟩ := hmade p hp
        exact ⟨hs₆.extBut _ _ a4 a1, a2, a3, a4, a5⟩
    · rintro s' ⟨H, tk, m, ys, made, k, rfl, hst', hacc', hn', hk', hm', hJ, hlen⟩
      refine B.done _ _ _ hst' fun h₂ tk₂ hk₂ => ⟨rfl, ?_⟩
      have hf1 : s.heap.get? (D + 1) = none := fresh (D + 1) (Nat.le_succ _)
      refine done D (D + 1) ys k made h₂ tk₂ m hJ (fun b o e => hk₂ b o (fun hb => by rw [hwr b hb] at e; cases e) (hk' b o e)) (fun p hp => ?_) hf1 (hn'.at' fun o e => hk₂ _ o hCw e)
      rcases List.mem_cons.mp hp with rfl | hp
      · exact ⟨hk₂ _ _ hDw hacc', fresh _ (Nat.le_refl _), hDC⟩
      · obtain ⟨a1, a2, a3, a4, a5⟩ := hm' p hp
        exact ⟨hk₂ _ _ a3 a1, a2, a5⟩
  exact codeAny_compStart_list (loop _ ⟨_, rfl⟩) (B.self 0 _ _ _ hst₁ (loop _ ⟨_, rfl⟩))
end
end Mine
end
section
open PySem PySem.W PyProof.Rows PySem.Calls
set_option maxRecDepth 100000
namespace Mine
section
variable {prog : Program} {w : World} {A : Around} {env : Env} {s : Shared}

def SrcC (prog : Program) (w : World) (A : Around) (s : Shared) (n : Nat) (P' : Nat → Value → Prop) (it : Value) (s₂ : Shared) : Prop :=
  ∃ I fp wr P St h tk, it = .ref I ∧ s₂ = { s with heap := h, toks := tk } ∧ Walks prog w A I fp wr n P St ∧ (∀ i h, St i h → ∀ b ∈ wr, ∃ o, h.get? b = some o) ∧ St 0 h ∧ (∀ b ∈ fp, b < h.objs.size) ∧ (∀ b ∈ wr, s.heap.get? b = none) ∧ Kept s.heap h ∧ s.heap.objs.size ≤ h.objs.size ∧ ∀ i v, P i v → P' i v

theorem SrcC.src {n : Nat} {P' : Nat → Value → Prop} {it : Value} {s₂ : Shared} {x : Str} {px : Pos} (h : SrcC prog w A s n P' it s₂) : Src prog w A s (.Name x px) [x] n (fun i vals => ∃ v, vals = [v] ∧ P' i v) it s₂ := by
  obtain ⟨I, fp, wr, P, St, h, tk, e, e2, B, hl, hst, hfp, hwr, hk, hz, hP⟩ := h
  exact ⟨I, fp, wr, _, St, h, tk, e, e2, Binds.name B hl, hst, hfp, hwr, hk, hz, fun i vals ⟨v, e, hv⟩ => ⟨v, e, hP i v hv⟩⟩

/-- the scope of a comprehension whose target is caught by one inside -/
theorem envC {M : Model} {scope : Scope} {globals : Addr} {cl : List (Str × Addr)} {x : Str} {qual : Str} {Q : Env → Shared → Prop} {E : Value → Shared → Prop} {outer : Env}
    (hcells : ∀ n, cellsFrom n scope.names cl = (x, n) :: cl) (hpush : ∀ h, pushCells h scope.names = h.push { cls := .type "cell", data := .cell none })
    (hQ : ∀ h', h'.Ns s.heap.objs.size (fun _ => none) → h'.IsCell (s.heap.objs.size + 1) none → (∀ b o, s.heap.get? b = some o → h'.get? b = some o) →
      Q { scope, locals := s.heap.objs.size, globals, cells := (x, s.heap.objs.size + 1) :: cl, qual, func := none, code := outer.code, frame := outer.frame, builtins := outer.builtins } { s with heap := h', toks := s.toks }) :
    wpAny M A (newFunctionEnv scope globals cl [] qual none .none (some outer)) Q E s := by
  simp only [newFunctionEnv, Option.isSome_some, if_true]
  refine wpAny_bind (wpAny_alloc ?_)
  refine wpAny_bind (wpAny_layCells _ (fun name kind cells => by cases kind <;> rfl) _ _ _ _ ?_)
  rw [hcells, hpush]
  simp only [List.forIn_nil]
  refine wpAny_bind (wpAny_pure (wpAny_pure ?_))
  rw [Heap.size_push]
  refine hQ _ ((Heap.Ns.new s.heap (.type "dict")).keeps fun b o e => Heap.get?_push_of_some _ e) ⟨_, by rw [← Heap.size_push s.heap { cls := .type "dict", data := .dict #[] }]; exact Heap.get?_push_size _ rfl, rfl⟩ fun b o e => Heap.get?_push_of_some _ (Heap.get?_push_of_some _ e)

theorem compCoreC {elt iter : Expr} {x : Str} {px : Pos} {ifs : List Expr} {scope : Scope} {cl : List (Str × Addr)} {pos pos' : Pos} {n : Nat} {P' : Nat → Value → Prop} {Q : Value → Shared → Prop} {E : Value → Shared → Prop} {use : Option (Value → Sem Unit)}
    (hclos : closureFor scope env = pure cl) (hcells : ∀ n, cellsFrom n scope.names cl = (x, n) :: cl) (hpush : ∀ h, pushCells h scope.names = h.push { cls := .type "cell", data := .cell none }) (hkind : scope.kind = .function) (hnames : ∀ y ∈ scope.names, y.2 = .local → scope.names.lookup y.1 = some .local)
    (hkx : (relabel scope env).names.lookup x = some .cell) (hn : n ≤ sizeLine) (J : Nat → List Value → List (Addr × Obj) → Prop) (J0 : J 0 [] [])
    (hiter : wpAny (model prog w) A (eval iter env) (fun xv s₁ => wpAny (model prog w) A (pyIter xv) (fun it s₂ => SrcC prog w A s n P' it s₂) E s₁) E s)
    (turn : ∀ i ys made C h tk m own v o, i < n → J i ys made → ys.length ≤ i → P' i v → o.data = .cell (some v) → Fr s.heap C h m → News s.heap C h (((C + 1, o) :: own) ++ made) →
      wpAny (model prog w) A (forIn ifs true fun c r => if r = true then do let ok ← isTrue c (compEnvC scope ((x, C + 1) :: cl) C env) (eval c (compEnvC scope ((x, C + 1) :: cl) C env)); pure (ForInStep.yield ok) else pure (ForInStep.yield r))
        (fun ok s₄ => if ok = true then wpAny (model prog w) A (eval elt (compEnvC scope ((x, C + 1) :: cl) C env)) (EltEnd s C h ((C + 1, o) :: own) made fun y made' => J (i + 1) (ys ++ [y]) made') (fun _ _ => False) s₄ else SkipEnd s C ((C + 1, o) :: own) made (J (i + 1) ys) s₄) (fun _ _ => False) { s with heap := h, toks := tk })
    (done : CompFin s n J (fun acc C s' => compPost (model prog w) A E use Q acc C (.ok .next) s'))
    (hs : ∀ x, foldedSetIterable iter env x = pure x := by intro _; rfl) :
    wpAny (model prog w) A (comprehension (.ListComp elt [⟨.Name x px, iter, ifs, 0⟩] scope pos) scope env pos' (newList []) false (eval iter env) use) Q E s := by
  refine wpAny_comprehension_free (use := use) rfl hs hclos hkind hnames (wpAny_mono hiter (fun xv s₁ h₁ => wpAny_mono h₁ (fun it s₂ h₂ => ?_) fun _ _ e => e) fun _ _ e => e)
  obtain ⟨I, fp, wr, P, St, h, tk, rfl, rfl, B, hlive, hst, hfp, hwr, hk0, hsz0, hP⟩ := h₂
  refine wpAny_newObj_type (envC hcells hpush fun h₁ hns₁ hc₁ hsb₁ => ?_)
  dsimp only at hns₁ hc₁ hsb₁ ⊢
  generalize hH2 : h.push { cls := .type "list", dict := none, data := .seq ([] : List Value).toArray } = H2 at hns₁ hc₁ hsb₁ ⊢
  have hC : H2.objs.size = h.objs.size + 1 := by rw [← hH2, Heap.size_push]
  generalize hDD : h.objs.size = D at hC ⊢
  generalize hCC : H2.objs.size = C at hC hns₁ hc₁ hsb₁ ⊢
  subst hC
  have hDC : D ≠ D + 1 := Nat.ne_of_lt (Nat.lt_succ_self _)
  have hDX : D ≠ D + 1 + 1 := Nat.ne_of_lt (Nat.lt_succ_of_lt (Nat.lt_succ_self _))
  have hCX : D + 1 ≠ D + 1 + 1 := Nat.ne_of_lt (Nat.lt_succ_self _)
  have old : ∀ b o, h.get? b = some o → h₁.get? b = some o := fun b o e => hsb₁ b o (hH2 ▸ Heap.get?_push_of_some _ e)
  have hDf : D ∉ fp := fun hm => Nat.lt_irrefl _ (hDD ▸ hfp _ hm)
  have hCf : D + 1 ∉ fp := fun hm => Nat.not_succ_lt_self (hDD ▸ hfp _ hm)
  have hXf : D + 1 + 1 ∉ fp := fun hm => absurd (hfp _ hm) (by rw [hDD]; exact Nat.not_lt.mpr (Nat.le_succ_of_le (Nat.le_succ D)))
  have hDw : D ∉ wr := fun h => hDf (B.sub _ h)
  have hCw : D + 1 ∉ wr := fun h => hCf (B.sub _ h)
  have hXw : D + 1 + 1 ∉ wr := fun h => hXf (B.sub _ h)
  have hacc : h₁.get? D = some (W.listOf ([] : List Value).toArray 0) := by
    have : H2.get? D = some (W.listOf ([] : List Value).toArray 0) := by rw [← hH2, ← hDD]; exact Heap.get?_push_size _ rfl
    exact hsb₁ _ _ this
  have hst₁ : St 0 h₁ := B.frame _ _ _ hst fun b _ o e => old b o e
  have hk1 : Kept s.heap h₁ := hk0.trans old
  have fresh : ∀ a, D ≤ a → s.heap.get? a = none := fun a ha => by
    cases e : s.heap.get? a with
    | none => rfl
    | some o' => exact absurd (Heap.lt_size e) (Nat.not_lt.mpr (Nat.le_trans hsz0 (hDD ▸ ha)))
  have hf1 : s.heap.get? (D + 1) = none := fresh (D + 1) (Nat.le_succ _)
  have hf2 : s.heap.get? (D + 1 + 1) = none := fresh (D + 1 + 1) (Nat.le_succ_of_le (Nat.le_succ _))
  have hf0 : s.heap.get? D = none := fresh D (Nat.le_refl _)
  have loop : ∀ s₃ : Shared, (∃ tk', s₃ = { s with heap := h₁, toks := tk' }) →
      codeAny (model prog w) A (.compLoop (.ListComp elt [⟨.Name x px, iter, ifs, 0⟩] scope pos) 0 (.ref I) (.ref D) (compEnvC scope ((x, D + 1 + 1) :: cl) (D + 1) env)) (compPost (model prog w) A E use Q (.ref D) (D + 1)) s₃ := by
    rintro s₃ ⟨tk', rfl⟩
    refine compLoopAny n (fun i s' => ∃ h tk m ys made k v₀, s' = { s with heap := h, toks := tk } ∧ St i h ∧ h.get? D = some (W.listOf ys.toArray k) ∧ h.IsCell (D + 1 + 1) v₀ ∧ h.Ns (D + 1) m ∧ Kept s.heap h ∧
      (∀ p ∈ made, h.get? p.1 = some p.2 ∧ s.heap.get? p.1 = none ∧ p.1 ∉ wr ∧ p.1 ≠ D ∧ p.1 ≠ D + 1 ∧ p.1 ≠ D + 1 + 1) ∧ J i ys made ∧ ys.length ≤ i) ?_ ?_ ⟨h₁, tk', _, [], [], 0, none, rfl, hst₁, hacc, hc₁, hns₁, hk1, (fun _ hp => nomatch hp), J0, Nat.le_refl _⟩
    · rintro i s' hi ⟨H, tk, m, ys, made, k, v₀, rfl, hst', hacc', hcl', hn', hk', hm', hJ, hlen⟩
      refine B.item i _ _ _ hi hst' fun v h₂ tk₂ hPv hst₂ hk₂ => ⟨v, rfl, ?_⟩
      show wpAny _ _ (pure ()) _ _ _
      refine wpAny_pure ?_
      have hcl₂ : h₂.IsCell (D + 1 + 1) v₀ := by obtain ⟨o, ho, hd⟩ := hcl'; exact ⟨o, hk₂ _ o hXw ho, hd⟩
      refine wpAny_assign_Name (wpAny_storeName_cell (c := D + 1 + 1) hkind hkx (by simp [compEnvC]) hcl₂ fun h₃ hcl₃ hs₃ => ?_)
      obtain ⟨oc, hoc, hdc⟩ := hcl₃
      have k23 : ∀ b o, b ≠ D + 1 + 1 → h₂.get? b = some o → h₃.get? b = some o := fun b o hb e => hs₃.extBut b o hb e
      have n₂ : h₂.Ns (D + 1) m := hn'.at' fun o e => hk₂ _ o hCw e
      have hst₃ : St (i + 1) h₃ := B.frame _ _ _ hst₂ fun b hb o e => k23 b o (fun q => hXf (q ▸ hb)) e
      have F₃ : Fr s.heap (D + 1) h₃ m := ⟨n₂.sameBut hs₃ hCX, fun b o e => k23 b o (fun q => by rw [q, hf2] at e; cases e) (hk₂ b o (fun hb => by rw [hwr b hb] at e; cases e) (hk' b o e)), Nat.le_trans hsz0 (hDD ▸ Nat.le_succ _)⟩
      have hD₃ : h₃.get? D = some (W.listOf ys.toArray k) := k23 _ _ hDX (hk₂ D _ hDw hacc')
      have N₃ : News s.heap (D + 1) h₃ (((D + 1 + 1, oc) :: (D, W.listOf ys.toArray k) :: ownOf s.heap fp h₃) ++ made) := fun p hp => by
        rcases List.mem_append.mp hp with hp | hp
        · rcases List.mem_cons.mp hp with rfl | hp
          · exact ⟨hoc, Ne.symm hCX, hf2⟩
          rcases List.mem_cons.mp hp with rfl | hp
          · exact ⟨hD₃, hDC, hf0⟩
          · obtain ⟨b, hb, hbo⟩ := List.mem_filterMap.mp hp
            split at hbo
            · rename_i hnone
              obtain ⟨o, ho, rfl⟩ := Option.map_eq_some_iff.mp hbo
              exact ⟨ho, fun e => hCf (by dsimp only at e; exact e ▸ hb), by simpa using hnone⟩
            · cases hbo
        · obtain ⟨a1, a2, a3, a4, a5, a6⟩ := hm' p hp
          exact ⟨k23 _ _ a6 (hk₂ _ _ a3 a1), a5, a2⟩
      have stOf : ∀ h₄ m₄ mk, Fr s.heap (D + 1) h₄ m₄ → News s.heap (D + 1) h₄ (((D + 1 + 1, oc) :: (D, W.listOf ys.toArray k) :: ownOf s.heap fp h₃) ++ mk) → St (i + 1) h₄ := fun h₄ m₄ mk F₄ N₄ => by
        refine B.frame _ _ _ hst₃ fun b hb o e => ?_
        cases q : s.heap.get? b with
        | some o₀ =>
          have : o₀ = o := by have := F₃.keep b o₀ q; rw [e] at this; exact (Option.some.inj this).symm
          exact this ▸ F₄.keep b o₀ q
        | none => exact (N₄ _ (List.mem_append_left _ (.tail _ (.tail _ (mem_ownOf hb q e))))).1
      refine wpAny_mono (turn i ys made (D + 1) h₃ tk₂ m _ v oc hi hJ hlen (hP _ _ hPv) hdc F₃ N₃) (fun ok s₄ h₄ => ?_) fun _ _ f => f
      cases ok with
      | false =>
        simp only [Bool.false_eq_true, if_false] at h₄ ⊢
        obtain ⟨h₅, tk₅, m₅, rfl, F₅, N₅, hJ₅⟩ := h₄
        refine ⟨h₅, tk₅, m₅, ys, made, k, _, rfl, stOf _ _ _ F₅ N₅, (N₅ _ (List.mem_append_left _ (.tail _ (.head _)))).1, ⟨oc, (N₅ _ (List.mem_append_left _ (.head _))).1, hdc⟩, F₅.ns, F₅.keep, fun p hp => ?_, hJ₅, Nat.le_succ_of_le hlen⟩
        obtain ⟨a1, a2, a3, a4, a5, a6⟩ := hm' p hp
        exact ⟨(N₅ _ (List.mem_append_right _ hp)).1, a2, a3, a4, a5, a6⟩
      | true =>
        simp only [if_true] at h₄ ⊢
        refine wpAny_mono h₄ (fun y s₅ h₅ => ?_) fun _ _ f => f
        obtain ⟨h₅, tk₅, m₅, fr, rfl, F₅, N₅, hfr, hJ₅⟩ := h₅
        have hD₅ := (N₅ _ (List.mem_append_left _ (.tail _ (.head _)))).1
        have hX₅ := (N₅ _ (List.mem_append_left _ (.head _))).1
        dsimp only at hD₅ hX₅
        have hmade : ∀ p ∈ made ++ fr, h₅.get? p.1 = some p.2 ∧ s.heap.get? p.1 = none ∧ p.1 ∉ wr ∧ p.1 ≠ D ∧ p.1 ≠ D + 1 ∧ p.1 ≠ D + 1 + 1 := fun p hp => by
          have z := N₅ p (List.mem_append_right _ hp)
          rcases List.mem_append.mp hp with hp | hp
          · obtain ⟨a1, a2, a3, a4, a5, a6⟩ := hm' p hp
            exact ⟨z.1, a2, a3, a4, a5, a6⟩
          · have hnone := hfr p hp
            refine ⟨z.1, z.2.2, fun hw => ?_, fun e => ?_, z.2.1, fun e => ?_⟩
            · obtain ⟨o, ho⟩ := hlive _ _ hst₃ _ hw
              rw [ho] at hnone; cases hnone
            · rw [e, hD₃] at hnone; cases hnone
            · rw [e, hoc] at hnone; cases hnone
        have hst₅ := stOf _ _ _ F₅ N₅
        refine wpAny_list_append_plain (items := ys.toArray) (hsz := by rw [List.size_toArray]; omega) ⟨k, hD₅⟩ fun h₆ hl₆ hs₆ => ?_
        obtain ⟨k', hD₆⟩ := hl₆
        refine ⟨h₆, _, m₅, ys ++ [y], made ++ fr, k', _, rfl, B.frame _ _ _ hst₅ fun b hb o e => hs₆.extBut b o (fun q => hDf (q ▸ hb)) e, by simpa [W.listOf] using hD₆, ⟨oc, hs₆.extBut _ _ (Ne.symm hDX) hX₅, hdc⟩, F₅.ns.sameBut hs₆ (Ne.symm hDC), fun b o e => hs₆.extBut b o (fun q => by rw [q, hf0] at e; cases e) (F₅.keep b o e), fun p hp => ?_, hJ₅, by rw [List.length_append]; simpa using hlen⟩
        obtain ⟨a1, a2, a3, a4, a5, a6⟩ := hmade p hp
        exact ⟨hs₆.extBut _ _ a4 a1, a2, a3, a4, a5, a6⟩
    · rintro s' ⟨H, tk, m, ys, made, k, v₀, rfl, hst', hacc', hcl', hn', hk', hm', hJ, hlen⟩
      refine B.done _ _ _ hst' fun h₂ tk₂ hk₂ => ⟨rfl, ?_⟩
      refine done D (D + 1) ys k made h₂ tk₂ m hJ (fun b o e => hk₂ b o (fun hb => by rw [hwr b hb] at e; cases e) (hk' b o e)) (fun p hp => ?_) hf1 (hn'.at' fun o e => hk₂ _ o hCw e)
      rcases List.mem_cons.mp hp with rfl | hp
      · exact ⟨hk₂ _ _ hDw hacc', hf0, hDC⟩
      · obtain ⟨a1, a2, a3, a4, a5, a6⟩ := hm' p hp
        exact ⟨hk₂ _ _ a3 a1, a2, a5⟩
  exact codeAny_compStart_list (loop _ ⟨_, rfl⟩) (B.self 0 _ _ _ hst₁ (loop _ ⟨_, rfl⟩))

theorem compR {elt target iter : Expr} {ifs : List Expr} {scope : Scope} {cl : List (Str × Addr)} {pos : Pos} {names : List Str} {n : Nat} {P' : Nat → List Value → Prop} {Q : Value → Shared → Prop} {E : Value → Shared → Prop}
    (hclos : closureFor scope env = pure cl) (hcell : ∀ y ∈ scope.names, y.2 ≠ .cell) (hkind : scope.kind = .function) (hnames : ∀ y ∈ scope.names, y.2 = .local → scope.names.lookup y.1 = some .local)
    (hloc : ∀ x ∈ names, scope.names.lookup x = some .local) (hn : n ≤ sizeLine) (J : Nat → List Value → List (Addr × Obj) → Prop) (J0 : J 0 [] [])
    (hiter : wpAny (model prog w) A (eval iter env) (fun xv s₁ => wpAny (model prog w) A (pyIter xv) (fun it s₂ => Src prog w A s target names n P' it s₂) E s₁) E s)
    (turn : ∀ i ys made C h tk m own vals, i < n → J i ys made → ys.length ≤ i → P' i vals → Fr s.heap C h (bindAll names vals m) → News s.heap C h (own ++ made) →
      wpAny (model prog w) A (forIn ifs true fun c r => if r = true then do let ok ← isTrue c (compEnvC scope cl C env) (eval c (compEnvC scope cl C env)); pure (ForInStep.yield ok) else pure (ForInStep.yield r))
        (fun ok s₄ => if ok = true then wpAny (model prog w) A (eval elt (compEnvC scope cl C env)) (EltEnd s C h own made fun y made' => J (i + 1) (ys ++ [y]) made') (fun _ _ => False) s₄ else SkipEnd s C own made (J (i + 1) ys) s₄) (fun _ _ => False) { s with heap := h, toks := tk })
    (done : CompOut s n J Q)
    (hs : ∀ x, foldedSetIterable iter env x = pure x := by intro _; rfl) :
    wpAny (model prog w) A (eval (.ListComp elt [⟨target, iter, ifs, 0⟩] scope pos) env) Q E s := by
  rw [eval_ListComp]
  exact compCore hclos hcell hkind hnames hloc hn J J0 hiter turn done.fin hs

theorem compRC {elt iter : Expr} {x : Str} {px : Pos} {ifs : List Expr} {scope : Scope} {cl : List (Str × Addr)} {pos : Pos} {n : Nat} {P' : Nat → Value → Prop} {Q : Value → Shared → Prop} {E : Value → Shared → Prop}
    (hclos : closureFor scope env = pure cl) (hcells : ∀ n, cellsFrom n scope.names cl = (x, n) :: cl) (hpush : ∀ h, pushCells h scope.names = h.push { cls := .type "cell", data := .cell none }) (hkind : scope.kind = .function) (hnames : ∀ y ∈ scope.names, y.2 = .local → scope.names.lookup y.1 = some .local)
    (hkx : (relabel scope env).names.lookup x = some .cell) (hn : n ≤ sizeLine) (J : Nat → List Value → List (Addr × Obj) → Prop) (J0 : J 0 [] [])
    (hiter : wpAny (model prog w) A (eval iter env) (fun xv s₁ => wpAny (model prog w) A (pyIter xv) (fun it s₂ => SrcC prog w A s n P' it s₂) E s₁) E s)
    (turn : ∀ i ys made C h tk m own v o, i < n → J i ys made → ys.length ≤ i → P' i v → o.data = .cell (some v) → Fr s.heap C h m → News s.heap C h (((C + 1, o) :: own) ++ made) →
      wpAny (model prog w) A (forIn ifs true fun c r => if r = true then do let ok ← isTrue c (compEnvC scope ((x, C + 1) :: cl) C env) (eval c (compEnvC scope ((x, C + 1) :: cl) C env)); pure (ForInStep.yield ok) else pure (ForInStep.yield r))
        (fun ok s₄ => if ok = true then wpAny (model prog w) A (eval elt (compEnvC scope ((x, C + 1) :: cl) C env)) (EltEnd s C h ((C + 1, o) :: own) made fun y made' => J (i + 1) (ys ++ [y]) made') (fun _ _ => False) s₄ else SkipEnd s C ((C + 1, o) :: own) made (J (i + 1) ys) s₄) (fun _ _ => False) { s with heap := h, toks := tk })
    (done : CompOut s n J Q)
    (hs : ∀ x, foldedSetIterable iter env x = pure x := by intro _; rfl) :
    wpAny (model prog w) A (eval (.ListComp elt [⟨.Name x px, iter, ifs, 0⟩] scope pos) env) Q E s := by
  rw [eval_ListComp]
  exact compCoreC hclos hcells hpush hkind hnames hkx hn J J0 hiter turn done.fin hs

/-- put into a place of the frame, in one statement -/
theorem putComp {elt : Expr} {gens : List Comprehension} {scope : Scope} {pos spos py : Pos} {y : Str} {Q : Flow → Shared → Prop} {E : Value → Shared → Prop}
    (hsw : swapsWith (.ListComp elt gens scope pos) (some (.Name y py)) spos.line env = pure true)
    (h : wpAny (model prog w) A (comprehension (.ListComp elt gens scope pos) scope env (firstIterPos gens pos) (newList []) (firstAsync gens) (firstIter gens env) (some (assign (.Name y py) env))) (fun _ s' => Q .next s') E s) :
    wpAny (model prog w) A (exec (.Assign [.Name y py] (.ListComp elt gens scope pos) spos) env) Q E s := by
  rw [exec_Assign_Name_used _ _ _ _ hsw]
  refine wpAny_bind (wpAny_standAt (wpAny_bind ?_))
  show wpAny _ A (do let _ ← comprehension (.ListComp elt gens scope pos) scope env _ (newList []) _ _ (some (assign (.Name y py) env))) _ _ s
  exact wpAny_bind (wpAny_mono h (fun _ s' hq => wpAny_pure (wpAny_pure hq)) fun _ _ e => e)
end
end Mine
end
section
open PySem PySem.W PyProof.Rows PySem.Calls
open Builtin Builtin.Str
set_option maxRecDepth 100000
namespace Mine

section
variable {prog : Program} {w : World} {A : Around} {E : Value → Shared → Prop} {s : Shared}

/-- the parts of a zip of a list and a text -/
structure ZsAt (h : Heap) (z TI TO i1 i2 l : Addr) (f : Value) (xs : Array Value) (x : Str) (t : Tok) (i : Nat) : Prop where
  z : IsZip h z TI TO f
  TI : IsPair h TI (.ref i1) (.ref i2)
  TO : ∃ a b, IsPair h TO a b
  i1 : h.IsListIter i1 l i
  i2 : h.IsStrIter i2 "str_ascii_iterator" x t i
  l : h.IsList l xs

/-- they are apart -/
structure ZsAp (z TI TO i1 i2 l : Addr) : Prop where
  a1 : TI ≠ z
  a2 : TO ≠ z
  a3 : i1 ≠ z
  a4 : i2 ≠ z
  a5 : TI ≠ TO
  a6 : TI ≠ i1
  a7 : TI ≠ i2
  a8 : TO ≠ i1
  a9 : TO ≠ i2
  b1 : i1 ≠ i2
  b2 : l ≠ z
  b3 : l ≠ TO
  b4 : l ≠ i1
  b5 : l ≠ i2

theorem zs_item {z TI TO i1 i2 l : Addr} {xs : Array Value} {x : Str} {t : Tok} {i c : Nat} {v : Value} {Q : Value → Shared → Prop} (D : ZsAp z TI TO i1 i2 l) (S : ZsAt s.heap z TI TO i1 i2 l .none xs x t i)
    (hv : xs[i]? = some v) (hc : x.cps[i]? = some c)
    (hQ : ∀ h' T tk, h'.IsTuple T #[v, .str ⟨#[c]⟩ tk] → T ≠ z → T ≠ TO → T ≠ i1 → T ≠ i2 → ZsAt h' z TI TO i1 i2 l (rawInt T) xs x t (i + 1) → (∀ c o, c ≠ z → c ≠ TO → c ≠ i1 → c ≠ i2 → s.heap.get? c = some o → h'.get? c = some o) →
      Q (.ref T) { s with heap := h', toks := s.toks + 1 }) :
    wpAny (model prog w) A (Builtin.«zip.__next__» ⟨[.ref z], []⟩) (fun fin s' => ∃ v, fin = .done (.ret v) ∧ Q v s') E s := by
  obtain ⟨sz, sTI, ⟨oa, ob, sTO⟩, s1, s2, sl⟩ := S
  show wpAny _ _ (field (.ref z) 2 >>= _) _ _ _
  refine wpAny_bind (wpAny_field sz rfl (x := .bool false) rfl ?_)
  show wpAny _ _ (field (.ref z) 3 >>= _) _ _ _
  refine wpAny_bind (wpAny_field sz rfl (x := .ref TI) rfl (wpAny_bind (wpAny_seqItems sTI rfl ?_)))
  show wpAny _ _ (Builtin.SmallTypes.ownedTupleIsFree (.ref z) >>= _) _ _ _
  refine wpAny_bind ?_
  unfold Builtin.SmallTypes.ownedTupleIsFree
  refine wpAny_bind (wpAny_field sz rfl (x := .none) rfl (wpAny_pure ?_))
  simp only [if_true]
  refine wpAny_bind (wpAny_rule (wpAny_bind (wpAny_field sz rfl (x := .ref TO) rfl (wpAny_bind (wpAny_setField_rec sz (by simp) fun h₁ z₁ k₁ => ?_)))))
  replace z₁ : IsZip h₁ z TI TO .ellipsis := z₁
  refine wpAny_bind ?_
  simp only [List.zipIdx_cons, List.zipIdx_nil, List.forIn_cons, List.forIn_nil]
  refine wpAny_bind (wpAny_bind (wpAny_onRaise ?_))
  show wpAny _ _ (Builtin.SmallTypes.nextOf (.ref i1) >>= _) _ _ _
  refine wpAny_bind (wpAny_nextOf_list_item (s1.extBut k₁.extBut D.a3) (sl.extBut k₁.extBut D.b2) hv fun h₂ p₂ k₂ => wpAny_pure ?_)
  have TO₂ : IsPair h₂ TO oa ob := k₂.extBut _ _ D.a8 (k₁.extBut _ _ D.a2 sTO)
  refine wpAny_bind (wpAny_seqItems TO₂ rfl (wpAny_bind (wpAny_updateSeq_pair TO₂ fun h₃ TO₃ k₃ => wpAny_bind (wpAny_letGo (wpAny_pure ?_)))))
  replace TO₃ : IsPair h₃ TO v ob := TO₃
  refine wpAny_bind (wpAny_bind (wpAny_onRaise ?_))
  show wpAny _ _ (Builtin.SmallTypes.nextOf (.ref i2) >>= _) _ _ _
  have s2₃ : h₃.IsStrIter i2 "str_ascii_iterator" x t i := by
    obtain ⟨o, ho, r⟩ := s2
    exact ⟨o, k₃.extBut _ _ D.a9.symm (k₂.extBut _ _ D.b1.symm (k₁.extBut _ _ D.a4 ho)), r⟩
  refine wpAny_bind (wpAny_nextOf_ascii_item s2₃ hc fun h₄ q₄ k₄ => wpAny_pure ?_)
  have TO₄ : IsPair h₄ TO v ob := k₄.extBut _ _ D.a9 TO₃
  refine wpAny_bind (wpAny_seqItems TO₄ rfl (wpAny_bind (wpAny_updateSeq_pair TO₄ fun h₅ TO₅ k₅ => wpAny_bind (wpAny_letGo (wpAny_pure (wpAny_pure ?_))))))
  replace TO₅ : IsPair h₅ TO v (.str ⟨#[c]⟩ s.toks) := TO₅
  refine wpAny_bind (wpAny_seqItems TO₅ rfl (wpAny_bind (wpAny_newTuple ?_)))
  have z₅ : IsZip h₅ z TI TO .ellipsis := k₅.extBut _ _ D.a2.symm (k₄.extBut _ _ D.a4.symm (k₃.extBut _ _ D.a2.symm (k₂.extBut _ _ D.a3.symm z₁)))
  have kk : ∀ c o, c ≠ z → c ≠ TO → c ≠ i1 → c ≠ i2 → s.heap.get? c = some o → h₅.get? c = some o := fun c o c1 c2 c3 c4 e =>
    k₅.extBut _ _ c2 (k₄.extBut _ _ c4 (k₃.extBut _ _ c2 (k₂.extBut _ _ c3 (k₁.extBut _ _ c1 e))))
  have p₅ : h₅.IsListIter i1 l (i + 1) := ((p₂.extBut k₃.extBut D.a8.symm).extBut k₄.extBut D.b1).extBut k₅.extBut D.a8.symm
  have q₅ : h₅.IsStrIter i2 "str_ascii_iterator" x t (i + 1) := by
    obtain ⟨o, ho, r⟩ := q₄
    exact ⟨o, k₅.extBut _ _ D.a9.symm ho, r⟩
  have ne : ∀ {c o}, h₅.get? c = some o → h₅.objs.size ≠ c := fun e => Nat.ne_of_gt (Heap.lt_size e)
  have ni1 : h₅.objs.size ≠ i1 := by obtain ⟨_, e, _⟩ := p₅; exact ne e
  have ni2 : h₅.objs.size ≠ i2 := by obtain ⟨_, e, _⟩ := q₅; exact ne e
  show wpAny _ _ (Builtin.SmallTypes.ownedTupleHandOut (.ref z) (.ref h₅.objs.size) >>= _) _ _ _
  refine wpAny_bind ?_
  unfold Builtin.SmallTypes.ownedTupleHandOut
  have z₆ : IsZip (h₅.push { cls := .type "tuple", data := .seq #[v, .str ⟨#[c]⟩ s.toks] }) z TI TO .ellipsis := Heap.get?_push_of_some _ z₅
  refine wpAny_bind (wpAny_setField_rec z₆ (by simp) fun h₇ z₇ k₇ => ?_)
  replace z₇ : IsZip h₇ z TI TO (rawInt h₅.objs.size) := z₇
  refine wpAny_setField_rec z₇ (by simp) fun h₈ z₈ k₈ => ?_
  replace z₈ : IsZip h₈ z TI TO (rawInt h₅.objs.size) := z₈
  have up : ∀ c o, c ≠ z → h₅.get? c = some o → h₈.get? c = some o := fun c o c1 e => k₈.extBut _ _ c1 (k₇.extBut _ _ c1 (Heap.get?_push_of_some _ e))
  have T₈ : IsPair h₈ h₅.objs.size v (.str ⟨#[c]⟩ s.toks) := k₈.extBut _ _ (ne z₅) (k₇.extBut _ _ (ne z₅) (Heap.get?_push_size _ rfl))
  refine wpAny_pure ⟨_, rfl, hQ h₈ h₅.objs.size _ ⟨_, T₈, rfl, _, rfl⟩ (ne z₅) (ne TO₅) ni1 ni2 ⟨z₈, up _ _ D.a1 (kk _ _ D.a1 D.a5 D.a6 D.a7 sTI), ⟨_, _, up _ _ D.a2 TO₅⟩, p₅.at fun o e => up _ o D.a3 e, ?_, (sl.at fun o e => kk _ o D.b2 D.b3 D.b4 D.b5 e).at fun o e => up _ o D.b2 e⟩ fun c o c1 c2 c3 c4 e => up c o c1 (kk c o c1 c2 c3 c4 e)⟩
  obtain ⟨o, ho, r⟩ := q₅
  exact ⟨o, up _ _ D.a4 ho, r⟩

/-- the text ends first -/
theorem zs_end {z TI TO i1 i2 l : Addr} {xs : Array Value} {x : Str} {t : Tok} {i : Nat} {v : Value} {Q : Fin → Shared → Prop} (hh : A.handled = none) (D : ZsAp z TI TO i1 i2 l) (S : ZsAt s.heap z TI TO i1 i2 l .none xs x t i)
    (hv : xs[i]? = some v) (hc : x.cps[i]? = none)
    (hE : ∀ h' e, (∀ c o, c ≠ z → c ≠ TO → c ≠ i1 → c ≠ i2 → s.heap.get? c = some o → h'.get? c = some o) → (∃ o, h'.get? e = some o ∧ o.cls = .type "StopIteration") → E (.ref e) { s with heap := h' }) :
    wpAny (model prog w) A (Builtin.«zip.__next__» ⟨[.ref z], []⟩) Q E s := by
  obtain ⟨sz, sTI, ⟨oa, ob, sTO⟩, s1, s2, sl⟩ := S
  show wpAny _ _ (field (.ref z) 2 >>= _) _ _ _
  refine wpAny_bind (wpAny_field sz rfl (x := .bool false) rfl ?_)
  show wpAny _ _ (field (.ref z) 3 >>= _) _ _ _
  refine wpAny_bind (wpAny_field sz rfl (x := .ref TI) rfl (wpAny_bind (wpAny_seqItems sTI rfl ?_)))
  show wpAny _ _ (Builtin.SmallTypes.ownedTupleIsFree (.ref z) >>= _) _ _ _
  refine wpAny_bind ?_
  unfold Builtin.SmallTypes.ownedTupleIsFree
  refine wpAny_bind (wpAny_field sz rfl (x := .none) rfl (wpAny_pure ?_))
  simp only [if_true]
  refine wpAny_bind (wpAny_rule (wpAny_bind (wpAny_field sz rfl (x := .ref TO) rfl (wpAny_bind (wpAny_setField_rec sz (by simp) fun h₁ z₁ k₁ => ?_)))))
  replace z₁ : IsZip h₁ z TI TO .ellipsis := z₁
  refine wpAny_bind ?_
  simp only [List.zipIdx_cons, List.zipIdx_nil, List.forIn_cons, List.forIn_nil]
  refine wpAny_bind (wpAny_bind (wpAny_onRaise ?_))
  show wpAny _ _ (Builtin.SmallTypes.nextOf (.ref i1) >>= _) _ _ _
  refine wpAny_bind (wpAny_nextOf_list_item (s1.extBut k₁.extBut D.a3) (sl.extBut k₁.extBut D.b2) hv fun h₂ p₂ k₂ => wpAny_pure ?_)
  have TO₂ : IsPair h₂ TO oa ob := k₂.extBut _ _ D.a8 (k₁.extBut _ _ D.a2 sTO)
  refine wpAny_bind (wpAny_seqItems TO₂ rfl (wpAny_bind (wpAny_updateSeq_pair TO₂ fun h₃ TO₃ k₃ => wpAny_bind (wpAny_letGo (wpAny_pure ?_)))))
  refine wpAny_bind (wpAny_bind (wpAny_onRaise ?_))
  show wpAny _ _ (Builtin.SmallTypes.nextOf (.ref i2) >>= _) _ _ _
  have s2₃ : h₃.IsStrIter i2 "str_ascii_iterator" x t i := by
    obtain ⟨o, ho, r⟩ := s2
    exact ⟨o, k₃.extBut _ _ D.a9.symm (k₂.extBut _ _ D.b1.symm (k₁.extBut _ _ D.a4 ho)), r⟩
  refine wpAny_bind (wpAny_nextOf_ascii_end hh s2₃ hc fun h₄ e k₄ he => ?_)
  obtain ⟨oe, hoe, hce⟩ := he
  have z₄ : IsZip h₄ z TI TO .ellipsis := k₄ _ _ D.a4.symm (k₃.extBut _ _ D.a2.symm (k₂.extBut _ _ D.a3.symm z₁))
  have hez : e ≠ z := fun x => by subst x; rw [z₄] at hoe; cases hoe; simp at hce
  exact wpAny_setField_rec z₄ (by simp) fun h₅ _ k₅ => hE h₅ e (fun c o c1 c2 c3 c4 y => k₅.extBut _ _ c1 (k₄ _ _ c4 (k₃.extBut _ _ c2 (k₂.extBut _ _ c3 (k₁.extBut _ _ c1 y))))) ⟨oe, k₅.extBut _ _ hez hoe, hce⟩

/-- zip of a list and a shorter plain text -/
theorem walksZs (hh : A.handled = none) (z TI TO i1 i2 l : Addr) (D : ZsAp z TI TO i1 i2 l) (xs : Array Value) (x : Str) (t : Tok) (hlt : x.cps.size < xs.size) :
    WalksU prog w A z [z, TI, TO, i1, i2, l] [z, TO, i1, i2] x.cps.size (fun i vals => ∃ v c tk, xs[i]? = some v ∧ x.cps[i]? = some c ∧ vals = #[v, .str ⟨#[c]⟩ tk])
      (fun i h => ZsAt h z TI TO i1 i2 l .none xs x t i) (fun i T h => ZsAt h z TI TO i1 i2 l (rawInt T) xs x t (i + 1) ∧ T ≠ z ∧ T ≠ TO ∧ T ≠ i1 ∧ T ≠ i2) where
  sub := fun c hc => by simp at hc ⊢; rcases hc with rfl | rfl | rfl | rfl <;> simp
  frame := fun i h h' S hk => by
    obtain ⟨sz, sTI, ⟨oa, ob, sTO⟩, s1, ⟨o, ho, r⟩, sl⟩ := S
    exact ⟨hk z (by simp) _ sz, hk TI (by simp) _ sTI, ⟨_, _, hk TO (by simp) _ sTO⟩, s1.at fun o e => hk i1 (by simp) o e, ⟨o, hk i2 (by simp) _ ho, r⟩, sl.at fun o e => hk l (by simp) o e⟩
  item := fun i s Q E hi S hQ => by
    have hT : s.TypeIs (.ref z) "zip" := ⟨_, S.z, rfl⟩
    unfold pyNext
    refine wpAny_bind (wpAny_attempt (wpAny_callSpecial?_slot (name := Str.ofString "__next__") hT F.slot_zip_next
      (wpAny_call_entry F.slot_zip_next hT F.entry_zip_next
        (zs_item D S (Array.getElem?_eq_getElem (Nat.lt_trans hi hlt)) (Array.getElem?_eq_getElem hi) fun h' T tk hT a1 a2 a3 a4 S' hk => wpAny_pure ?_) (F.args_zip_next_1 _))))
    exact hQ T _ h' _ ⟨_, _, _, Array.getElem?_eq_getElem (Nat.lt_trans hi hlt), Array.getElem?_eq_getElem hi, rfl⟩ hT ⟨S', a1, a2, a3, a4⟩ fun c o hc e => hk c o (fun x => hc (by simp [x])) (fun x => hc (by simp [x])) (fun x => hc (by simp [x])) (fun x => hc (by simp [x])) e
  go := fun elts k pos i T s Q E hm hQ => by
    obtain ⟨⟨sz, sTI, ⟨oa, ob, sTO⟩, s1, ⟨o, ho, r⟩, sl⟩, _⟩ := hm
    exact wpAny_letOwnedTupleGo_zip sz fun h' z' k => hQ h' ⟨z', k.extBut _ _ D.a1 sTI, ⟨_, _, k.extBut _ _ D.a2 sTO⟩, s1.extBut k.extBut D.a3, ⟨o, k.extBut _ _ D.a4 ho, r⟩, sl.extBut k.extBut D.b2⟩ fun c o hc e => k.extBut _ _ (fun x => hc (by simp [x])) e
  apart := fun i T h hm hT => by
    obtain ⟨_, t1, t2, t3, t4⟩ := hm
    simp at hT
    rcases hT with rfl | rfl | rfl | rfl
    · exact t1 rfl
    · exact t2 rfl
    · exact t3 rfl
    · exact t4 rfl
  done := fun s Q E S hQ => by
    have hT : s.TypeIs (.ref z) "zip" := ⟨_, S.z, rfl⟩
    unfold pyNext
    refine wpAny_bind (wpAny_attempt (wpAny_callSpecial?_slot (name := Str.ofString "__next__") hT F.slot_zip_next
      (wpAny_call_entry F.slot_zip_next hT F.entry_zip_next (zs_end hh D S (Array.getElem?_eq_getElem hlt) (Array.getElem?_eq_none (Nat.le_refl _)) fun h' e hk he => ?_) (F.args_zip_next_1 _))))
    obtain ⟨o, ho, hc⟩ := he
    refine wpAny_bind (wpAny_isInstance (T := "StopIteration") (b := true) ⟨o, ho, hc⟩ isSubtype_stop (wpAny_pure ?_))
    exact hQ h' s.toks fun c o hc e => hk c o (fun x => hc (by simp [x])) (fun x => hc (by simp [x])) (fun x => hc (by simp [x])) (fun x => hc (by simp [x])) e
  self := fun i s Q E S hQ => wpAny_pyIter_zip S.z hQ
end
end Mine
end
section
open PySem PySem.W PyProof.Rows PySem.Calls
open Builtin Builtin.Str
set_option maxRecDepth 100000
namespace Mine
abbrev zsH1 (h : Heap) (l1 : Addr) : Heap := h.push { cls := .type "list_iterator", data := .fields #[.ref l1, .int 0 0] }
abbrev zsH2 (h : Heap) (l1 : Addr) (x : PySem.Str) (t : Tok) : Heap := (zsH1 h l1).push { cls := .type "str_ascii_iterator", data := .fields #[.str x t, .int 0 0] }
abbrev zsH3 (h : Heap) (l1 : Addr) (x : PySem.Str) (t : Tok) : Heap := (zsH2 h l1 x t).push { cls := .type "tuple", data := .seq #[.ref h.objs.size, .ref (zsH1 h l1).objs.size] }
abbrev zsH4 (h : Heap) (l1 : Addr) (x : PySem.Str) (t : Tok) : Heap := (zsH3 h l1 x t).push { cls := .type "tuple", data := .seq #[.none, .none] }
abbrev zsH5 (h : Heap) (l1 : Addr) (x : PySem.Str) (t : Tok) : Heap := (zsH4 h l1 x t).push { cls := .type "zip", data := .fields #[.none, .bool false, .bool false, .ref (zsH2 h l1 x t).objs.size, .ref (zsH3 h l1 x t).objs.size] }

theorem newClass_zip (a b : Value) : Builtin.SmallTypes.newClass "zip" ⟨[.type "zip", a, b], []⟩ = pure (.type "zip", [a, b]) := by
  unfold Builtin.SmallTypes.newClass
  simp only [isType, sub_zip, pure_bind, Bool.not_true, Bool.false_eq_true, if_false]

theorem zs_new {prog : Program} {w : World} {A : Around} {E : Value → Shared → Prop} {s : Shared} {l1 : Addr} {x : PySem.Str} {t : Tok} {xs : Array Value} {Q : Fin → Shared → Prop} (ha : x.cps.all (· < 128) = true) (hl : s.heap.IsList l1 xs)
    (h : Q (.done (.ret (.ref (zsH4 s.heap l1 x t).objs.size))) { s with heap := zsH5 s.heap l1 x t }) :
    wpAny (model prog w) A (Builtin.«zip.__new__» ⟨[.type "zip", .ref l1, .str x t], []⟩) Q E s := by
  unfold Builtin.«zip.__new__»
  rw [newClass_zip]
  refine wpAny_bind (wpAny_pure ?_)
  dsimp only
  simp only [List.length_nil, Nat.not_lt_zero, if_false]
  refine wpAny_bind ?_
  unfold Builtin.SmallTypes.iterAll
  simp only [List.forIn_cons, List.forIn_nil]
  refine wpAny_bind (wpAny_bind (wpAny_bind (wpAny_holding (wpAny_pyIter_list hl (wpAny_pure ?_)))))
  refine wpAny_bind (wpAny_bind (wpAny_holding (wpAny_pyIter_ascii ha (wpAny_pure (wpAny_pure (wpAny_pure ?_))))))
  refine wpAny_bind (wpAny_newTuple (hsz := by show (2 : Nat) ≤ sizeLine; decide) (wpAny_bind (wpAny_newTuple (hsz := by show (2 : Nat) ≤ sizeLine; decide) ?_)))
  refine wpAny_bind ?_
  unfold Builtin.SmallTypes.newRecord
  dsimp only
  refine wpAny_newObj_type (wpAny_pure ?_) (by show (5 : Nat) ≤ sizeLine + 2; decide)
  exact h
end Mine
namespace Mine
section
variable {prog : Program} {w : World} {A : Around} {E : Value → Shared → Prop} {s : Shared}

theorem zs_call {l1 : Addr} {x : PySem.Str} {t : Tok} {xs : Array Value} {Q : Value → Shared → Prop} (ha : x.cps.all (· < 128) = true) (hl : s.heap.IsList l1 xs)
    (h : ∀ h' z TI TO i1 i2, ZsAp z TI TO i1 i2 l1 → ZsAt h' z TI TO i1 i2 l1 .none xs x t 0 → s.heap.objs.size ≤ h'.objs.size → (∀ b ∈ [z, TI, TO, i1, i2], b < h'.objs.size ∧ s.heap.get? b = none) → Kept s.heap h' → Q (.ref z) { s with heap := h' }) :
    wpAny (model prog w) A (call (.type "zip") [.ref l1, .str x t]) Q E s := by
  refine callType_new (S := fun _ R s => s.heap.IsList l1 xs ∧ R (.ok (.ret (.ref (zsH4 s.heap l1 x t).objs.size))) { s with heap := zsH5 s.heap l1 x t }) F.called_zip (by decide) (F.typeCall_zip_2 _ _) (F.newCall_zip_2 _ _) (fun obj => F.args_object_init_3 obj _ _) F.entry_zip_new
    ?_ ⟨hl, ?_⟩
  · refine .of_wp fun prog w A R s h => ?_
    exact zs_new ha h.1 ⟨_, rfl, h.2⟩
  · have z1 : (zsH1 s.heap l1).objs.size = s.heap.objs.size + 1 := Heap.size_push ..
    have z2 : (zsH2 s.heap l1 x t).objs.size = s.heap.objs.size + 2 := by rw [Heap.size_push, z1]
    have z3 : (zsH3 s.heap l1 x t).objs.size = s.heap.objs.size + 3 := by rw [Heap.size_push, z2]
    have z4 : (zsH4 s.heap l1 x t).objs.size = s.heap.objs.size + 4 := by rw [Heap.size_push, z3]
    have z5 : (zsH5 s.heap l1 x t).objs.size = s.heap.objs.size + 5 := by rw [Heap.size_push, z4]
    have g5 : (zsH5 s.heap l1 x t).get? (zsH4 s.heap l1 x t).objs.size = some _ := Heap.get?_push_size _ rfl
    have g4 : (zsH5 s.heap l1 x t).get? (zsH3 s.heap l1 x t).objs.size = some _ := Heap.get?_push_of_some _ (Heap.get?_push_size _ rfl)
    have g3 : (zsH5 s.heap l1 x t).get? (zsH2 s.heap l1 x t).objs.size = some _ := Heap.get?_push_of_some _ (Heap.get?_push_of_some _ (Heap.get?_push_size _ rfl))
    have g2 : (zsH5 s.heap l1 x t).get? (zsH1 s.heap l1).objs.size = some _ := Heap.get?_push_of_some _ (Heap.get?_push_of_some _ (Heap.get?_push_of_some _ (Heap.get?_push_size _ rfl)))
    have g1 : (zsH5 s.heap l1 x t).get? s.heap.objs.size = some _ := Heap.get?_push_of_some _ (Heap.get?_push_of_some _ (Heap.get?_push_of_some _ (Heap.get?_push_of_some _ (Heap.get?_push_size _ rfl))))
    have up : Kept s.heap (zsH5 s.heap l1 x t) := fun c o e => Heap.get?_push_of_some _ (Heap.get?_push_of_some _ (Heap.get?_push_of_some _ (Heap.get?_push_of_some _ (Heap.get?_push_of_some _ e))))
    show _ ∧ _
    rw [z2, z3, z4] at g5
    rw [z1, z2] at g3
    rw [z3] at g4
    rw [z1] at g2
    rw [z4]
    have hlt : l1 < s.heap.objs.size := by obtain ⟨_, e, _⟩ := hl; exact Heap.lt_size e
    have none : ∀ b, s.heap.objs.size ≤ b → s.heap.get? b = none := fun b hb => by
      cases e : s.heap.get? b with
      | none => rfl
      | some o => exact absurd (Heap.lt_size e) (Nat.not_lt.mpr hb)
    refine ⟨⟨_, g5, rfl⟩, h _ (s.heap.objs.size + 4) (s.heap.objs.size + 2) (s.heap.objs.size + 3) s.heap.objs.size (s.heap.objs.size + 1)
      ⟨by simp, by simp, Nat.ne_of_lt (by simp), by simp, by simp, Nat.ne_of_gt (by simp), by simp, Nat.ne_of_gt (by simp), by simp, Nat.ne_of_lt (by simp), Nat.ne_of_lt (Nat.lt_add_right _ hlt), Nat.ne_of_lt (Nat.lt_add_right _ hlt), Nat.ne_of_lt hlt, Nat.ne_of_lt (Nat.lt_add_right _ hlt)⟩
      ⟨g5, g3, ⟨_, _, g4⟩, ⟨_, g1, rfl, rfl⟩, ⟨_, g2, rfl, rfl⟩, hl.at fun o e => up _ o e⟩ (by rw [z5]; exact Nat.le_add_right _ _) (fun b hb => ?_) up⟩
    rw [z5]
    simp only [List.mem_cons, List.not_mem_nil, or_false] at hb
    rcases hb with rfl | rfl | rfl | rfl | rfl
    · exact ⟨Nat.lt_succ_self _, none _ (Nat.le_add_right _ _)⟩
    · exact ⟨Nat.add_lt_add_left (by decide) _, none _ (Nat.le_add_right _ _)⟩
    · exact ⟨Nat.add_lt_add_left (by decide) _, none _ (Nat.le_add_right _ _)⟩
    · exact ⟨Nat.lt_add_of_pos_right (by decide), none _ (Nat.le_refl _)⟩
    · exact ⟨Nat.add_lt_add_left (by decide) _, none _ (Nat.le_add_right _ _)⟩
end
end Mine
end
section
open PySem PySem.W PyProof.Rows PySem.Calls
set_option maxRecDepth 100000
namespace Mine
section
variable {prog : Program} {w : World} {A : Around} {E : Value → Shared → Prop} {s : Shared} {h₁ : Heap} {tk₁ : Tok}

theorem none_of_size {h : Heap} {a : Addr} (ha : h.objs.size ≤ a) : h.get? a = none := by
  cases e : h.get? a with
  | none => rfl
  | some o => exact absurd (Heap.lt_size e) (Nat.not_lt.mpr ha)

theorem srcList (hh : A.handled = none) {l : Addr} {items : Array Value} (hk : Kept s.heap h₁) (hz : s.heap.objs.size ≤ h₁.objs.size) (hl : h₁.IsList l items) :
    wpAny (model prog w) A (pyIter (.ref l)) (fun it s₂ => SrcC prog w A s items.size (fun i v => items[i]? = some v) it s₂) E { s with heap := h₁, toks := tk₁ } := by
  refine wpAny_pyIter_list hl ?_
  have hlt : l < h₁.objs.size := by obtain ⟨_, e, _⟩ := hl; exact Heap.lt_size e
  refine ⟨h₁.objs.size, _, _, _, _, _, _, rfl, rfl, Walks.list hh h₁.objs.size l (Nat.ne_of_lt hlt) items, fun i h st b hb => ?_, ⟨⟨_, Heap.get?_push_size _ rfl, rfl, rfl⟩, hl.push _⟩, fun b hb => ?_, fun b hb => ?_, fun b o e => Heap.get?_push_of_some _ (hk b o e), ?_, fun i v hv => hv⟩
  · obtain ⟨⟨o, ho, _⟩, _⟩ := st
    exact ⟨o, by rw [List.mem_singleton.mp hb]; exact ho⟩
  · rw [Heap.size_push]
    simp only [List.mem_cons, List.not_mem_nil, or_false] at hb
    rcases hb with rfl | rfl
    · exact Nat.lt_succ_self _
    · exact Nat.lt_succ_of_lt hlt
  · rw [List.mem_singleton.mp hb]; exact none_of_size hz
  · rw [Heap.size_push]; exact Nat.le_succ_of_le hz

theorem srcRange (hh : A.handled = none) {r : Addr} {n : Nat} {t u v : Tok} (hk : Kept s.heap h₁) (hz : s.heap.objs.size ≤ h₁.objs.size) (hr : IsRange h₁ r 0 n 1 t u v) (hn : n < 2 ^ 60) :
    wpAny (model prog w) A (pyIter (.ref r)) (fun it s₂ => SrcC prog w A s n (fun i v => ∃ t, v = .int i t) it s₂) E { s with heap := h₁, toks := tk₁ } := by
  refine wpAny_pyIter_range hr (small_one (by omega) (by omega) (by omega) (by omega)) ?_
  have hsz : Builtin.Range.rangeSize 0 n 1 = (n : Int) := by rw [rangeSize_one]; split <;> omega
  refine ⟨h₁.objs.size, _, _, _, _, _, _, rfl, rfl, Walks.range hh h₁.objs.size 0 1 n, fun i h st b hb => ⟨_, (List.mem_singleton.mp hb) ▸ st⟩, ?_, fun b hb => ?_, fun b hb => ?_, fun b o e => Heap.get?_push_of_some _ (hk b o e), ?_, ?_⟩
  · show IsRangeIter _ _ _ _ _
    rw [hsz]
    simpa using Heap.get?_push_size _ rfl
  · rw [Heap.size_push, List.mem_singleton.mp hb]; exact Nat.lt_succ_self _
  · rw [List.mem_singleton.mp hb]; exact none_of_size hz
  · rw [Heap.size_push]; exact Nat.le_succ_of_le hz
  · rintro i v ⟨t, e⟩
    exact ⟨t, by simpa using e⟩

/-- zip of two lists, whole: the call and the pairs -/
theorem srcZip (hh : A.handled = none) {l1 l2 : Addr} {xs ys : Array Value} {a b : Str} {pa pb tp : Pos} {kk : Nat} (hk : Kept s.heap h₁) (hz : s.heap.objs.size ≤ h₁.objs.size) (hl1 : h₁.IsList l1 xs) (hl2 : h₁.IsList l2 ys) :
    wpAny (model prog w) A (call (.type "zip") [.ref l1, .ref l2]) (fun xv s₁ => wpAny (model prog w) A (pyIter xv) (fun it s₂ => Src prog w A s (.Tuple [.Name a pa, .Name b pb] kk tp) [a, b] (min xs.size ys.size)
      (fun i vals => ∃ x y, vals = [x, y] ∧ xs[i]? = some x ∧ ys[i]? = some y) it s₂) E s₁) E { s with heap := h₁, toks := tk₁ } := by
  refine call_zip_2 hl1 hl2 fun h' z1 z2 z3 z4 z5 z6 keep => wpAny_pyIter_zip z1 ?_
  dsimp only at z1 z2 z3 z4 z5 z6 keep ⊢
  have lt1 : l1 < h₁.objs.size := by obtain ⟨_, e, _⟩ := hl1; exact Heap.lt_size e
  have lt2 : l2 < h₁.objs.size := by obtain ⟨_, e, _⟩ := hl2; exact Heap.lt_size e
  have D : ZipApart (h₁.objs.size + 4) (h₁.objs.size + 2) (h₁.objs.size + 3) h₁.objs.size (h₁.objs.size + 1) l1 l2 :=
    ⟨by simp, by simp, Nat.ne_of_lt (by simp), by simp, by simp, Nat.ne_of_gt (by simp), by simp, Nat.ne_of_gt (by simp), by simp, Nat.ne_of_lt (by simp), Nat.ne_of_lt (Nat.lt_add_right _ lt1), Nat.ne_of_lt (Nat.lt_add_right _ lt1), Nat.ne_of_lt lt1, Nat.ne_of_lt (Nat.lt_add_right _ lt1),
      Nat.ne_of_lt (Nat.lt_add_right _ lt2), Nat.ne_of_lt (Nat.lt_add_right _ lt2), Nat.ne_of_lt lt2, Nat.ne_of_lt (Nat.lt_add_right _ lt2)⟩
  refine ⟨h₁.objs.size + 4, _, _, _, _, h', _, rfl, rfl, Binds.pair hh (WalksT.zip2 hh _ _ _ _ _ l1 l2 D xs ys).toU (fun i h st b hb => ?_) (fun i vals ⟨x, y, _, _, e⟩ => ⟨x, y, e⟩), ⟨z1, z2, ⟨_, _, z3⟩, z4, z5, hl1.at fun o e => keep _ o e, hl2.at fun o e => keep _ o e⟩, fun b hb => ?_, fun b hb => ?_, hk.trans keep, by rw [z6]; exact Nat.le_trans hz (Nat.le_add_right _ _), ?_⟩
  · obtain ⟨s1, s2, ⟨_, _, s3⟩, ⟨_, s4, _⟩, ⟨_, s5, _⟩, _⟩ := st
    simp only [List.mem_cons, List.not_mem_nil, or_false] at hb
    rcases hb with rfl | rfl | rfl | rfl
    · exact ⟨_, s1⟩
    · exact ⟨_, s3⟩
    · exact ⟨_, s4⟩
    · exact ⟨_, s5⟩
  · rw [z6]
    simp only [List.mem_cons, List.not_mem_nil, or_false] at hb
    rcases hb with rfl | rfl | rfl | rfl | rfl | rfl | rfl
    · exact Nat.add_lt_add_left (by decide) _
    · exact Nat.add_lt_add_left (by decide) _
    · exact Nat.add_lt_add_left (by decide) _
    · exact Nat.lt_add_of_pos_right (by decide)
    · exact Nat.add_lt_add_left (by decide) _
    · exact Nat.lt_add_right _ lt1
    · exact Nat.lt_add_right _ lt2
  · simp only [List.mem_cons, List.not_mem_nil, or_false] at hb
    rcases hb with rfl | rfl | rfl | rfl
    · exact none_of_size (Nat.le_add_right_of_le hz)
    · exact none_of_size (Nat.le_add_right_of_le hz)
    · exact none_of_size hz
    · exact none_of_size (Nat.le_add_right_of_le hz)
  · rintro i vals ⟨x, y, rfl, x', y', h1, h2, e⟩
    obtain ⟨rfl, rfl⟩ : x = x' ∧ y = y' := by simpa using e
    exact ⟨x, y, rfl, h1, h2⟩

/-- zip of a list and a shorter plain text -/
theorem srcZs (hh : A.handled = none) {l1 : Addr} {x : Str} {t : Tok} {xs : Array Value} {a b : Str} {pa pb tp : Pos} {kk : Nat} (ha : x.cps.all (· < 128) = true) (hlt : x.cps.size < xs.size) (hk : Kept s.heap h₁) (hz : s.heap.objs.size ≤ h₁.objs.size) (hl1 : h₁.IsList l1 xs) :
    wpAny (model prog w) A (call (.type "zip") [.ref l1, .str x t]) (fun xv s₁ => wpAny (model prog w) A (pyIter xv) (fun it s₂ => Src prog w A s (.Tuple [.Name a pa, .Name b pb] kk tp) [a, b] x.cps.size
      (fun i vals => ∃ v c tk, vals = [v, .str ⟨#[c]⟩ tk] ∧ xs[i]? = some v ∧ x.cps[i]? = some c) it s₂) E s₁) E { s with heap := h₁, toks := tk₁ } := by
  refine zs_call ha hl1 fun h' z TI TO i1 i2 D S hsz hfr keep => wpAny_pyIter_zip S.z ?_
  dsimp only at hsz hfr keep ⊢
  have lt1 : l1 < h₁.objs.size := by obtain ⟨_, e, _⟩ := hl1; exact Heap.lt_size e
  refine ⟨z, _, _, _, _, h', _, rfl, rfl, Binds.pair hh (walksZs hh z TI TO i1 i2 l1 D xs x t hlt) (fun i h st b hb => ?_) (fun i vals ⟨x, y, _, _, _, e⟩ => ⟨_, _, e⟩), S, fun b hb => ?_, fun b hb => ?_, hk.trans keep, Nat.le_trans hz hsz, ?_⟩
  · obtain ⟨s1, s2, ⟨_, _, s3⟩, ⟨_, s4, _⟩, ⟨_, s5, _⟩, _⟩ := st
    simp only [List.mem_cons, List.not_mem_nil, or_false] at hb
    rcases hb with rfl | rfl | rfl | rfl
    · exact ⟨_, s1⟩
    · exact ⟨_, s3⟩
    · exact ⟨_, s4⟩
    · exact ⟨_, s5⟩
  · simp only [List.mem_cons, List.not_mem_nil, or_false] at hb
    rcases hb with rfl | rfl | rfl | rfl | rfl | rfl
    · exact (hfr _ (by simp)).1
    · exact (hfr _ (by simp)).1
    · exact (hfr _ (by simp)).1
    · exact (hfr _ (by simp)).1
    · exact (hfr _ (by simp)).1
    · exact Nat.lt_of_lt_of_le lt1 hsz
  · have none : ∀ b, h₁.get? b = none → s.heap.get? b = none := fun b hb => by
      cases e : s.heap.get? b with
      | none => rfl
      | some o => rw [hk b o e] at hb; cases hb
    simp only [List.mem_cons, List.not_mem_nil, or_false] at hb
    rcases hb with rfl | rfl | rfl | rfl
    · exact none _ (hfr _ (by simp)).2
    · exact none _ (hfr _ (by simp)).2
    · exact none _ (hfr _ (by simp)).2
    · exact none _ (hfr _ (by simp)).2
  · rintro i vals ⟨v, y, rfl, v', c, tk, h1, h2, e⟩
    obtain ⟨rfl, rfl⟩ : v = v' ∧ y = _ := by simpa using e
    exact ⟨v, c, tk, rfl, h1, h2⟩
end
end Mine
end
section
open PySem PySem.W PyProof.Rows PySem.Calls
set_option maxRecDepth 100000
namespace Mine
section
variable {prog : Program} {w : World} {A : Around} {E : Value → Shared → Prop} {s : Shared} {g : Heap} {L : Addr} {env : Env} {h₁ : Heap} {tk₁ : Tok} {m : Str → Option Value} {news : List (Addr × Obj)}

/-- what a for walks over, the objects at mods not among it -/
def SrcG (prog : Program) (w : World) (A : Around) (g : Heap) (L : Addr) (s : Shared) (mods : List Addr) (n : Nat) (P' : Nat → Value → Prop) (J0 : (Str → Option Value) → List (Addr × Obj) → Prop) (it : Value) (s₂ : Shared) : Prop :=
  ∃ I fp wr P St h tk m news, it = .ref I ∧ s₂ = { s with heap := h, toks := tk } ∧ Walks prog w A I fp wr n P St ∧ (∀ i h, St i h → ∀ b ∈ wr, ∃ o, h.get? b = some o) ∧ St 0 h ∧ L ∉ fp ∧ (∀ b ∈ wr, g.get? b = none) ∧ (∀ p ∈ news, p.1 ∉ wr) ∧ (∀ a ∈ mods, a ∉ fp) ∧
    Fr g L h m ∧ News g L h news ∧ J0 m news ∧ ∀ i v, P i v → P' i v

/-- how a turn ends, whose ledger may grow -/
def TurnG (Q : Flow → Shared → Prop) (g : Heap) (L : Addr) (s : Shared) (adr : List Addr) (own : List (Addr × Obj)) (J : (Str → Option Value) → List (Addr × Obj) → Prop) (fl : Flow) (s' : Shared) : Prop :=
  (fl = .next ∧ ∃ h' tk m' nx, s' = { s with heap := h', toks := tk } ∧ Fr g L h' m' ∧ News g L h' (nx ++ own) ∧ (∀ p ∈ nx, p.1 ∈ adr ∨ ∀ q ∈ own, p.1 ≠ q.1) ∧ J m' nx) ∨ ((∃ v, fl = .ret v) ∧ Q fl s')
theorem TurnG.go {Q : Flow → Shared → Prop} {adr : List Addr} {own : List (Addr × Obj)} {J : (Str → Option Value) → List (Addr × Obj) → Prop} {h' : Heap} {tk : Tok} {m' : Str → Option Value} {nx : List (Addr × Obj)}
    (F : Fr g L h' m') (N : News g L h' (nx ++ own)) (ha : ∀ p ∈ nx, p.1 ∈ adr ∨ ∀ q ∈ own, p.1 ≠ q.1) (r : J m' nx) : TurnG Q g L s adr own J .next { s with heap := h', toks := tk } := .inl ⟨rfl, h', tk, m', nx, rfl, F, N, ha, r⟩

theorem forG {x : Str} {px pos : Pos} {iter : Expr} {body : List Stmt} {Q : Flow → Shared → Prop} {R : (Str → Option Value) → List (Addr × Obj) → Prop} {n : Nat} {P' : Nat → Value → Prop} {h₀ : Heap} {tk₀ : Tok} (mods : List Addr) (J : Nat → (Str → Option Value) → List (Addr × Obj) → Prop)
    (hL : env.locals = L) (hx : env.kindOf x = some .local) (hp : (env.scope.kind == .class || (env.scope.kind == .module && env.locals != env.globals)) = false)
    (hiter : wpAny (model prog w) A (eval iter env) (fun xv s₁ => wpAny (model prog w) A (pyIter xv) (fun it s₂ => SrcG prog w A g L s mods n P' (J 0) it s₂) E s₁) E { s with heap := h₀, toks := tk₀ })
    (turn : ∀ i v m₁ nw h tk own, i < n → P' i v → J i m₁ nw → OwnOff own mods → Fr g L h (fun y => if y = x then some v else m₁ y) → News g L h (nw ++ own) →
      wpAny (model prog w) A (execs body env) (TurnG Q g L s (nw.map (·.1)) own (J (i + 1))) E { s with heap := h, toks := tk })
    (done : ∀ m nx, J n m nx → R m nx)
    (hs : ∀ x, foldedSetIterable iter env x = pure x := by intro _; rfl)
    (hE : PassesOwn (model prog w) A env E := by passes_own) :
    wpAny (model prog w) A (exec (.For (.Name x px) iter body [] pos) env) (CutN Q g L s R) E { s with heap := h₀, toks := tk₀ } := by
  subst hL
  refine For_invV g hx hp (wpAny_mono hiter (fun xv s₁ h₁ => wpAny_mono h₁ (fun it s₂ h₂ => ?_) fun _ _ e => e) fun _ _ e => e) hs hE
  obtain ⟨I, fp, wr, P, St, h, tk, m, news, rfl, rfl, W, hlive, hst, hLf, hwr, hnw, hmods, F, N, hJ, hP⟩ := h₂
  refine ⟨I, fp, wr, n, P, St, m, news, J, rfl, W, hLf, hwr, hnw, hst, F, N, hJ, ?_, ?_⟩
  · rintro i v m₁ nw s₁ own ⟨hh, tk', rfl⟩ hi hPv hJi hoff hown _ hin hst' F₁ N₁
    have N₂ : News g env.locals hh (nw ++ own) := fun p hp => N₁ p ((List.mem_append.mp hp).elim (fun h => List.mem_append.mpr (.inr h)) fun h => List.mem_append.mpr (.inl h))
    refine wpAny_mono (turn i v m₁ nw hh tk' own hi (hP i v hPv) hJi (fun p hp b hb e => hmods b hb (e ▸ hown p hp)) F₁ N₂) (fun f s₂ p => ?_) fun _ _ e => e
    rcases p with ⟨rfl, h', tk₂, m', nx, rfl, F', N', hadr, hJ'⟩ | ⟨⟨v, rfl⟩, hq⟩
    · refine .next ⟨rfl, h', tk₂, m', nx, rfl, F', fun p hp => N' p ((List.mem_append.mp hp).elim (fun h => List.mem_append.mpr (.inr h)) fun h => List.mem_append.mpr (.inl h)), fun p hp hw => ?_, hJ'⟩
      rcases hadr p hp with ha | ha
      · obtain ⟨q, hq, e⟩ := List.mem_map.mp ha
        exact hoff q hq (e ▸ hw)
      · obtain ⟨o, ho⟩ := hlive _ _ hst' _ hw
        exact ha _ (hin _ (W.sub _ hw) (hwr _ hw) o ho) rfl
    · exact .ret (.inr ⟨⟨v, rfl⟩, hq⟩)
  · rintro h' tk' m' nx F' N' _ hJ'
    exact .inl ⟨rfl, h', tk', m', nx, rfl, F', N', done _ _ hJ'⟩

theorem srcRangeG (hh : A.handled = none) {r : Addr} {n : Nat} {t u v : Tok} {mods : List Addr} {J0 : (Str → Option Value) → List (Addr × Obj) → Prop} (F : Fr g L h₁ m) (N : News g L h₁ news) (hm : ∀ a ∈ mods, ∃ o, h₁.get? a = some o) (hr : IsRange h₁ r 0 n 1 t u v) (hn : n < 2 ^ 60) (j : J0 m news) :
    wpAny (model prog w) A (pyIter (.ref r)) (fun it s₂ => SrcG prog w A g L s mods n (fun i v => ∃ t, v = .int i t) J0 it s₂) E { s with heap := h₁, toks := tk₁ } := by
  refine wpAny_pyIter_range hr (small_one (by omega) (by omega) (by omega) (by omega)) ?_
  have hsz : Builtin.Range.rangeSize 0 n 1 = (n : Int) := by rw [rangeSize_one]; split <;> omega
  have up : Kept h₁ (h₁.push { cls := .type "range_iterator", data := .fields #[rawInt 0, rawInt (Builtin.Range.rangeSize 0 n 1), rawInt 1] }) := fun b o e => Heap.get?_push_of_some _ e
  have ne : ∀ {a o}, h₁.get? a = some o → a ≠ h₁.objs.size := fun e => Nat.ne_of_lt (Heap.lt_size e)
  refine ⟨h₁.objs.size, [h₁.objs.size], [h₁.objs.size], _, _, _, _, m, news, rfl, rfl, Walks.range hh h₁.objs.size 0 1 n, fun i h st b hb => ⟨_, (List.mem_singleton.mp hb) ▸ st⟩, ?_, fun hb => ?_, fun b hb => ?_, fun p hp hb => ?_, fun a ha hb => ?_, Fr.after F up, fun p hp => ⟨up _ _ (N p hp).1, (N p hp).2⟩, j, ?_⟩
  · show IsRangeIter _ _ _ _ _
    rw [hsz]
    simpa using Heap.get?_push_size _ rfl
  · exact Nat.lt_irrefl _ ((List.mem_singleton.mp hb) ▸ F.ns.lt)
  · rw [List.mem_singleton.mp hb]
    cases e : g.get? h₁.objs.size with
    | none => rfl
    | some o => exact absurd rfl (ne (F.keep _ _ e))
  · exact ne (N p hp).1 (List.mem_singleton.mp hb)
  · obtain ⟨o, ho⟩ := hm a ha
    exact ne ho (List.mem_singleton.mp hb)
  · rintro i v ⟨t, e⟩
    exact ⟨t, by simpa using e⟩

theorem srcListG (hh : A.handled = none) {l : Addr} {items : Array Value} {mods : List Addr} {J0 : (Str → Option Value) → List (Addr × Obj) → Prop} (F : Fr g L h₁ m) (N : News g L h₁ news) (hl : h₁.IsList l items) (hlL : l ≠ L) (hm : ∀ a ∈ mods, a ≠ l ∧ ∃ o, h₁.get? a = some o) (j : J0 m news) :
    wpAny (model prog w) A (pyIter (.ref l)) (fun it s₂ => SrcG prog w A g L s mods items.size (fun i v => items[i]? = some v) J0 it s₂) E { s with heap := h₁, toks := tk₁ } := by
  refine wpAny_pyIter_list hl ?_
  have hlt : l < h₁.objs.size := by obtain ⟨_, e, _⟩ := hl; exact Heap.lt_size e
  have up : Kept h₁ (h₁.push { cls := .type "list_iterator", data := .fields #[.ref l, .int 0 0] }) := fun b o e => Heap.get?_push_of_some _ e
  have ne : ∀ {a o}, h₁.get? a = some o → a ≠ h₁.objs.size := fun e => Nat.ne_of_lt (Heap.lt_size e)
  refine ⟨h₁.objs.size, [h₁.objs.size, l], [h₁.objs.size], _, _, _, _, m, news, rfl, rfl, Walks.list hh h₁.objs.size l (Nat.ne_of_lt hlt) items, fun i h st b hb => ?_, ⟨⟨_, Heap.get?_push_size _ rfl, rfl, rfl⟩, hl.push _⟩, fun hb => ?_, fun b hb => ?_, fun p hp hb => ?_, fun a ha hb => ?_, Fr.after F up, fun p hp => ⟨up _ _ (N p hp).1, (N p hp).2⟩, j, fun i v hv => hv⟩
  · obtain ⟨⟨o, ho, _⟩, _⟩ := st
    exact ⟨o, by rw [List.mem_singleton.mp hb]; exact ho⟩
  · simp only [List.mem_cons, List.not_mem_nil, or_false] at hb
    rcases hb with hb | hb
    · exact Nat.ne_of_lt F.ns.lt hb
    · exact hlL hb.symm
  · rw [List.mem_singleton.mp hb]
    cases e : g.get? h₁.objs.size with
    | none => rfl
    | some o => exact absurd rfl (ne (F.keep _ _ e))
  · exact ne (N p hp).1 (List.mem_singleton.mp hb)
  · obtain ⟨hne, o, ho⟩ := hm a ha
    simp only [List.mem_cons, List.not_mem_nil, or_false] at hb
    rcases hb with hb | hb
    · exact ne ho hb
    · exact hne hb
end
end Mine
end
section
open PySem PySem.W PyProof.Rows PySem.Calls
set_option maxRecDepth 100000
namespace Mine
section
variable {prog : Program} {w : World} {A : Around} {E : Value → Shared → Prop} {s : Shared} {g : Heap} {L : Addr} {m : Str → Option Value} {news : List (Addr × Obj)}
/-- a list's rest from place n on -/
theorem rest_of {l : Addr} {vs : List Value} {n : Nat} {t : Tok} {ns : List Int} {value slice : Expr} {Q : Value → Shared → Prop} (F : Fr g L s.heap m) (N : News g L s.heap news) (hl : s.heap.IsList l vs.toArray) (hi : IntsAre vs ns)
    (h : ∀ D ws h', Fr g L h' m → News g L h' ((D, W.listOf (List.toArray ws) 0) :: news) → (∀ p ∈ news, p.1 < D) → IntsAre ws (ns.drop n) → Q (.ref D) { s with heap := h' })
    (hs : subscripted slice false (.ref l) (.ref s.heap.objs.size) = operate [.ref s.heap.objs.size, .ref l] (getItem (.ref l) (.ref s.heap.objs.size))) (hz : vs.length ≤ 1000) :
    wpAny (model prog w) A (subscriptTail value slice (.ref l) (.ref s.heap.objs.size)) Q E { s with heap := s.heap.push { cls := .type "slice", data := .fields #[.int n t, .none, .none] } } := by
  refine kba_turn (value' := PySem.Expr.Name (PySem.Str.ofString "_") ⟨0, 0, 0, 0⟩) (fun _ => rfl) ?_
  refine kmk_slice_ints (lo := some (n : Int)) (hi := none) (ms := ns.drop n) (c := (ns.drop n).length) F N hl (IsPart.int _ _) IsPart.none hi ?_ rfl (fun D ws h' F' N' l1 hi' _ _ => h D ws h' F' N' l1 hi') hs (fun _ => rfl) (by rw [List.size_toArray]; exact Nat.le_trans hz (by decide))
  have := slice_ints_fromW hi (x := (n : Int)) (by omega)
  simpa using this
end
end Mine
namespace Mine
theorem skip1 {g : Heap} {L : Addr} {h : Heap} {a b : Addr × Obj} {r : List (Addr × Obj)} (N : PyProof.Rows.News g L h (a :: b :: r)) : PyProof.Rows.News g L h (a :: r) := fun p hp => N p (by
  rcases List.mem_cons.mp hp with rfl | hp
  · exact .head _
  · exact .tail _ (.tail _ hp))
def nums (ks : List Int) : List Int := ks.take 8 ++ [3, 1, 2, 0, 1, 1, 0, 2].drop ks.length
theorem nums_len (ks : List Int) : (nums ks).length = 8 := by
  unfold nums
  rw [List.length_append, List.length_take, List.length_drop]
  simp; omega
end Mine
namespace Mine
open PySem PySem.W PyProof.Rows PySem.Calls
theorem compLed {s : Shared} {g : Heap} {L : Addr} {m : Str → Option Value} {news : List (Addr × Obj)} {n : Nat} {J : Nat → List Value → List (Addr × Obj) → Prop} {Q : Value → Shared → Prop} (F : Fr g L s.heap m) (N : News g L s.heap news)
    (H : ∀ D ys k made h' tk, J n ys made → Fr g L h' m → News g L h' ((D, W.listOf ys.toArray k) :: (made ++ news)) → (∀ p ∈ (D, W.listOf ys.toArray k) :: made, ∀ q ∈ news, p.1 ≠ q.1) → Q (.ref D) { s with heap := h', toks := tk }) : CompOut s n J Q := by
  intro D ys k made h' tk hJ hk hp
  refine H D ys k made h' tk hJ (Fr.after F hk) (fun p hm => ?_) fun p hm q hq e => ?_
  · rw [← List.cons_append] at hm
    rcases List.mem_append.mp hm with hm | hm
    · have z := hp p hm
      refine ⟨z.1, fun e => ?_, ?_⟩
      · obtain ⟨o, _, _, ho, _⟩ := F.ns
        rw [e, ho] at z; cases z.2
      · cases q : g.get? p.1 with
        | none => rfl
        | some o => have := F.keep _ _ q; rw [z.2] at this; cases this
    · exact ⟨hk _ _ (N p hm).1, (N p hm).2⟩
  · have z := (hp p hm).2
    rw [e, (N q hq).1] at z
    cases z
end Mine
end
section
open PySem PySem.W PyProof.Rows PySem.Calls
set_option maxRecDepth 100000
namespace Mine
inductive StrsAt : List Value → List (List Nat) → Prop
  | nil : StrsAt [] []
  | cons (x : List Nat) (t : Tok) {vs xs} : StrsAt vs xs → StrsAt (.str (ofL x) t :: vs) (x :: xs)
theorem StrsAt.len {vs : List Value} {xs : List (List Nat)} (h : StrsAt vs xs) : vs.length = xs.length := by
  induction h with
  | nil => rfl
  | cons x t _ ih => simp [ih]
theorem StrsAt.at {vs : List Value} {xs : List (List Nat)} (h : StrsAt vs xs) : ∀ {i : Nat} {v : Value}, vs[i]? = some v → ∃ x t, v = .str (ofL x) t ∧ xs[i]? = some x := by
  induction h with
  | nil => intro i v e; simp at e
  | cons x t _ ih =>
    intro i v e
    cases i with
    | zero => simp at e; exact ⟨x, t, e.symm, by simp⟩
    | succ i => simp at e; obtain ⟨y, u, e1, e2⟩ := ih e; exact ⟨y, u, e1, by simpa using e2⟩
theorem StrsAt.snoc {vs : List Value} {xs : List (List Nat)} (h : StrsAt vs xs) (x : List Nat) (t : Tok) : StrsAt (vs ++ [.str (ofL x) t]) (xs ++ [x]) := by
  induction h with
  | nil => exact .cons _ _ .nil
  | cons y u _ ih => exact .cons _ _ ih
theorem ints_len {vs : List Value} {xs : List Int} (h : IntsAre vs xs) : vs.length = xs.length := by
  induction h with
  | nil => rfl
  | cons _ _ _ ih => simp [ih]
theorem ints_at {vs : List Value} {xs : List Int} (h : IntsAre vs xs) : ∀ {i : Nat} {v : Value}, vs[i]? = some v → ∃ x t, v = .int x t ∧ xs[i]? = some x := by
  induction h with
  | nil => intro i v e; simp at e
  | cons x t _ ih =>
    intro i v e
    cases i with
    | zero => simp at e; exact ⟨x, t, e.symm, by simp⟩
    | succ i => simp at e; obtain ⟨y, u, e1, e2⟩ := ih e; exact ⟨y, u, e1, by simpa using e2⟩

def endOf3 (f : Int) : List Nat := if f = 0 then [10] else if f = 1 then [13, 10] else [13]
def spell (fs : List Int) (rs : List (List Nat)) : List Nat := (List.zipWith (fun f r => endOf3 f ++ r) fs rs).flatten


theorem StrsAt.are {vs : List Value} {xs : List (List Nat)} (h : StrsAt vs xs) : StrsAre vs (xs.map ofL) := by
  induction h with
  | nil => exact .nil
  | cons x t _ ih => exact .cons _ _ ih
theorem cat_ofL (a b : List Nat) : ofL a ++ ofL b = ofL (a ++ b) := by
  show (⟨_⟩ : Str) = ⟨_⟩
  simp [ofL]
theorem fold_ofL (xs : List (List Nat)) : ∀ a : List Nat, (xs.map ofL).foldl HAppend.hAppend (ofL a) = ofL (a ++ xs.flatten) := by
  induction xs with
  | nil => intro a; simp
  | cons x xs ih => intro a; rw [List.map_cons, List.foldl_cons, cat_ofL, ih]; simp
theorem join_flat (xs : List (List Nat)) : Txt.join (ofL []) (xs.map ofL) = ofL xs.flatten := by
  have h := fold_cat_join_nil (xs.map ofL)
  have h2 := fold_ofL xs []
  rw [show (⟨#[]⟩ : Str) = ofL [] from rfl] at h
  rw [h2] at h
  rw [beq_iff_eq.mp (join_plain_closes (ofL []) (xs.map ofL))]
  simpa using h.symm
theorem join_use {prog : Program} {w : World} {A : Around} {E : Value → Shared → Prop} {s : Shared} {t : Tok} {Q : Value → Shared → Prop} {D : Addr} {ys : List Value} {xs : List (List Nat)} (hl : s.heap.IsList D ys.toArray) (hi : StrsAt ys xs) (hok : xs.flatten.length ≤ 16777216)
    (h : ∀ t' k, Q (.str (ofL xs.flatten) t') { s with toks := k }) : wpAny (model prog w) A (call (.builtin "str.join") [.str (ofL []) t, .ref D]) Q E s := by
  refine join_list hl (ys := xs.map ofL) (by simpa using hi.are) ?_ (by rw [join_flat]; exact h)
  have e : ((xs.map ofL).map (·.length)).sum = xs.flatten.length := by
    rw [List.length_flatten, List.map_map]
    congr 1
  rw [e]
  simpa [ofL_len] using hok

/-- a name of a comprehension's own -/
theorem cmpName {M : Model} {A : Around} {E : Value → Shared → Prop} {s : Shared} {g : Heap} {scope : Scope} {cl : List (Str × Addr)} {C : Addr} {env : Env} {x : Str} {pos : Pos} {v : Value} {m : Str → Option Value} {Q : Value → Shared → Prop} (F : Fr g C s.heap m)
    (hx : (compEnvC scope cl C env).kindOf x = some .local) (hv : m x = some v) (h : Q v s) (hk : (compEnvC scope cl C env).scope.kind = .function) (hb : (x == ("__debug__" : Str)) = false) :
    wpAny M A (eval (.Name x pos) (compEnvC scope cl C env)) Q E s := wpAny_Name (wpAny_loadName_local hk hx F.ns hv h) hb

theorem add_use {prog : Program} {w : World} {A : Around} {E : Value → Shared → Prop} {s : Shared} {t u : Tok} {x y : Str} {Q : Value → Shared → Prop} (hs : x.length + y.length ≤ 16777216) (h : ∀ t' k, Q (.str (ofL (x.cps.toList ++ y.cps.toList)) t') { s with toks := k }) :
    wpAny (model prog w) A (binaryOp .Add (.str x t) (.str y u)) Q E s := by
  refine PyProof.Rows.add_str (fun t' k => ?_) (Nat.le_trans hs (by decide))
  have e : x ++ y = ofL (x.cps.toList ++ y.cps.toList) := by
    show (⟨_⟩ : Str) = ⟨_⟩
    simp [ofL]
  rw [e]
  exact h t' k
theorem flatten_le (B : Nat) : ∀ l : List (List Nat), (∀ x ∈ l, x.length ≤ B) → l.flatten.length ≤ l.length * B
  | [], _ => by simp
  | x :: l, h => by
    have h1 := h x (.head _)
    have h2 := flatten_le B l fun y hy => h y (.tail _ hy)
    rw [List.flatten_cons, List.length_append, List.length_cons, Nat.succ_mul]
    omega
end Mine
end
section
open PySem PySem.W PyProof.Rows PySem.Calls
set_option maxRecDepth 100000
namespace Mine
/-- lists of ints, each its own object -/
inductive ListsAt : List Value → List (Addr × Obj) → List (List Int) → Prop
  | nil : ListsAt [] [] []
  | cons (D : Addr) (vs : List Value) (k : Nat) (ns : List Int) {rs ls nss} : IntsAre vs ns → ListsAt rs ls nss → ListsAt (.ref D :: rs) ((D, W.listOf vs.toArray k) :: ls) (ns :: nss)
theorem ListsAt.snoc {rs : List Value} {ls : List (Addr × Obj)} {nss : List (List Int)} (h : ListsAt rs ls nss) (D : Addr) (vs : List Value) (k : Nat) (ns : List Int) (hi : IntsAre vs ns) : ListsAt (rs ++ [.ref D]) (ls ++ [(D, W.listOf vs.toArray k)]) (nss ++ [ns]) := by
  induction h with
  | nil => exact .cons D vs k ns hi .nil
  | cons D' vs' k' ns' hi' _ ih => exact .cons D' vs' k' ns' hi' ih
theorem ListsAt.len {rs : List Value} {ls : List (Addr × Obj)} {nss : List (List Int)} (h : ListsAt rs ls nss) : rs.length = nss.length ∧ ls.length = nss.length := by
  induction h with
  | nil => exact ⟨rfl, rfl⟩
  | cons D' vs' k' ns' hi' _ ih => exact ⟨by simp [ih.1], by simp [ih.2]⟩
theorem ListsAt.at {rs : List Value} {ls : List (Addr × Obj)} {nss : List (List Int)} (h : ListsAt rs ls nss) : ∀ {i : Nat} {v : Value}, rs[i]? = some v → ∃ D vs k ns, v = .ref D ∧ (D, W.listOf vs.toArray k) ∈ ls ∧ IntsAre vs ns ∧ nss[i]? = some ns := by
  induction h with
  | nil => intro i v e; simp at e
  | cons D vs k ns hi _ ih =>
    intro i v e
    cases i with
    | zero => simp at e; exact ⟨D, vs, k, ns, e.symm, .head _, hi, by simp⟩
    | succ i =>
      simp at e
      obtain ⟨D', vs', k', ns', e1, e2, e3, e4⟩ := ih e
      exact ⟨D', vs', k', ns', e1, .tail _ e2, e3, by simpa using e4⟩

section
variable {prog : Program} {w : World} {A : Around} {E : Value → Shared → Prop} {s : Shared} {g : Heap} {L : Addr} {m : Str → Option Value}
theorem sz_ok {vs : List Value} (h : vs.length ≤ 1000000) : vs.toArray.size < sizeLine := by
  have : (1000000 : Nat) < sizeLine := by decide
  rw [List.size_toArray]
  omega
theorem append_use {B : Addr} {vs : List Value} {k : Nat} {v : Value} {own rest : List (Addr × Obj)} {Q : Value → Shared → Prop} (F : Fr g L s.heap m) (N : News g L s.heap (own ++ (B, W.listOf vs.toArray k) :: rest)) (h1 : ∀ p ∈ own, p.1 ≠ B) (h2 : ∀ p ∈ rest, p.1 ≠ B) (hz : vs.length ≤ 1000000)
    (h : ∀ h' k', Fr g L h' m → News g L h' (own ++ (B, W.listOf (vs ++ [v]).toArray k') :: rest) → Q .none { s with heap := h' }) :
    wpAny (model prog w) A (call (.builtin "list.append") [.ref B, v]) Q E s := by
  have hB := N (B, W.listOf vs.toArray k) (List.mem_append_right _ (.head _))
  refine wpAny_list_append_plain (items := vs.toArray) (hsz := Nat.le_of_lt (sz_ok hz)) ⟨k, hB.1⟩ fun h' hl hs => ?_
  obtain ⟨k', hD⟩ := hl
  refine h h' k' ⟨F.ns.sameBut hs (Ne.symm hB.2.1), fun b ob e => (hs.2 b (fun q => ?_)).trans (F.keep b ob e), F.above⟩ (N.setAt h1 h2 hs (by simpa [W.listOf] using hD))
  rw [q, hB.2.2] at e; cases e
theorem srcZipN (hh : A.handled = none) {l1 l2 : Addr} {xs ys : Array Value} {a b : Str} {pa pb tp : Pos} {kk n : Nat} {P' : Nat → List Value → Prop} {h₁ : Heap} {tk₁ : Tok} (hk : Kept s.heap h₁) (hz : s.heap.objs.size ≤ h₁.objs.size) (hl1 : h₁.IsList l1 xs) (hl2 : h₁.IsList l2 ys)
    (hn : min xs.size ys.size = n) (hP : ∀ i x y, xs[i]? = some x → ys[i]? = some y → P' i [x, y]) :
    wpAny (model prog w) A (call (.type "zip") [.ref l1, .ref l2]) (fun xv s₁ => wpAny (model prog w) A (pyIter xv) (fun it s₂ => Src prog w A s (.Tuple [.Name a pa, .Name b pb] kk tp) [a, b] n P' it s₂) E s₁) E { s with heap := h₁, toks := tk₁ } := by
  subst hn
  refine wpAny_mono (srcZip (a := a) (b := b) (pa := pa) (pb := pb) (tp := tp) (kk := kk) hh hk hz hl1 hl2) (fun xv s₁ h => wpAny_mono h (fun it s₂ h2 => ?_) fun _ _ e => e) fun _ _ e => e
  obtain ⟨I, fp, wr, P, St, h, tk, e1, e2, B, hst, hfp, hwr, hk', hz', hPP⟩ := h2
  refine ⟨I, fp, wr, P, St, h, tk, e1, e2, B, hst, hfp, hwr, hk', hz', fun i vals hv => ?_⟩
  obtain ⟨x, y, rfl, h1, h2⟩ := hPP i vals hv
  exact hP i x y h1 h2
theorem newList_use {items : List Value} {Q : Value → Shared → Prop} (F : Fr g L s.heap m) (hz : items.length ≤ 1000)
    (h : ∀ h' D, Fr g L h' m → Kept s.heap h' → s.heap.objs.size ≤ h'.objs.size → h'.IsList D items.toArray → Q (.ref D) { s with heap := h' }) : wpAny (model prog w) A (newList items) Q E s := by
  refine wpAny_newList (h _ _ (F.push _) (fun b o e => Heap.get?_push_of_some _ e) (by rw [Heap.size_push]; exact Nat.le_succ _) ⟨_, Heap.get?_push_size _ rfl, rfl, _, rfl⟩) (Nat.le_trans hz (by decide))
theorem newListN {items : List Value} {news : List (Addr × Obj)} {Q : Value → Shared → Prop} (F : Fr g L s.heap m) (N : News g L s.heap news) (hz : items.length ≤ 1000)
    (h : ∀ h' D, Fr g L h' m → News g L h' ((D, W.listOf items.toArray 0) :: news) → (∀ q ∈ news, D ≠ q.1) → Q (.ref D) { s with heap := h' }) : wpAny (model prog w) A (newList items) Q E s := by
  refine wpAny_newList (h _ _ (F.push _) (News.push F N _) fun q hq e => ?_) (Nat.le_trans hz (by decide))
  exact absurd (Heap.lt_size (N q hq).1) (e ▸ Nat.lt_irrefl _)
theorem srcListN (hh : A.handled = none) {l : Addr} {items : List Value} {n : Nat} {mods : List Addr} {J0 : (Str → Option Value) → List (Addr × Obj) → Prop} {h₁ : Heap} {tk₁ : Tok} {news : List (Addr × Obj)} (F : Fr g L h₁ m) (N : News g L h₁ news) (hl : h₁.IsList l items.toArray) (hlL : l ≠ L) (hm : ∀ a ∈ mods, a ≠ l ∧ ∃ o, h₁.get? a = some o) (hn : items.length = n) (j : J0 m news) :
    wpAny (model prog w) A (pyIter (.ref l)) (fun it s₂ => SrcG prog w A g L s mods n (fun i v => items[i]? = some v) J0 it s₂) E { s with heap := h₁, toks := tk₁ } := by
  subst hn
  have := srcListG (prog := prog) (w := w) (A := A) (E := E) (s := s) (tk₁ := tk₁) (J0 := J0) (mods := mods) hh F N hl hlL hm j
  simpa using this
end
end Mine
end
section
open PySem PySem.W PyProof.Rows PySem.Calls
namespace Mine
set_option maxRecDepth 100000
set_option maxHeartbeats 8000000

local macro_rules | `(tactic| walk_at "eval Name") => `(tactic| ((try dsimp only); refine cmpName (by assumption) rfl rfl ?_ rfl rfl; (try dsimp only)))
local macro_rules | `(tactic| walk_at "call type:zip") => `(tactic| (exact srcZip rfl (by exact fun _ _ e => e) (Nat.le_refl _) (by assumption) (by assumption)))
theorem sizes_ok {a : Str} {r : List Nat} (h : a.length + r.length ≤ 16777216) : a.length + (ofL r).length ≤ 16777216 := by rw [ofL_len]; exact h

theorem spell_step (fs : List Int) (rs : List (List Nat)) {i : Nat} {f : Int} {r : List Nat} (hf : fs[i]? = some f) (hr : rs[i]? = some r) :
    (List.zipWith (fun f r => endOf3 f ++ r) fs rs).take (i + 1) = (List.zipWith (fun f r => endOf3 f ++ r) fs rs).take i ++ [endOf3 f ++ r] := by
  rw [List.take_add_one, List.getElem?_zipWith, hf, hr]
  rfl
theorem spell_len (fs : List Int) (rs : List (List Nat)) (hlen : fs.length ≤ 100) (hrl : ∀ r ∈ rs, r.length ≤ 100) : (spell fs rs).length ≤ 16777216 := by
  have h := flatten_le 102 (List.zipWith (fun f r => endOf3 f ++ r) fs rs) fun x hx => by
    obtain ⟨i, hi⟩ := List.mem_iff_getElem?.mp hx
    rw [List.getElem?_zipWith] at hi
    cases e1 : fs[i]? with
    | none => rw [e1] at hi; cases hi
    | some f =>
      cases e2 : rs[i]? with
      | none => rw [e1, e2] at hi; cases hi
      | some r =>
        rw [e1, e2] at hi
        have := hrl r (List.mem_of_getElem? e2)
        have e3 : (endOf3 f).length ≤ 2 := by unfold endOf3; split <;> (try split) <;> simp
        cases hi
        rw [List.length_append]; omega
  rw [List.length_zipWith] at h
  have h2 : min fs.length rs.length ≤ 100 := Nat.le_trans (Nat.min_le_left _ _) hlen
  have h3 : min fs.length rs.length * 102 ≤ 100 * 102 := Nat.mul_le_mul_right _ h2
  unfold spell
  omega

theorem spelled_ok (w : World) (mean : ExcName → Option Value) (mg mb : Str → Option Value) (A : Around) (s : Shared) (Q E : Value → Shared → Prop)
    (lf lr : Addr) (fv rv : List Value) (fs : List Int) (rs : List (List Nat))
    (X : (hd.heap_39 w.params).In s.heap) (T : Top hd.view_39 (looseW hd.view_39 [Str.ofString "_twin_re_1", Str.ofString "_twin_re_2", Str.ofString "insort_right", Str.ofString "bisect_right", Str.ofString "bisect_left"]) mean mg mb s.heap)
    (hh : A.handled = none) (hd0 : A.depth + 5 < recursionLimit) (hu : A.units + 30 < cLine) (hl : s.heap.IsList lf fv.toArray) (hl2 : s.heap.IsList lr rv.toArray) (hi : IntsAre fv fs) (hr : StrsAt rv rs) (hf : ∀ f ∈ fs, f = 0 ∨ f = 1 ∨ f = 2) (hlen : fs.length ≤ 100) (hrl : ∀ r ∈ rs, r.length ≤ 100)
    (hret : ∀ t h' tk, Kept s.heap h' → Q (.str (ofL (spell fs rs)) t) { s with heap := h', toks := tk }) :
    wpAny (model PySem.Challenge.rw_pg0173_01.row.prog w) A (call (.ref 94) [.ref lf, .ref lr]) Q E s := by
  w_top off
  obtain ⟨hA, dp, fr, gd, un⟩ := A
  obtain rfl : hA = none := hh
  dsimp only at hd0 hu
  revert X; k_fill; intro X
  have hd1 : (Around.mk none dp fr gd un).depth < recursionLimit := by dsimp only; omega
  (refine' enter ?kX ?kT ?k8 ?k6 ?k7 ?k9 ?kB ?c2 ?c3 ?c4 ?c5 ?_; (case kX => assumption); (case kT => assumption); (case k6 => k_is); (case k7 => k_is); (case k8 => assumption); (case k9 => first | exact BindsTo.of_eq rfl | exact kp_binds (by assumption) (fun _ => rfl)); (case c5 => decide); (case kB => exact locs rfl); (case c2 => exact rfl); (case c3 => exact rfl); (case c4 => exact rfl))
  intro L h1 tk1 F N
  obtain ⟨m0, F0, q0⟩ : ∃ m, Fr s.heap L h1 m ∧ has [(Str.ofString "figures", .ref lf), (Str.ofString "rows", .ref lr)] m := ⟨_, F, has.cons rfl (has.cons rfl has.nil)⟩
  clear F
  have F1 := has.fr F0 q0
  clear F0 q0
  iterate 7 (first | (k_unfold; (try dsimp only)) | walk1 | (dsimp only; walk1) | (leave1; (try dsimp only)) | skip)
  refine compR (s := Shared.mk _ _ _ _ _) (cl := []) (names := [Str.ofString "figure", Str.ofString "row"]) (n := min fv.toArray.size rv.toArray.size) (P' := fun i vals => ∃ x y, vals = [x, y] ∧ fv.toArray[i]? = some x ∧ rv.toArray[i]? = some y) (by rfl) (by decide) (by rfl) (by decide) (by decide) ?hn
    (fun i ys made => made = [] ∧ StrsAt ys ((List.zipWith (fun f r => endOf3 f ++ r) fs rs).take i)) ?j0 ?it ?turn ?done
  case hn =>
    refine Nat.le_trans (Nat.min_le_left _ _) ?_
    rw [List.size_toArray, ints_len hi]
    exact Nat.le_trans hlen (by decide)
  case j0 => exact ⟨rfl, .nil⟩
  case it =>
    have hl1 : h1.IsList lf fv.toArray := hl.at fun o e => F1.keep _ o e
    have hl2' : h1.IsList lr rv.toArray := hl2.at fun o e => F1.keep _ o e
    iterate 8 (first | (k_unfold; (try dsimp only)) | walk1 | (dsimp only; walk1) | (leave1; (try dsimp only)) | skip)
    exact srcZip (s := Shared.mk _ _ _ _ _) rfl (fun _ _ e => e) (Nat.le_refl _) hl1 hl2'
  case turn =>
    intro i ys made C h2 tk2 m2 own vals hin hJ hln hP F2 N2
    dsimp only at F2 N2
    rw [List.forIn_nil]
    refine wpAny_pure ?_
    rw [if_pos rfl]
    obtain ⟨x, y, rfl, hx, hy⟩ := hP
    rw [List.getElem?_toArray] at hx hy
    obtain ⟨f, ft, rfl, hfx⟩ := ints_at hi hx
    obtain ⟨r, rt, rfl, hrx⟩ := StrsAt.at hr hy
    have F3 := has.fr F2 (ps := [(Str.ofString "figure", .int f ft), (Str.ofString "row", .str (ofL r) rt)]) (has.cons rfl (has.cons rfl has.nil))
    clear F2
    have hf3 := hf f (List.mem_of_getElem? hfx)
    have hr3 := hrl r (List.mem_of_getElem? hrx)
    have step := spell_step fs rs hfx hrx
    obtain ⟨rfl, hys⟩ := hJ
    have z1 : (Str.ofString "\n").length + r.length ≤ 16777216 := by rw [show (Str.ofString "\n").length = 1 from rfl]; omega
    have z2 : (Str.ofString "\r\n").length + r.length ≤ 16777216 := by rw [show (Str.ofString "\r\n").length = 2 from rfl]; omega
    have z3 : (Str.ofString "\r").length + r.length ≤ 16777216 := by rw [show (Str.ofString "\r").length = 1 from rfl]; omega
    have e0 : Str.ofString "\n" ++ ofL r = ofL (endOf3 0 ++ r) := cat_ofL [10] r
    have e1 : Str.ofString "\r\n" ++ ofL r = ofL (endOf3 1 ++ r) := cat_ofL [13, 10] r
    have e2 : Str.ofString "\r" ++ ofL r = ofL (endOf3 2 ++ r) := cat_ofL [13] r
    rcases hf3 with rfl | rfl | rfl
    all_goals
      iterate 30 (first | (k_unfold; (try dsimp only)) | walk1 | (dsimp only; walk1) | (leave1; (try dsimp only)) | skip)
      refine EltEnd.mk (by assumption) (fun p hp => ?N) ⟨rfl, ?_⟩
      case N => exact (by assumption : News _ _ _ (_ :: _)) p (.tail _ hp)
      rw [step]
      first | (rw [e0]; exact hys.snoc _ _) | (rw [e1]; exact hys.snoc _ _) | (rw [e2]; exact hys.snoc _ _)
  case done =>
    intro D ys k made h' tk ⟨hm, hys⟩ hk hp
    dsimp only at hk hp
    have hD := (hp _ (.head _)).1
    rw [List.take_of_length_le (by rw [List.length_zipWith, ← ints_len hi, ← hr.len, List.size_toArray, List.size_toArray]; exact Nat.le_refl _)] at hys
    have hDl : h'.IsList D ys.toArray := ⟨_, hD, rfl, _, rfl⟩
    iterate 1 (first | (k_unfold; (try dsimp only)) | walk1 | (dsimp only; walk1) | (leave1; (try dsimp only)) | skip)
    refine join_use (t := tk1) hDl hys (spell_len fs rs hlen hrl) fun t' k' => ?_
    dsimp only [flowVal]
    exact hret t' h' k' (fun b o e => hk b o (F1.keep b o e))
end Mine
end
section
open PySem PySem.W PyProof.Rows PySem.Calls
set_option maxRecDepth 100000
namespace Mine
/-- a list of the ledger -/
def LAt (nx : List (Addr × Obj)) (a : Addr) (vs : List Value) : Prop := ∃ k, (a, W.listOf vs.toArray k) ∈ nx
/-- a cell of the ledger -/
def CAt (nx : List (Addr × Obj)) (c : Addr) (v : Option Value) : Prop := ∃ o : Obj, (c, o) ∈ nx ∧ o.data = .cell v
/-- lists of ints of the ledger -/
inductive RowsAt (nx : List (Addr × Obj)) : List Value → List (List Int) → Prop
  | nil : RowsAt nx [] []
  | cons {D : Addr} {vs : List Value} {ns : List Int} {rs : List Value} {nss : List (List Int)} : LAt nx D vs → IntsAre vs ns → RowsAt nx rs nss → RowsAt nx (.ref D :: rs) (ns :: nss)
section
variable {nx nx' : List (Addr × Obj)} {g h : Heap} {L : Addr}
theorem LAt.mono {a : Addr} {vs : List Value} (hs : ∀ p ∈ nx, p ∈ nx') : LAt nx a vs → LAt nx' a vs := fun ⟨k, hk⟩ => ⟨k, hs _ hk⟩
theorem CAt.mono {a : Addr} {v : Option Value} (hs : ∀ p ∈ nx, p ∈ nx') : CAt nx a v → CAt nx' a v := fun ⟨k, hk, hd⟩ => ⟨k, hs _ hk, hd⟩
theorem LAt.list {a : Addr} {vs : List Value} (l : LAt nx a vs) (N : News g L h nx) : h.IsList a vs.toArray := by
  obtain ⟨k, hk⟩ := l
  exact ⟨_, (N _ hk).1, rfl, _, rfl⟩
theorem LAt.ne {a : Addr} {vs : List Value} (l : LAt nx a vs) (N : News g L h nx) : a ≠ L := by
  obtain ⟨k, hk⟩ := l
  exact (N _ hk).2.1
theorem LAt.off {a c : Addr} {vs : List Value} {v : Option Value} (l : LAt nx a vs) (N : News g L h nx) (hc : CAt nx c v) : a ≠ c := by
  rintro rfl
  obtain ⟨k, hk⟩ := l
  obtain ⟨o, ho, hd⟩ := hc
  have h1 := (N _ hk).1
  have h2 := (N _ ho).1
  dsimp only at h1 h2
  rw [h1] at h2
  cases h2
  cases hd
theorem RowsAt.up {rs : List Value} {nss : List (List Int)} (hu : ∀ a vs, LAt nx a vs → LAt nx' a vs) (h : RowsAt nx rs nss) : RowsAt nx' rs nss := by
  induction h with
  | nil => exact .nil
  | cons l i _ ih => exact .cons (hu _ _ l) i ih
theorem RowsAt.len {rs : List Value} {nss : List (List Int)} (h : RowsAt nx rs nss) : rs.length = nss.length := by
  induction h with
  | nil => rfl
  | cons l i _ ih => simp [ih]
theorem RowsAt.at {rs : List Value} {nss : List (List Int)} (h : RowsAt nx rs nss) : ∀ {i : Nat} {v : Value}, rs[i]? = some v → ∃ D vs ns, v = .ref D ∧ LAt nx D vs ∧ IntsAre vs ns ∧ nss[i]? = some ns := by
  induction h with
  | nil => intro i v e; simp at e
  | @cons D vs ns _ _ l hi _ ih =>
    intro i v e
    cases i with
    | zero => simp at e; exact ⟨D, vs, ns, e.symm, l, hi, by simp⟩
    | succ i =>
      simp at e
      obtain ⟨D', vs', ns', e1, e2, e3, e4⟩ := ih e
      exact ⟨D', vs', ns', e1, e2, e3, by simpa using e4⟩
theorem RowsAt.snoc {rs : List Value} {nss : List (List Int)} {D : Addr} {vs : List Value} {ns : List Int} (h : RowsAt nx rs nss) (l : LAt nx D vs) (hi : IntsAre vs ns) : RowsAt nx (rs ++ [.ref D]) (nss ++ [ns]) := by
  induction h with
  | nil => exact .cons l hi .nil
  | cons l' i' _ ih => exact .cons l' i' ih
theorem ListsAt.rows {rs : List Value} {ls : List (Addr × Obj)} {nss : List (List Int)} (h : ListsAt rs ls nss) (hs : ∀ p ∈ ls, p ∈ nx) : RowsAt nx rs nss := by
  induction h with
  | nil => exact .nil
  | cons D vs k ns hi _ ih => exact .cons ⟨k, hs _ (.head _)⟩ hi (ih fun p hp => hs p (.tail _ hp))
/-- rows picked by their places -/
theorem RowsAt.pick {rs : List Value} {nss : List (List Int)} (h : RowsAt nx rs nss) : ∀ {p : List Nat}, (∀ i ∈ p, i < rs.length) → RowsAt nx (p.map fun i => rs.getD i .none) (p.map fun i => nss.getD i [])
  | [], _ => .nil
  | i :: p, hp => by
    have hi := hp i (.head _)
    obtain ⟨D, vs, ns, e1, l, hI, e2⟩ := h.at (List.getElem?_eq_getElem hi)
    rw [List.map_cons, List.map_cons]
    have x1 : rs.getD i .none = .ref D := by rw [List.getD_eq_getElem?_getD, List.getElem?_eq_getElem hi, Option.getD_some, e1]
    have x2 : nss.getD i [] = ns := by rw [List.getD_eq_getElem?_getD, e2, Option.getD_some]
    rw [x1, x2]
    exact .cons l hI (h.pick fun j hj => hp j (.tail _ hj))
end
section
variable {M : Model} {A : Around} {E : Value → Shared → Prop} {s : Shared} {g : Heap} {L : Addr} {m : Str → Option Value} {nx : List (Addr × Obj)} {name : Str} {scope : Scope} {a : Addr} {cd : Value}
theorem stCell {x : Str} {c : Addr} {v₀ : Option Value} {v : Value} {Q : Unit → Shared → Prop} (F : Fr g L s.heap m) (N : News g L s.heap nx)
    (hc : (cellsFrom (L + 1) scope.names []).lookup x = some c) (hC : CAt nx c v₀)
    (h : ∀ h' nx', Fr g L h' m → News g L h' nx' → (∀ a vs, LAt nx a vs → LAt nx' a vs) → (∀ c' v', c' ≠ c → CAt nx c' v' → CAt nx' c' v') → CAt nx' c (some v) → Q () { s with heap := h' })
    (hk : scope.kind = .function := by rfl) (hl : (envOfC name scope L a cd).kindOf x = some .cell := by rfl) :
    wpAny M A (storeName (envOfC name scope L a cd) x v) Q E s := by
  have hC0 := hC
  obtain ⟨o, ho, hd⟩ := hC
  have N' : News g L s.heap ([] ++ (c, o) :: nx.filter fun p => decide (p.1 ≠ c)) := fun p hp => by
    rcases List.mem_cons.mp hp with rfl | hp
    · exact N _ ho
    · exact N _ (List.mem_filter.mp hp).1
  refine stCN (own := []) F N' hc hd (fun _ hp => nomatch hp) (fun p hp => by simpa using (List.mem_filter.mp hp).2) (fun h' o' F' N'' hd' => ?_) hk hl
  refine h h' _ F' N'' (fun a vs l => ?_) (fun c' v' hne hc' => ?_) ⟨o', .head _, hd'⟩
  · have hne := l.off N hC0
    obtain ⟨k, hk⟩ := l
    exact ⟨k, .tail _ (List.mem_filter.mpr ⟨hk, by simpa using hne⟩)⟩
  · obtain ⟨o2, ho2, hd2⟩ := hc'
    exact ⟨o2, .tail _ (List.mem_filter.mpr ⟨ho2, by simpa using hne⟩), hd2⟩
theorem ldCell {x : Str} {pos : Pos} {c : Addr} {v : Value} {Q : Value → Shared → Prop} (N : News g L s.heap nx) (hc : (cellsFrom (L + 1) scope.names []).lookup x = some c) (hC : CAt nx c (some v)) (h : Q v s)
    (hk : scope.kind = .function := by rfl) (hl : (envOfC name scope L a cd).kindOf x = some .cell := by rfl) (hdb : (x == ("__debug__" : Str)) = false := by decide) :
    wpAny M A (eval (.Name x pos) (envOfC name scope L a cd)) Q E s := by
  obtain ⟨o, ho, hd⟩ := hC
  exact ldCN N hc ho hd h hk hl hdb
end
section
variable {prog : Program} {w : World} {A : Around} {E : Value → Shared → Prop} {s : Shared} {env : Env}
theorem CAt.cell {nx : List (Addr × Obj)} {g h : Heap} {L c : Addr} {v : Option Value} (l : CAt nx c v) (N : News g L h nx) : h.IsCell c v := by
  obtain ⟨o, ho, hd⟩ := l
  exact ⟨o, (N _ ho).1, hd⟩
theorem cell_kept {h h' : Heap} {c : Addr} {v : Option Value} (k : Kept h h') (l : h.IsCell c v) : h'.IsCell c v := by
  obtain ⟨o, ho, hd⟩ := l
  exact ⟨o, k _ _ ho, hd⟩
theorem list_kept {h h' : Heap} {c : Addr} {v : Array Value} (k : Kept h h') (l : h.IsList c v) : h'.IsList c v := l.at fun o e => k _ _ e
/-- a caught name of the outer frame, within a comprehension -/
theorem cmpCell {M : Model} {scope : Scope} {cl : List (Str × Addr)} {C c : Addr} {x : Str} {pos : Pos} {v : Value} {Q : Value → Shared → Prop} (hv : s.heap.IsCell c (some v)) 
    (hx : (compEnvC scope cl C env).kindOf x = some .cell) (hc : cl.lookup x = some c) (h : Q v s) (hk : (compEnvC scope cl C env).scope.kind = .function) (hb : (x == ("__debug__" : Str)) = false) :
    wpAny M A (eval (.Name x pos) (compEnvC scope cl C env)) Q E s := wpAny_Name (wpAny_loadName_cell hk hx hc hv h) hb
/-- an if that is not taken -/
theorem ifSkip {M : Model} {test : Expr} {body : List Stmt} {pos : Pos} {Q : Flow → Shared → Prop} (h : wpAny M A (isTrue test env (eval test env)) (fun r s' => r = false ∧ Q .next s') E s) : wpAny M A (exec (.If test body [] pos) env) Q E s := by
  refine wpAny_If (wpAny_mono h (fun r s' q => ?_) fun _ _ e => e)
  obtain ⟨rfl, q⟩ := q
  simp only [Bool.false_eq_true, if_false]
  rw [execs]
  exact wpAny_pure q
theorem StrsAt.eqAt {xs ys : List Value} {ns : List (List Nat)} (hi : StrsAt xs ns) (hj : StrsAt ys ns) {A : Around} : ∀ j (h1 : j < xs.toArray.size) (h2 : j < ys.toArray.size), SeqAt.EqAt A s xs.toArray[j] ys.toArray[j] true := by
  intro j h1 h2
  rw [List.size_toArray] at h1 h2
  obtain ⟨x, t, e1, e2⟩ := hi.at (List.getElem?_eq_getElem h1)
  obtain ⟨y, u, e3, e4⟩ := hj.at (List.getElem?_eq_getElem h2)
  rw [e2] at e4
  cases e4
  simp only [List.getElem_toArray]
  rw [e1, e3]
  have := SeqAt.EqAt.str_str (A := A) (s := s) (ofL x) t (ofL x) u
  rwa [beq_self_eq_true] at this
theorem ne_strs {a b : Addr} {xs ys : List Value} {ns : List (List Nat)} {Q : Value → Shared → Prop} (ha : s.heap.IsList a xs.toArray) (hb : s.heap.IsList b ys.toArray) (hi : StrsAt xs ns) (hj : StrsAt ys ns) (hu : A.units < cLine) (h : Q (.bool false) s) :
    wpAny (model prog w) A (compareOp .NotEq (.ref a) (.ref b)) Q E s := by
  refine SeqAt.RcNeAt.lists (e := fun _ => true) ha hb (by rw [List.size_toArray, List.size_toArray, hi.len, hj.len]) hu (hi.eqAt hj) prog w E Q ?_
  have : (List.range xs.toArray.size).all (fun _ => true) = true := by simp
  rw [this]
  exact h
end
section
variable {prog : Program} {w : World} {A : Around} {E : Value → Shared → Prop} {s : Shared} {h₁ : Heap} {tk₁ : Tok}
theorem srcListS (hh : A.handled = none) {l : Addr} {items : List Value} {n : Nat} {x : Str} {px : Pos} (hk : Kept s.heap h₁) (hz : s.heap.objs.size ≤ h₁.objs.size) (hl : h₁.IsList l items.toArray) (hn : items.length = n) :
    wpAny (model prog w) A (pyIter (.ref l)) (fun it s₂ => Src prog w A s (.Name x px) [x] n (fun i vals => ∃ v, vals = [v] ∧ items[i]? = some v) it s₂) E { s with heap := h₁, toks := tk₁ } := by
  subst hn
  refine wpAny_mono (srcList (s := s) hh hk hz hl) (fun it s₂ h => ?_) fun _ _ e => e
  have := h.src (x := x) (px := px)
  simpa using this
theorem srcRangeS (hh : A.handled = none) {r : Addr} {n : Nat} {t u v : Tok} {x : Str} {px : Pos} (hk : Kept s.heap h₁) (hz : s.heap.objs.size ≤ h₁.objs.size) (hr : IsRange h₁ r 0 n 1 t u v) (hn : n < 2 ^ 60) :
    wpAny (model prog w) A (pyIter (.ref r)) (fun it s₂ => Src prog w A s (.Name x px) [x] n (fun i vals => ∃ v, vals = [v] ∧ ∃ t, v = .int i t) it s₂) E { s with heap := h₁, toks := tk₁ } := by
  refine wpAny_mono (srcRange (s := s) hh hk hz hr hn) (fun it s₂ h => ?_) fun _ _ e => e
  exact h.src (x := x) (px := px)
end
section
variable {prog : Program} {w : World} {A : Around} {E : Value → Shared → Prop} {s : Shared}
theorem rest_kept {l : Addr} {vs : List Value} {n : Nat} {t : Tok} {ns : List Int} {value slice : Expr} {Q : Value → Shared → Prop} (hl : s.heap.IsList l vs.toArray) (hi : IntsAre vs ns)
    (h : ∀ D ws h', Kept s.heap h' → s.heap.objs.size ≤ h'.objs.size → h'.IsList D (List.toArray ws) → IntsAre ws (ns.drop n) → Q (.ref D) { s with heap := h' })
    (hs : subscripted slice false (.ref l) (.ref s.heap.objs.size) = operate [.ref s.heap.objs.size, .ref l] (getItem (.ref l) (.ref s.heap.objs.size))) (ht : ∀ r, letTemporaryGo value (.ref l) r = pure ()) (hz : vs.length ≤ 1000) :
    wpAny (model prog w) A (subscriptTail value slice (.ref l) (.ref s.heap.objs.size)) Q E { s with heap := s.heap.push { cls := .type "slice", data := .fields #[.int n t, .none, .none] } } := by
  refine slice_listK (lo := some (n : Int)) (hi := none) hl (IsPart.int _ _) IsPart.none ?_ hs ht (by rw [List.size_toArray]; exact Nat.le_trans hz (by decide))
  refine h (s.heap.objs.size + 1) (slicePick vs.toArray (some (n : Int)) none none).toList _ (fun b o e => Heap.get?_push_of_some _ (Heap.get?_push_of_some _ e)) ?_ ?_ ?_
  · rw [Heap.size_push, Heap.size_push]; omega
  · rw [Array.toArray_toList]
    have e := Heap.size_push s.heap { cls := .type "slice", data := .fields #[.int (n : Int) t, .none, .none] }
    rw [← e]
    exact ⟨_, Heap.get?_push_size _ rfl, rfl, _, rfl⟩
  · have := slice_ints_fromW hi (x := (n : Int)) (by omega)
    simpa using this
end
theorem Src.weaken {prog : Program} {w : World} {A : Around} {s s₂ : Shared} {target : Expr} {names : List Str} {n : Nat} {P P' : Nat → List Value → Prop} {it : Value} (h : Src prog w A s target names n P it s₂) (hp : ∀ i vals, P i vals → P' i vals) : Src prog w A s target names n P' it s₂ := by
  obtain ⟨I, fp, wr, P0, St, h, tk, e1, e2, B, hst, hfp, hwr, hk', hz', hPP⟩ := h
  exact ⟨I, fp, wr, P0, St, h, tk, e1, e2, B, hst, hfp, hwr, hk', hz', fun i vals hv => hp _ _ (hPP i vals hv)⟩
section
variable {prog : Program} {w : World} {A : Around} {E : Value → Shared → Prop} {s : Shared} {h₁ : Heap} {tk₁ : Tok}
theorem srcInts (hh : A.handled = none) {l : Addr} {items : List Value} {ns : List Int} {n : Nat} {x : Str} {px : Pos} (hk : Kept s.heap h₁) (hz : s.heap.objs.size ≤ h₁.objs.size) (hl : h₁.IsList l items.toArray) (hi : IntsAre items ns) (hn : ns.length = n) :
    wpAny (model prog w) A (pyIter (.ref l)) (fun it s₂ => Src prog w A s (.Name x px) [x] n (fun i vals => ∃ x t, vals = [.int x t] ∧ ns[i]? = some x) it s₂) E { s with heap := h₁, toks := tk₁ } := by
  refine wpAny_mono (srcListS (s := s) hh hk hz hl (by rw [ints_len hi, hn])) (fun it s₂ h => h.weaken fun i vals => ?_) fun _ _ e => e
  rintro ⟨v, rfl, hv⟩
  obtain ⟨x, t, rfl, hx⟩ := ints_at hi hv
  exact ⟨x, t, rfl, hx⟩
theorem srcStrs (hh : A.handled = none) {l : Addr} {items : List Value} {ns : List (List Nat)} {n : Nat} {x : Str} {px : Pos} (hk : Kept s.heap h₁) (hz : s.heap.objs.size ≤ h₁.objs.size) (hl : h₁.IsList l items.toArray) (hi : StrsAt items ns) (hn : ns.length = n) :
    wpAny (model prog w) A (pyIter (.ref l)) (fun it s₂ => Src prog w A s (.Name x px) [x] n (fun i vals => ∃ x t, vals = [.str (ofL x) t] ∧ ns[i]? = some x) it s₂) E { s with heap := h₁, toks := tk₁ } := by
  refine wpAny_mono (srcListS (s := s) hh hk hz hl (by rw [hi.len, hn])) (fun it s₂ h => h.weaken fun i vals => ?_) fun _ _ e => e
  rintro ⟨v, rfl, hv⟩
  obtain ⟨x, t, rfl, hx⟩ := hi.at hv
  exact ⟨x, t, rfl, hx⟩
theorem srcRows (hh : A.handled = none) {nx : List (Addr × Obj)} {l : Addr} {items : List Value} {ns : List (List Int)} {n : Nat} {x : Str} {px : Pos} (hk : Kept s.heap h₁) (hz : s.heap.objs.size ≤ h₁.objs.size) (hl : h₁.IsList l items.toArray) (hi : RowsAt nx items ns) (hn : ns.length = n) :
    wpAny (model prog w) A (pyIter (.ref l)) (fun it s₂ => Src prog w A s (.Name x px) [x] n (fun i vals => ∃ D vs r, vals = [.ref D] ∧ LAt nx D vs ∧ IntsAre vs r ∧ ns[i]? = some r) it s₂) E { s with heap := h₁, toks := tk₁ } := by
  refine wpAny_mono (srcListS (s := s) hh hk hz hl (by rw [hi.len, hn])) (fun it s₂ h => h.weaken fun i vals => ?_) fun _ _ e => e
  rintro ⟨v, rfl, hv⟩
  obtain ⟨D, vs, r, rfl, a, b, c⟩ := hi.at hv
  exact ⟨D, vs, r, rfl, a, b, c⟩
end
/-- a comprehension's one test -/
theorem oneTest {M : Model} {A : Around} {s : Shared} {c : Expr} {cenv : Env} {Q : Bool → Shared → Prop} (h : wpAny M A (isTrue c cenv (eval c cenv)) Q (fun _ _ => False) s) :
    wpAny M A (forIn [c] true fun c r => if r = true then do let ok ← isTrue c cenv (eval c cenv); pure (ForInStep.yield ok) else pure (ForInStep.yield r)) Q (fun _ _ => False) s := by
  rw [List.forIn_cons, if_pos rfl]
  refine wpAny_bind (wpAny_bind (wpAny_mono h (fun ok s' hq => wpAny_pure ?_) fun _ _ e => e))
  dsimp only
  rw [List.forIn_nil]
  exact wpAny_pure hq
section
variable {prog : Program} {w : World} {A : Around} {E : Value → Shared → Prop} {s : Shared} {h₁ : Heap} {tk₁ : Tok}
theorem srcRowsC (hh : A.handled = none) {nx : List (Addr × Obj)} {l : Addr} {items : List Value} {ns : List (List Int)} {n : Nat} (hk : Kept s.heap h₁) (hz : s.heap.objs.size ≤ h₁.objs.size) (hl : h₁.IsList l items.toArray) (hi : RowsAt nx items ns) (hn : ns.length = n) :
    wpAny (model prog w) A (pyIter (.ref l)) (fun it s₂ => SrcC prog w A s n (fun i v => ∃ D vs r, v = .ref D ∧ LAt nx D vs ∧ IntsAre vs r ∧ ns[i]? = some r) it s₂) E { s with heap := h₁, toks := tk₁ } := by
  obtain rfl : n = items.toArray.size := by rw [List.size_toArray, hi.len, hn]
  refine wpAny_mono (srcList (s := s) hh hk hz hl) (fun it s₂ h => ?_) fun _ _ e => e
  obtain ⟨I, fp, wr, P0, St, h, tk, e1, e2, B, hlv, hst, hfp, hwr, hk', hz', hPP⟩ := h
  refine ⟨I, fp, wr, P0, St, h, tk, e1, e2, B, hlv, hst, hfp, hwr, hk', hz', fun i v hv => ?_⟩
  have hv' := hPP i v hv
  dsimp only at hv'
  rw [List.getElem?_toArray] at hv'
  obtain ⟨D, vs, r, rfl, a, b, c⟩ := hi.at hv'
  exact ⟨D, vs, r, rfl, a, b, c⟩
theorem item_use {l : Addr} {vs : List Value} {value slice : Expr} {j : Nat} {u : Tok} {v : Value} {Q : Value → Shared → Prop} (hl : s.heap.IsList l vs.toArray) (hb : vs.length < 2 ^ 60) (hv : vs[j]? = some v) (h : Q v s)
    (hs : subscripted slice false (.ref l) (.int j u) = operate [.ref l, .int j u] (getItem (.ref l) (.int j u)) := by with_unfolding_all rfl) :
    wpAny (model prog w) A (subscriptTail value slice (.ref l) (.int j u)) Q E s := by
  have hj := (List.getElem?_eq_some_iff.mp hv).1
  exact tail_any hl.typeIs slot_list_getitem.lookup (wpAny_getItem_list hl (by omega) (by omega) (by simpa using hv) h) hs
theorem len_use {l : Addr} {vs : List Value} {Q : Value → Shared → Prop} (hl : s.heap.IsList l vs.toArray) (hb : vs.length ≤ 100)
    (h : Q (.int vs.length (s.toks + 1)) { s with toks := s.toks + 1 + 1 }) : wpAny (model prog w) A (call (.builtin "len") [.ref l]) Q E s :=
  Calls.call_len_list hl (by rw [List.size_toArray]; omega) (by rw [List.size_toArray]; exact h)
end
def agree (b t : List Int) (n : Nat) : Nat := ((List.range n).filter fun k => b.getD k 0 == t.getD k 0).length
theorem agree_le (b t : List Int) (n : Nat) : agree b t n ≤ n := by
  unfold agree
  have := List.length_filter_le (fun k => b.getD k 0 == t.getD k 0) (List.range n)
  simpa using this
theorem agree_yes {b t : List Int} {n : Nat} {x : Int} (h1 : b[n]? = some x) (h2 : t[n]? = some x) : agree b t (n + 1) = agree b t n + 1 := by
  unfold agree
  rw [List.range_succ, List.filter_append, List.length_append]
  have : (b.getD n 0 == t.getD n 0) = true := by rw [List.getD_eq_getElem?_getD, List.getD_eq_getElem?_getD, h1, h2]; simp
  simp only [List.filter_cons, this, if_true, List.filter_nil, List.length_singleton]
theorem agree_no {b t : List Int} {n : Nat} {x y : Int} (h1 : b[n]? = some x) (h2 : t[n]? = some y) (hne : x ≠ y) : agree b t (n + 1) = agree b t n := by
  unfold agree
  rw [List.range_succ, List.filter_append, List.length_append]
  have : (b.getD n 0 == t.getD n 0) = false := by rw [List.getD_eq_getElem?_getD, List.getD_eq_getElem?_getD, h1, h2]; simpa using hne
  simp only [List.filter_cons, this, Bool.false_eq_true, if_false, List.filter_nil, List.length_nil, Nat.add_zero]
theorem ints_get {vs : List Value} {ns : List Int} (h : IntsAre vs ns) {i : Nat} (hi : i < ns.length) : ∃ x t, vs[i]? = some (.int x t) ∧ ns[i]? = some x := by
  have hl : i < vs.length := by rw [ints_len h]; exact hi
  obtain ⟨x, t, e1, e2⟩ := ints_at h (List.getElem?_eq_getElem hl)
  exact ⟨x, t, by rw [List.getElem?_eq_getElem hl, e1], e2⟩
section
variable {prog : Program} {w : World} {A : Around} {E : Value → Shared → Prop} {s : Shared}
theorem add_kept {l b : Addr} {vs ws : List Value} {Q : Value → Shared → Prop} (hl : s.heap.IsList l vs.toArray) (hb : s.heap.IsList b ws.toArray) (hsz : vs.length + ws.length ≤ 1000)
    (h : ∀ h' D, Kept s.heap h' → s.heap.objs.size ≤ h'.objs.size → h'.IsList D (vs ++ ws).toArray → Q (.ref D) { s with heap := h' }) :
    wpAny (model prog w) A (binaryOp .Add (.ref l) (.ref b)) Q E s := by
  obtain ⟨⟨cls, dd, data, sl⟩, ho, hc, n, hd⟩ := id hl
  obtain ⟨⟨cls2, dd2, data2, sl2⟩, ho2, hc2, n2, hd2⟩ := id hb
  simp only at hc hd hc2 hd2
  subst hc hd hc2 hd2
  have hz : vs.toArray.size + ws.toArray.size ≤ sizeLine := by
    rw [List.size_toArray, List.size_toArray]
    exact Nat.le_trans hsz (by decide)
  refine concat_meets ⟨_, ho, rfl⟩ ⟨_, ho2, rfl⟩ noFill_list_add seq_list_add F.slot_list_add F.entry_list_add (F.args_list_add_2 _ _) (list_addW l b vs.toArray ws.toArray n n2 dd dd2 sl sl2 hz) ⟨ho, ho2, ?_⟩
  refine h _ _ (fun b o e => Heap.get?_push_of_some _ e) (by rw [Heap.size_push]; exact Nat.le_succ _) ⟨_, Heap.get?_push_size _ rfl, rfl, 0, ?_⟩
  simp
theorem newList_kept {items : List Value} {Q : Value → Shared → Prop} (hz : items.length ≤ 1000)
    (h : ∀ h' D, Kept s.heap h' → s.heap.objs.size ≤ h'.objs.size → h'.IsList D items.toArray → Q (.ref D) { s with heap := h' }) : wpAny (model prog w) A (newList items) Q E s := by
  refine wpAny_newList (h _ _ (fun b o e => Heap.get?_push_of_some _ e) (by rw [Heap.size_push]; exact Nat.le_succ _) ⟨_, Heap.get?_push_size _ rfl, rfl, _, rfl⟩) (Nat.le_trans hz (by decide))
end
theorem bools_snoc {vs : List Value} {bs : List Bool} (h : LSm.BoolsAre vs bs) (b : Bool) : LSm.BoolsAre (vs ++ [.bool b]) (bs ++ [b]) := by
  induction h with
  | nil => exact .cons b .nil
  | cons c _ ih => exact .cons c ih
end Mine
end
section
open PySem PySem.W PyProof.Rows PySem.Calls
set_option maxRecDepth 100000
namespace Mine
def rowsOf (ns : List Int) : List (List Nat) := List.zipWith (fun v c => List.replicate ((v.fdiv 3).fmod 2).toNat 46 ++ [c]) ns [97, 98, 99, 100]

theorem cne (n i j : Nat) (h : i ≠ j) : n + i ≠ n + j := by omega
theorem cgt {n d i : Nat} (h : n + 5 < d) (hi : i ≤ 5) : d ≠ n + i := by omega
def betRow (ns : List Int) (x y : Int) : List Int := List.zipWith (fun f v => (f + v).fmod 3) [x, y, x + y, x + 2 * y] ns
def betsOf (ns : List Int) : List (List Int) := [betRow ns 0 0, betRow ns 0 1, betRow ns 0 2, betRow ns 1 0, betRow ns 1 1, betRow ns 1 2, betRow ns 2 0, betRow ns 2 1, betRow ns 2 2]
theorem betsOf_len (ns : List Int) : (betsOf ns).length = 9 := rfl
theorem bets_step (ns : List Int) {i j : Nat} (hi : i < 3) (hj : j < 3) : (betsOf ns).take (3 * i + j + 1) = (betsOf ns).take (3 * i + j) ++ [betRow ns i j] := by
  obtain rfl | rfl | rfl : i = 0 ∨ i = 1 ∨ i = 2 := by omega
  all_goals
    obtain rfl | rfl | rfl : j = 0 ∨ j = 1 ∨ j = 2 := by omega
    all_goals rfl
/-- insort_right into a list of texts -/
def insL (xs : List (List Nat)) (x : List Nat) : List (List Nat) :=
  let r := bisR (fun i => decide (x < xs.getD i [])) xs.length 0 xs.length
  xs.take r ++ x :: xs.drop r
theorem mul_dot (x : Int) : (Txt.mul (Str.ofString ".") ((x.fdiv 3).fmod 2)).cps.toList = List.replicate ((x.fdiv 3).fmod 2).toNat 46 := by
  have h1 := Int.fmod_nonneg_of_pos (x.fdiv 3) (b := 2) (by decide)
  have h2 := Int.fmod_lt_of_pos (x.fdiv 3) (b := 2) (by decide)
  generalize (x.fdiv 3).fmod 2 = k at *
  obtain rfl | rfl : k = 0 ∨ k = 1 := by omega
  · rfl
  · rfl
theorem mul_dot_len (x : Int) : (Txt.mul (Str.ofString ".") ((x.fdiv 3).fmod 2)).length ≤ 1 := by
  have h2 := Int.fmod_lt_of_pos (x.fdiv 3) (b := 2) (by decide)
  have e : (Txt.mul (Str.ofString ".") ((x.fdiv 3).fmod 2)).length = (Txt.mul (Str.ofString ".") ((x.fdiv 3).fmod 2)).cps.toList.length := rfl
  rw [e, mul_dot, List.length_replicate]
  omega


theorem fmod3 (z : Int) : z.fmod 3 = 0 ∨ z.fmod 3 = 1 ∨ z.fmod 3 = 2 := by
  have h1 := Int.fmod_nonneg_of_pos z (b := 3) (by decide)
  have h2 := Int.fmod_lt_of_pos z (b := 3) (by decide)
  omega
theorem betRow_ok (ns : List Int) (x y : Int) : (∀ f ∈ betRow ns x y, f = 0 ∨ f = 1 ∨ f = 2) ∧ (betRow ns x y).length ≤ 4 := by
  refine ⟨fun f hf => ?_, by unfold betRow; rw [List.length_zipWith]; exact Nat.min_le_left _ _⟩
  obtain ⟨i, hi⟩ := List.mem_iff_getElem?.mp hf
  unfold betRow at hi
  rw [List.getElem?_zipWith] at hi
  split at hi
  · cases hi
    exact fmod3 _
  · cases hi
theorem bets_ok {ns : List Int} {b : List Int} (h : b ∈ betsOf ns) : (∀ f ∈ b, f = 0 ∨ f = 1 ∨ f = 2) ∧ b.length ≤ 4 := by
  simp only [betsOf, List.mem_cons, List.not_mem_nil, or_false] at h
  rcases h with rfl | rfl | rfl | rfl | rfl | rfl | rfl | rfl | rfl <;> exact betRow_ok _ _ _
theorem rows_ok {ns : List Int} {r : List Nat} (h : r ∈ rowsOf ns) : r.length ≤ 2 := by
  obtain ⟨i, hi⟩ := List.mem_iff_getElem?.mp h
  unfold rowsOf at hi
  rw [List.getElem?_zipWith] at hi
  split at hi
  · rename_i a b _ _
    cases hi
    have h2 := Int.fmod_lt_of_pos (a.fdiv 3) (b := 2) (by decide)
    rw [List.length_append, List.length_replicate]
    simp; omega
  · cases hi
theorem StrsAt.ins {vs : List Value} {xs : List (List Nat)} (h : StrsAt vs xs) (x : List Nat) (t : Tok) : ∀ r, StrsAt (vs.take r ++ .str (ofL x) t :: vs.drop r) (xs.take r ++ x :: xs.drop r) := by
  induction h with
  | nil => intro r; simpa using StrsAt.cons x t .nil
  | cons y u h ih =>
    intro r
    cases r with
    | zero => exact .cons x t (.cons y u h)
    | succ r => exact .cons y u (ih r)
theorem insL_len (xs : List (List Nat)) (x : List Nat) : (insL xs x).length = xs.length + 1 := by
  unfold insL
  simp only [List.length_append, List.length_cons, List.length_take, List.length_drop]
  have := bisR_le (fun i => decide (x < xs.getD i [])) xs.length 0 xs.length (Nat.zero_le _)
  omega
theorem insL_fold_len (l : List (List Nat)) : ∀ a : List (List Nat), (l.foldl insL a).length = a.length + l.length := by
  induction l with
  | nil => intro a; rfl
  | cons x l ih => intro a; rw [List.foldl_cons, ih, insL_len, List.length_cons]; omega
def tenthOf (ns : List Int) : List Int := (ns.drop 4).map fun v => v.fmod 3
theorem tenth_ok (ns : List Int) (hn : ns.length = 8) : (∀ f ∈ tenthOf ns, f = 0 ∨ f = 1 ∨ f = 2) ∧ (tenthOf ns).length = 4 := by
  refine ⟨fun f hf => ?_, by unfold tenthOf; rw [List.length_map, List.length_drop, hn]⟩
  obtain ⟨v, _, rfl⟩ := List.mem_map.mp hf
  exact fmod3 _
theorem bets_four {ns : List Int} (hn : ns.length = 8) {b : List Int} (h : b ∈ betsOf ns) : b.length = 4 := by
  simp only [betsOf, List.mem_cons, List.not_mem_nil, or_false] at h
  rcases h with rfl | rfl | rfl | rfl | rfl | rfl | rfl | rfl | rfl <;> (unfold betRow; rw [List.length_zipWith, hn]; rfl)
theorem rows_len {ns : List Int} (hn : ns.length = 8) : (rowsOf ns).length = 4 := by
  unfold rowsOf
  rw [List.length_zipWith, hn]
  rfl
theorem rows_pos {ns : List Int} {r : List Nat} (h : r ∈ rowsOf ns) : 0 < r.length := by
  obtain ⟨i, hi⟩ := List.mem_iff_getElem?.mp h
  unfold rowsOf at hi
  rw [List.getElem?_zipWith] at hi
  split at hi
  · cases hi
    rw [List.length_append]
    simp
  · cases hi
def sentRow (r : List Nat) : List Nat := [13, 10] ++ (if r.getD 0 0 = 46 then 46 :: r else r)
def sentOf (ns : List Int) : List Nat := ((rowsOf ns).map sentRow).flatten
theorem sent_short {ns : List Int} (hn : ns.length = 8) : (sentOf ns).length ≤ 1000 := by
  have h := flatten_le 5 ((rowsOf ns).map sentRow) fun x hx => by
    obtain ⟨r, hr, rfl⟩ := List.mem_map.mp hx
    have := rows_ok hr
    unfold sentRow
    split <;> simp <;> omega
  rw [List.length_map, rows_len hn] at h
  unfold sentOf
  omega
theorem dot_beq (c : Nat) : (ofL [c] == Str.ofString ".") = decide (c = 46) := by
  show (ofL [c] == ofL [46]) = _
  rw [ofL_beq]
  simp
end Mine
end
section
open PySem PySem.W PyProof.Rows PySem.Calls
namespace Mine
set_option maxRecDepth 100000
set_option maxHeartbeats 8000000

theorem subst_ok (w : World) (mean : ExcName → Option Value) (mg mb : Str → Option Value) (A : Around) (s : Shared) (Q E : Value → Shared → Prop)
    (x : Nat) (ta : Tok) (y : Nat) (tb : Tok)
    (X : (hd.heap_39 w.params).In s.heap) (T : Top hd.view_39 (looseW hd.view_39 [Str.ofString "_twin_re_1", Str.ofString "_twin_re_2", Str.ofString "insort_right", Str.ofString "bisect_right", Str.ofString "bisect_left"]) mean mg mb s.heap)
    (hd0 : A.depth + 1 < recursionLimit) (hu : A.units + 20 < cLine) (hh : A.handled = none) (hx : Txt.lower (ofL [x]) = ofL [x]) (hy : Txt.lower (ofL [y]) = ofL [y])
    (hret : ∀ v t h' tk, v = (if x = y then 0 else 2) → Kept s.heap h' → Q (.int v t) { s with heap := h', toks := tk }) :
    wpAny (model PySem.Challenge.rw_pg0173_01.row.prog w) A (call (.ref 82) [.str (ofL [x]) ta, .str (ofL [y]) tb]) Q E s := by
  w_top off
  obtain ⟨hA, dp, fr, gd, un⟩ := A
  obtain rfl : hA = none := hh
  dsimp only at hd0 hu
  revert X; k_fill; intro X
  have hd1 : (Around.mk none dp fr gd un).depth < recursionLimit := by dsimp only; omega
  have hsa : (ofL [x]).length ≤ 40 := by rw [ofL_len]; simp
  have hsb : (ofL [y]).length ≤ 40 := by rw [ofL_len]; simp
  (refine' enter ?kX ?kT ?k8 ?k6 ?k7 ?k9 ?kB ?c2 ?c3 ?c4 ?c5 ?_; (case kX => assumption); (case kT => assumption); (case k6 => k_is); (case k7 => k_is); (case k8 => assumption); (case k9 => first | exact BindsTo.of_eq rfl | exact kp_binds (by assumption) (fun _ => rfl)); (case c5 => decide); (case kB => exact locs rfl); (case c2 => exact rfl); (case c3 => exact rfl); (case c4 => exact rfl))
  intro L h1 tk1 F N
  obtain ⟨m0, F0, q0⟩ : ∃ m, Fr s.heap L h1 m ∧ has [(Str.ofString "ch_a", .str (ofL [x]) ta), (Str.ofString "ch_b", .str (ofL [y]) tb)] m := ⟨_, F, has.cons rfl (has.cons rfl has.nil)⟩
  clear F
  have F1 := has.fr F0 q0
  clear F0 q0
  repeat' walk1
  all_goals (rename Fr _ _ _ _ => F2)
  · have e : x = y := by have := ‹(ofL [x] == ofL [y]) = true›; rw [ofL_beq] at this; simpa using this
    exact hret _ _ _ _ (by rw [if_pos e]) F2.keep
  · exfalso
    have h1 := ‹(Txt.lower (ofL [x]) == Txt.lower (ofL [y])) = true›
    have h2 := ‹(ofL [x] == ofL [y]) = false›
    rw [hx, hy] at h1
    rw [h1] at h2
    cases h2
  · have e : x ≠ y := by have := ‹(ofL [x] == ofL [y]) = false›; rw [ofL_beq] at this; simpa using this
    exact hret _ _ _ _ (by rw [if_neg e]) F2.keep

theorem subst_use {w : World} {mean : ExcName → Option Value} {mg mb : Str → Option Value} {A : Around} {s : Shared} {Q E : Value → Shared → Prop}
    {x : Nat} {ta : Tok} {y : Nat} {tb : Tok} {g : Heap} {L : Addr} {m : Str → Option Value} {news : List (Addr × Obj)} (F : Fr g L s.heap m) (N : News g L s.heap news)
    (X : (hd.heap_39 w.params).In g) (T : Top hd.view_39 (looseW hd.view_39 [Str.ofString "_twin_re_1", Str.ofString "_twin_re_2", Str.ofString "insort_right", Str.ofString "bisect_right", Str.ofString "bisect_left"]) mean mg mb g)
    (hh : A.handled = none) (hd0 : A.depth + 1 < recursionLimit) (hu : A.units + 20 < cLine) (hx : Txt.lower (ofL [x]) = ofL [x]) (hy : Txt.lower (ofL [y]) = ofL [y])
    (hret : ∀ t h' tk, Fr g L h' m → News g L h' news → Q (.int (if x = y then 0 else 2) t) { s with heap := h', toks := tk }) :
    wpAny (model PySem.Challenge.rw_pg0173_01.row.prog w) A (call (.ref 82) [.str (ofL [x]) ta, .str (ofL [y]) tb]) Q E s :=
  subst_ok w mean mg mb A s Q E x ta y tb (X.keeps F.keep) (T.keeps F.keep) hd0 hu hh hx hy fun v t h' tk hv hk => by
    subst hv
    exact hret t h' tk (Fr.after F hk) (News.keepsAll N hk)
end Mine
end
section
open PySem PySem.W PyProof.Rows PySem.Calls
namespace Mine
set_option maxRecDepth 100000
set_option maxHeartbeats 8000000

abbrev levM (la lb : List Nat) (ta tb : Tok) (c : Int) (tc : Tok) : List (Str × Value) := [(Str.ofString "a", .str (ofL la) ta), (Str.ofString "b", .str (ofL lb) tb), (Str.ofString "max_cost", .int c tc)]
local macro_rules | `(tactic| walk_at "call type:list") => `(tactic| (refine my_list_range rfl (by assumption) (by assumption) (by assumption) (by simp only [ofL_len]; exact (evens_small _ (by omega)).1) (by simp only [ofL_len]; exact (evens_small _ (by omega)).2) (by omega) ?_; intro _ _ _ _ _ _ _ _; (try dsimp only)))

local macro_rules | `(tactic| walk_at "subscriptTail Name Name str int") => `(tactic| (refine my_item (by assumption) (by assumption) ?_; (try dsimp only)))
local macro_rules | `(tactic| walk_at "subscriptTail Name Name ref int") => `(tactic| (refine my_getrow' (by assumption) (by assumption) (by assumption) (by assumption) (by assumption) (by assumption) ?_; intro _; (try dsimp only)))
local macro_rules | `(tactic| walk_at "call ref") => `(tactic| (refine subst_use (by assumption) (by assumption) (by assumption) (by assumption) rfl (by dsimp only [Around.deeper]; omega) (by dsimp only [Around.deeper]; omega) (by assumption) (by assumption) ?_; intro _ _ _ _ _; (try dsimp only)))

local macro_rules | `(tactic| walk_at "setItem ref int") => `(tactic| (refine ksa_set (by assumption) (by assumption) (Upd.head (by assumption)) (by assumption) (by omega) (by omega) (by omega) ?_; intro _ _ _ _ _ _; (try dsimp only)))

local macro_rules | `(tactic| walk_at "subscriptTail Name Slice str ref") => `(tactic| ((with_reducible show wpAny _ _ (subscriptTail _ (Expr.Slice none (some (Expr.BoolOp _ _ _)) none _) _ _) _ _ _); first
  | (refine my_slice_nn (s := ⟨_, _, _, _, _⟩) (by assumption) (by assumption) (by assumption) ?_; intro _ _ _ _ _; (try dsimp only))
  | (refine my_slice_to (s := ⟨_, _, _, _, _⟩) (by assumption) (by assumption) (by assumption) (by omega) (by omega) ?_; intro _ _ _ _ _ _; (try dsimp only))))
local macro_rules | `(tactic| walk_at "subscriptTail Name BinOp str int") => `(tactic| (refine item_str (fitsSsize_of (N := 9223372036854775808) (by omega) (by omega) (Int.le_refl _)) (by simp only [ofL_len] at *; omega) (by simp only [ofL_len] at *; omega) ?_; intro _; (try dsimp only)))

theorem lev_ok (w : World) (mean : ExcName → Option Value) (mg mb : Str → Option Value) (A : Around) (s : Shared) (Q E : Value → Shared → Prop)
    (la : List Nat) (ta : Tok) (lb : List Nat) (tb : Tok) (c : Int) (tc : Tok) 
    (X : (hd.heap_39 w.params).In s.heap) (T : Top hd.view_39 (looseW hd.view_39 [Str.ofString "_twin_re_1", Str.ofString "_twin_re_2", Str.ofString "insort_right", Str.ofString "bisect_right", Str.ofString "bisect_left"]) mean mg mb s.heap)
    (hd0 : A.depth + 5 < recursionLimit) (hu : A.units + 30 < cLine) (hh : A.handled = none) (hlow : ∀ x, x ∈ la ∨ x ∈ lb → Txt.lower (ofL [x]) = ofL [x]) (hla : la.length ≤ 40) (hlb : lb.length ≤ 40)
    (hret : ∀ v t h' tk, v = levF la lb c → Kept s.heap h' → Q (.int v t) { s with heap := h', toks := tk }) :
    wpAny (model PySem.Challenge.rw_pg0173_01.row.prog w) A (call (.ref 89) [.str (ofL la) ta, .str (ofL lb) tb, .int c tc]) Q E s := by
  w_top off
  obtain ⟨hA, dp, fr, gd, un⟩ := A
  obtain rfl : hA = none := hh
  dsimp only at hd0 hu
  revert X; k_fill; intro X
  have hd1 : (Around.mk none dp fr gd un).depth < recursionLimit := by dsimp only; omega
  have hsa : (ofL la).length ≤ 40 := by rw [ofL_len]; exact hla
  have hsb : (ofL lb).length ≤ 40 := by rw [ofL_len]; exact hlb
  (refine' enter ?kX ?kT ?k8 ?k6 ?k7 ?k9 ?kB ?c2 ?c3 ?c4 ?c5 ?_; (case kX => assumption); (case kT => assumption); (case k6 => k_is); (case k7 => k_is); (case k8 => assumption); (case k9 => first | exact BindsTo.of_eq rfl | exact kp_binds (by assumption) (fun _ => rfl)); (case c5 => decide); (case kB => exact locs rfl); (case c2 => exact rfl); (case c3 => exact rfl); (case c4 => exact rfl))
  intro L h1 tk1 F N
  obtain ⟨m0, F0, q0⟩ : ∃ m, Fr s.heap L h1 m ∧ has (levM la lb ta tb c tc) m := ⟨_, F, has.cons rfl (has.cons rfl (has.cons rfl has.nil))⟩
  clear F
  have F1 := has.fr F0 q0
  clear F0 q0
  refine seq1 (g := s.heap) (s := s) (L := L) (news := []) (fun m _ => has (levM la lb ta tb c tc) m ∧ la ≠ lb) ?_ ?_
  · repeat' walk1
    · have e : la = lb := by have := ‹(ofL la == ofL lb) = true›; rw [ofL_beq] at this; simpa using this
      exact Cut.back (hret _ _ _ _ (by unfold levF; rw [if_pos e]) F1.keep)
    · exact Cut.go F1 N ⟨has.cons rfl (has.cons rfl (has.cons rfl has.nil)), fun e => by subst e; simp at *⟩
  clear F1 N
  intro h2 tk2 m2 F2 N2 ⟨q2, hne⟩
  have hv1 : levF la lb c = levPost (la.drop (cpl la lb)) (lb.drop (cpl la lb)) c := by unfold levF; rw [if_neg hne]
  have hlow1 : ∀ x, x ∈ la.drop (cpl la lb) ∨ x ∈ lb.drop (cpl la lb) → Txt.lower (ofL [x]) = ofL [x] := fun x h => hlow x (h.imp List.mem_of_mem_drop List.mem_of_mem_drop)
  have F3 := has.fr F2 q2
  clear F2 q2
  refine seq1 (g := s.heap) (s := s) (L := L) (news := []) (fun m _ => has (levM la lb ta tb c tc) m ∧ ∃ t, m "pre" = some (.int 0 t)) ?_ ?_
  · repeat' walk1
    rename Fr _ _ _ _ => F4
    rename News _ _ _ _ => N4
    exact Cut.go F4 N4 ⟨has.cons rfl (has.cons rfl (has.cons rfl has.nil)), _, rfl⟩
  clear F3 N2
  intro h3 tk3 m3 F4 N4 ⟨q3, t3, e3⟩
  refine seq1 (g := s.heap) (s := s) (L := L) (news := []) (fun m _ => has (levM la lb ta tb c tc) m ∧ ∃ t, m "pre" = some (.int (cpl la lb) t)) ?_ ?_
  · refine one (whileR (fun n m => has (levM la lb ta tb c tc) m ∧ ∃ k t, m "pre" = some (.int k t) ∧ 0 ≤ k ∧ k ≤ la.length ∧ k ≤ lb.length ∧
       k + cpl (la.drop k.toNat) (lb.drop k.toNat) = (cpl la lb : Int) ∧ n = la.length - k.toNat) F4 N4 ⟨q3, 0, _, e3, by omega, by omega, by omega, by simp, rfl⟩ ?_)
    clear F4 N4 q3 e3
    rintro n m h tk F5 N5 ⟨hm, k, t, hk, h0, hka, hkb, hc, rfl⟩
    have F6 := has.fr F5 (has.cons hk hm)
    clear F5
    repeat' walk1
    all_goals (rename Fr _ _ _ _ => F7; rename News _ _ _ _ => N7)
    · obtain ⟨p1, p2, p3⟩ := pre_go h0 hka hkb hc (by assumption) (by assumption) (by assumption)
      exact Cut.go F7 N7 ⟨la.length - (k + 1).toNat, by omega, has.cons rfl (has.cons rfl (has.cons rfl has.nil)), k + 1, _, rfl, by omega, p1, p2, p3, rfl⟩
    · have e := pre_stop_c h0 hka hkb hc (by assumption) (by assumption) (by assumption)
      subst e
      exact Aft.mk F7 N7 ⟨has.cons rfl (has.cons rfl (has.cons rfl has.nil)), _, rfl⟩
    · have e := pre_stop_b h0 hkb hc (by assumption)
      subst e
      exact Aft.mk F7 N7 ⟨has.cons rfl (has.cons rfl (has.cons rfl has.nil)), _, rfl⟩
    · have e := pre_stop_a h0 hka hc (by assumption)
      subst e
      exact Aft.mk F7 N7 ⟨has.cons rfl (has.cons rfl (has.cons rfl has.nil)), _, rfl⟩
  clear F4 N4 q3 e3
  intro h4 tk4 m4 F4 N4 ⟨q4, t4, e4⟩
  have F5 := has.fr F4 (has.cons e4 q4)
  clear F4 q4 e4
  have hN1 := cpl_le_l la lb
  have hN2 := cpl_le_r la lb
  refine seq3 (g := s.heap) (s := s) (L := L) (news := []) (fun m _ => ∃ ta tb, has (levM (la.drop (cpl la lb)) (lb.drop (cpl la lb)) ta tb c tc) m ∧ ∃ t, m "post" = some (.int 0 t)) ?_ ?_
  · repeat' walk1
    rename Fr _ _ _ _ => F7; rename News _ _ _ _ => N7
    have ea := slice_from la (k := (cpl la lb : Int)) (by omega) (by omega)
    have eb := slice_from lb (k := (cpl la lb : Int)) (by omega) (by omega)
    exact Cut.go F7 N7 ⟨_, _, has.cons (congrArg (fun x => some (Value.str x _)) ea) (has.cons (congrArg (fun x => some (Value.str x _)) eb) (has.cons rfl has.nil)), _, rfl⟩
  clear F5 N4
  intro h5 tk5 m5 F6 N6 ⟨ta5, tb5, q5, t5, e5⟩
  have hl1 : (la.drop (cpl la lb)).length ≤ 40 := by rw [List.length_drop]; omega
  have hl2 : (lb.drop (cpl la lb)).length ≤ 40 := by rw [List.length_drop]; omega
  clear hlow
  generalize la.drop (cpl la lb) = xa at *
  generalize lb.drop (cpl la lb) = xb at *
  have hs1 : (ofL xa).length ≤ 40 := by rw [ofL_len]; exact hl1
  have hs2 : (ofL xb).length ≤ 40 := by rw [ofL_len]; exact hl2
  refine seq1 (g := s.heap) (s := s) (L := L) (news := []) (fun m _ => has (levM xa xb ta5 tb5 c tc) m ∧ ∃ t, m "post" = some (.int (-(cpl xa.reverse xb.reverse : Int)) t)) ?_ ?_
  · refine one (whileR (fun n m => has (levM xa xb ta5 tb5 c tc) m ∧ ∃ k t, m "post" = some (.int k t) ∧ k ≤ 0 ∧ -(xa.length : Int) ≤ k ∧ -(xb.length : Int) ≤ k ∧
       -k + cpl (xa.reverse.drop (-k).toNat) (xb.reverse.drop (-k).toNat) = (cpl xa.reverse xb.reverse : Int) ∧ n = xa.length - (-k).toNat) F6 N6 ⟨q5, 0, _, e5, by omega, by omega, by omega, by simp, rfl⟩ ?_)
    clear F6 N6 q5 e5
    rintro n m h tk F5 N5 ⟨hm, k, t, hk, h0, hka, hkb, hc, rfl⟩
    have F6 := has.fr F5 (has.cons hk hm)
    clear F5
    by_cases hk0 : k = 0
    · subst hk0
      repeat' walk1
      all_goals (rename Fr _ _ _ _ => F7; rename News _ _ _ _ => N7)
      · have r1 : -(xa.length : Int) < 0 := by simp only [ofL_len] at *; omega
        have r2 : -(xb.length : Int) < 0 := by simp only [ofL_len] at *; omega
        exact Cut.go F7 N7 ⟨xa.length - (-((0 : Int) - 1)).toNat, by omega, has.cons rfl (has.cons rfl (has.cons rfl has.nil)), 0 - 1, _, rfl, by omega, by omega, by omega, post_go (by omega) r1 r2 hc (by assumption), rfl⟩
      · have r1 : -(xa.length : Int) < 0 := by simp only [ofL_len] at *; omega
        have r2 : -(xb.length : Int) < 0 := by simp only [ofL_len] at *; omega
        have e := post_stop_c (by omega) r1 r2 hc (by assumption)
        exact Aft.mk F7 N7 ⟨has.cons rfl (has.cons rfl (has.cons rfl has.nil)), t, congrArg (fun x => some (Value.int x t)) e⟩
      · have e := post_stop_b (by omega) (by simp only [ofL_len] at *; omega) hc
        exact Aft.mk F7 N7 ⟨has.cons rfl (has.cons rfl (has.cons rfl has.nil)), t, congrArg (fun x => some (Value.int x t)) e⟩
      · have e := post_stop_a (by omega) (by simp only [ofL_len] at *; omega) hc
        exact Aft.mk F7 N7 ⟨has.cons rfl (has.cons rfl (has.cons rfl has.nil)), t, congrArg (fun x => some (Value.int x t)) e⟩
    · have hk1 : k < 0 := by omega
      have hkn : (k != 0) = true := by simpa using hk0
      repeat' walk1
      all_goals (rename Fr _ _ _ _ => F7; rename News _ _ _ _ => N7)
      · have r1 : -(xa.length : Int) < k := by omega
        have r2 : -(xb.length : Int) < k := by omega
        exact Cut.go F7 N7 ⟨xa.length - (-(k - 1)).toNat, by omega, has.cons rfl (has.cons rfl (has.cons rfl has.nil)), k - 1, _, rfl, by omega, by omega, by omega, post_go (by omega) r1 r2 hc (by assumption), rfl⟩
      · have r1 : -(xa.length : Int) < k := by omega
        have r2 : -(xb.length : Int) < k := by omega
        have e := post_stop_c (by omega) r1 r2 hc (by assumption)
        exact Aft.mk F7 N7 ⟨has.cons rfl (has.cons rfl (has.cons rfl has.nil)), t, congrArg (fun x => some (Value.int x t)) e⟩
      · have e := post_stop_b (by omega) (by omega) hc
        exact Aft.mk F7 N7 ⟨has.cons rfl (has.cons rfl (has.cons rfl has.nil)), t, congrArg (fun x => some (Value.int x t)) e⟩
      · have e := post_stop_a (by omega) (by omega) hc
        exact Aft.mk F7 N7 ⟨has.cons rfl (has.cons rfl (has.cons rfl has.nil)), t, congrArg (fun x => some (Value.int x t)) e⟩
  clear F6 N6 q5 e5
  intro h6 tk6 m6 F6 N6 ⟨q6, t6, e6⟩
  have F7 := has.fr F6 (has.cons e6 q6)
  clear F6 q6 e6
  have hP1 : cpl xa.reverse xb.reverse ≤ xa.length := by have := cpl_le_l xa.reverse xb.reverse; rwa [List.length_reverse] at this
  have hP2 : cpl xa.reverse xb.reverse ≤ xb.length := by have := cpl_le_r xa.reverse xb.reverse; rwa [List.length_reverse] at this
  refine seq2 (g := s.heap) (s := s) (L := L) (news := []) (fun m _ => ∃ ta tb, has (levM (xa.take (xa.length - cpl xa.reverse xb.reverse)) (xb.take (xb.length - cpl xa.reverse xb.reverse)) ta tb c tc) m) ?_ ?_
  · generalize cpl xa.reverse xb.reverse = M at *
    by_cases hM : M = 0
    · subst hM
      repeat' walk1
      rename Fr _ _ _ _ => F8; rename News _ _ _ _ => N8
      have ea : xa.take (xa.length - 0) = xa := by rw [Nat.sub_zero, List.take_length]
      have eb : xb.take (xb.length - 0) = xb := by rw [Nat.sub_zero, List.take_length]
      rw [ea, eb]
      exact Cut.go F8 N8 ⟨_, _, has.cons rfl (has.cons rfl (has.cons rfl has.nil))⟩
    · have hk1 : -(M : Int) < 0 := by omega
      have hkn : ((-(M : Int)) != 0) = true := by simpa using hM
      repeat' walk1
      rename Fr _ _ _ _ => F8; rename News _ _ _ _ => N8
      have ea : (ofL (xa.take ((xa.length : Int) + -(M : Int)).toNat)) = ofL (xa.take (xa.length - M)) := by congr 2; omega
      have eb : (ofL (xb.take ((xb.length : Int) + -(M : Int)).toNat)) = ofL (xb.take (xb.length - M)) := by congr 2; omega
      exact Cut.go F8 N8 ⟨_, _, has.cons (congrArg (fun x => some (Value.str x _)) ea) (has.cons (congrArg (fun x => some (Value.str x _)) eb) (has.cons rfl has.nil))⟩
  clear F7 N6
  intro h8 tk8 m8 F8 N8 ⟨ta8, tb8, q8⟩
  have hv2 : levF la lb c = levCore (xa.take (xa.length - cpl xa.reverse xb.reverse)) (xb.take (xb.length - cpl xa.reverse xb.reverse)) c := hv1
  have hlow2 : ∀ x, x ∈ xa.take (xa.length - cpl xa.reverse xb.reverse) ∨ x ∈ xb.take (xb.length - cpl xa.reverse xb.reverse) → Txt.lower (ofL [x]) = ofL [x] := fun x h => hlow1 x (h.imp List.mem_of_mem_take List.mem_of_mem_take)
  clear hv1 hlow1
  have hl3 : (xa.take (xa.length - cpl xa.reverse xb.reverse)).length ≤ 40 := by rw [List.length_take]; omega
  have hl4 : (xb.take (xb.length - cpl xa.reverse xb.reverse)).length ≤ 40 := by rw [List.length_take]; omega
  generalize xa.take (xa.length - cpl xa.reverse xb.reverse) = ya at *
  generalize xb.take (xb.length - cpl xa.reverse xb.reverse) = yb at *
  have hs3 : (ofL ya).length ≤ 40 := by rw [ofL_len]; exact hl3
  have hs4 : (ofL yb).length ≤ 40 := by rw [ofL_len]; exact hl4
  have F9 := has.fr F8 q8
  clear F8 q8
  refine seq1 (g := s.heap) (s := s) (L := L) (news := []) (fun m _ => has (levM ya yb ta8 tb8 c tc) m ∧ ya ≠ [] ∧ yb ≠ []) ?_ ?_
  · repeat' walk1
    · rename Fr _ _ _ _ => F10; rename News _ _ _ _ => N10
      exact Cut.go F10 N10 ⟨has.cons rfl (has.cons rfl (has.cons rfl has.nil)), by rintro rfl; simp [ofL_len] at *, by rintro rfl; simp [ofL_len] at *⟩
    · rename Fr _ _ _ _ => F10
      have e : yb = [] := by have := ‹((ofL yb).length : Int) = 0›; rw [ofL_len] at this; exact List.eq_nil_of_length_eq_zero (by omega)
      refine Cut.back (hret _ _ _ _ ?_ F10.keep)
      rw [hv2, ofL_len, ofL_len]
      unfold levCore
      rw [if_pos (.inr e)]
    · rename Fr _ _ _ _ => F10
      have e : ya = [] := by have := ‹((ofL ya).length : Int) = 0›; rw [ofL_len] at this; exact List.eq_nil_of_length_eq_zero (by omega)
      refine Cut.back (hret _ _ _ _ ?_ F10.keep)
      rw [hv2, ofL_len, ofL_len]
      unfold levCore
      rw [if_pos (.inl e)]
  clear F9 N8
  intro h9 tk9 m9 F9 N9 ⟨q9, hn1, hn2⟩
  have F10 := has.fr F9 q9
  clear F9 q9
  refine seq2 (g := s.heap) (s := s) (L := L) (news := []) (fun m _ => ∃ ta tb, has (levM (if yb.length < ya.length then yb else ya) (if yb.length < ya.length then ya else yb) ta tb c tc) m) ?_ ?_
  · repeat' walk1
    · rename Fr _ _ _ _ => F11; rename News _ _ _ _ => N11
      have hlt : yb.length < ya.length := by simp only [ofL_len] at *; omega
      rw [if_pos hlt, if_pos hlt]
      exact Cut.go F11 (fun p hp => nomatch hp) ⟨_, _, has.cons rfl (has.cons rfl (has.cons rfl has.nil))⟩
    · rename Fr _ _ _ _ => F11; rename News _ _ _ _ => N11
      have hlt : ¬ yb.length < ya.length := by simp only [ofL_len] at *; omega
      rw [if_neg hlt, if_neg hlt]
      exact Cut.go F11 N11 ⟨_, _, has.cons rfl (has.cons rfl (has.cons rfl has.nil))⟩
  clear F10 N9
  intro h11 tk11 m11 F11 N11 ⟨ta11, tb11, q11⟩
  have hv3 : levF la lb c = if (((if yb.length < ya.length then ya else yb).length : Int) - (if yb.length < ya.length then yb else ya).length) * 2 > c then c + 1 else stepOut (if yb.length < ya.length then yb else ya) c (if yb.length < ya.length then ya else yb) 0 (rangeInts 2 2 (if yb.length < ya.length then yb else ya).length) 0 := by
    rw [hv2]
    unfold levCore
    rw [if_neg (not_or.mpr ⟨hn1, hn2⟩)]
  have hlow5 : ∀ x, x ∈ (if yb.length < ya.length then yb else ya) ∨ x ∈ (if yb.length < ya.length then ya else yb) → Txt.lower (ofL [x]) = ofL [x] := fun x h => by
    split at h
    · exact hlow2 x (h.elim .inr .inl)
    · exact hlow2 x h
  clear hv2 hlow2
  have hl5 : (if yb.length < ya.length then yb else ya).length ≤ (if yb.length < ya.length then ya else yb).length := by split <;> omega
  have hl6 : (if yb.length < ya.length then ya else yb).length ≤ 40 := by split <;> omega
  generalize (if yb.length < ya.length then yb else ya) = za at *
  generalize (if yb.length < ya.length then ya else yb) = zb at *
  have hs5 : (ofL za).length ≤ 40 := by rw [ofL_len]; omega
  have hs6 : (ofL zb).length ≤ 40 := by rw [ofL_len]; exact hl6
  have F12 := has.fr F11 q11
  clear F11 q11
  refine seq1 (g := s.heap) (s := s) (L := L) (news := []) (fun m _ => has (levM za zb ta11 tb11 c tc) m ∧ ¬ ((zb.length : Int) - za.length) * 2 > c) ?_ ?_
  · repeat' walk1
    all_goals (rename Fr _ _ _ _ => F13; rename News _ _ _ _ => N13)
    · have hc := ‹c < (((ofL zb).length : Int) - (ofL za).length) * 2›
      rw [ofL_len, ofL_len] at hc
      exact Cut.back (hret _ _ _ _ (by rw [hv3, if_pos hc]) F13.keep)
    · have hc := ‹¬ c < (((ofL zb).length : Int) - (ofL za).length) * 2›
      rw [ofL_len, ofL_len] at hc
      exact Cut.go F13 N13 ⟨has.cons rfl (has.cons rfl (has.cons rfl has.nil)), hc⟩
  clear F12 N11
  intro h9 tk9 m9 F9 N9 ⟨q9, hbd⟩
  have hv5 : levF la lb c = stepOut za c zb 0 (rangeInts 2 2 za.length) 0 := by rw [hv3, if_neg hbd]
  clear hv3
  have F14 := has.fr F9 q9
  clear F9 q9
  refine seqN2 (g := s.heap) (s := s) (L := L) (fun m nx => ∃ D vs k, nx = [(D, W.listOf vs.toArray k)] ∧ IntsAre vs (rangeInts 2 2 za.length) ∧ has (levM za zb ta11 tb11 c tc) m ∧ m "row" = some (.ref D) ∧ ∃ t, m "result" = some (.int 0 t)) ?_ ?_
  · repeat' walk1
    rename Fr _ _ _ _ => F15; rename News _ _ _ _ => N15
    exact CutN.go F15 N15 ⟨_, _, _, rfl, by assumption, has.cons rfl (has.cons rfl (has.cons rfl has.nil)), rfl, _, rfl⟩
  clear F14 N9
  rintro h14 tk14 m14 _ F14 N14 ⟨D, vs14, k14, rfl, i14, q14, e14, t14, r14⟩
  refine seqN1 (g := s.heap) (s := s) (L := L) (fun m nx => ∃ t, m "result" = some (.int (stepOut za c zb 0 (rangeInts 2 2 za.length) 0) t)) ?_ ?_
  · refine one (forR rfl (news := [(D, W.listOf vs14.toArray k14)]) rfl (ofL zb).length (fun i m nx => ∃ vs k row res t, nx = [(D, W.listOf vs.toArray k)] ∧ IntsAre vs row ∧ row.length = za.length ∧ has (levM za zb ta11 tb11 c tc) m ∧ m "row" = some (.ref D) ∧ m "result" = some (.int res t) ∧
      stepOut za c (zb.drop i) i row res = stepOut za c zb 0 (rangeInts 2 2 za.length) 0) rfl rfl ?_ (by omega) ?_ ?_)
    · have F15 := has.fr F14 q14
      repeat' walk1
      rename Fr _ _ _ _ => F16; rename News _ _ _ _ => N16
      exact RangeAt.mk (by assumption) F16 N16 ⟨vs14, k14, _, 0, t14, rfl, i14, rangeInts_length _ _ _, has.cons rfl (has.cons rfl (has.cons rfl has.nil)), e14, r14, rfl⟩
    · clear F14 N14
      rintro i ti m15 _ h15 tk15 own hi - hoff ⟨vs15, k15, row, res, t15, rfl, i15, hrow, q15, e15, r15, hinv⟩ F15 N15
      have q16 := forBind (x := "bindex") (v := .int i ti) rfl (has.cons e15 (has.cons r15 q15))
      have F16 := has.fr F15 q16
      clear F15
      have hi2 : i < zb.length := by rwa [ofL_len] at hi
      refine seq3 (g := s.heap) (s := s) (L := L) (news := [(D, W.listOf vs15.toArray k15)] ++ own) (fun m _ => has ((Str.ofString "bindex", .int i ti) :: (Str.ofString "row", .ref D) :: levM za zb ta11 tb11 c tc) m ∧
          ∃ t1 t2 t3 t4, has [(Str.ofString "bchar", .str (ofL [zb.getD i 0]) t1), (Str.ofString "distance", .int ((i : Int) * 2) t2), (Str.ofString "result", .int ((i : Int) * 2) t3), (Str.ofString "minimum", .int 9223372036854775807 t4)] m) ?_ ?_
      · repeat' walk1
        rename Fr _ _ _ _ => F17; rename News _ _ _ _ => N17
        exact Cut.go F17 N17 ⟨has.cons rfl (has.cons rfl (has.cons rfl (has.cons rfl (has.cons rfl has.nil)))), _, _, _, _, has.cons rfl (has.cons rfl (has.cons rfl (has.cons rfl has.nil)))⟩
      clear F16 N15
      intro h17 tk17 m17 F17 N17 ⟨q17, t1, t2, t3, t4, q18⟩
      generalize hT : stepIn (zb.getD i 0) za row ((i : Int) * 2) ((i : Int) * 2) 9223372036854775807 = T9 at *
      refine seqN1 (g := s.heap) (s := s) (L := L) (fun m nx => ∃ vs k, nx = [(D, W.listOf vs.toArray k)] ++ own ∧ IntsAre vs T9.1 ∧ T9.1.length = za.length ∧ has ((Str.ofString "bindex", .int i ti) :: (Str.ofString "row", .ref D) :: levM za zb ta11 tb11 c tc) m ∧
          ∃ t3 t4, has [(Str.ofString "result", .int T9.2.1 t3), (Str.ofString "minimum", .int T9.2.2 t4)] m) ?_ ?_
      · have hbc : Txt.lower (ofL [zb.getD i 0]) = ofL [zb.getD i 0] := hlow5 _ (.inr (by rw [List.getD_eq_getElem?_getD, List.getElem?_eq_getElem hi2]; exact List.getElem_mem hi2))
        generalize zb.getD i 0 = bc at *
        refine one (forR rfl (news := [(D, W.listOf vs15.toArray k15)] ++ own) rfl (ofL za).length (fun j m nx => ∃ vs k p rest dist res mn t1 t2 t3 t4, nx = [(D, W.listOf vs.toArray k)] ++ own ∧ IntsAre vs (p ++ rest) ∧ p.length = j ∧ p.length + rest.length = za.length ∧
          has ((Str.ofString "bindex", .int i ti) :: (Str.ofString "row", .ref D) :: levM za zb ta11 tb11 c tc) m ∧
          has [(Str.ofString "bchar", .str (ofL [bc]) t1), (Str.ofString "distance", .int dist t2), (Str.ofString "result", .int res t3), (Str.ofString "minimum", .int mn t4)] m ∧
          p ++ (stepIn bc (za.drop j) rest dist res mn).1 = T9.1 ∧ (stepIn bc (za.drop j) rest dist res mn).2 = T9.2) rfl rfl ?_ (by omega) ?_ ?_)
        · have F18 := has.fr F17 (has.append q17 q18)
          clear F17
          repeat' walk1
          rename Fr _ _ _ _ => F19; rename News _ _ _ _ => N19
          exact RangeAt.mk (by assumption) F19 N19 ⟨vs15, k15, [], row, _, _, _, t1, t2, t3, t4, rfl, i15, rfl, by simpa using hrow, has.cons rfl (has.cons rfl (has.cons rfl (has.cons rfl (has.cons rfl has.nil)))), has.cons rfl (has.cons rfl (has.cons rfl (has.cons rfl has.nil))), by rw [← hT]; rfl, by rw [← hT]; rfl⟩
        · clear F17 N17 q17 q18 i15 hT
          rintro j tj m18 _ h18 tk18 own2 hj - hoff2 ⟨vs18, k18, p, rest, dist, res2, mn, s1, s2, s3, s4, rfl, i18, hp, hpr, q18, q19, v1, v2⟩ F18 N18
          have hj2 : j < za.length := by rwa [ofL_len] at hj
          have F19 := has.fr F18 (forBind (x := "index") (v := .int j tj) rfl (has.append q18 q19))
          clear F18 q18 q19
          have hlj : Txt.lower (ofL [za.getD j 0]) = ofL [za.getD j 0] := hlow5 _ (.inl (by rw [List.getD_eq_getElem?_getD, List.getElem?_eq_getElem hj2]; exact List.getElem_mem hj2))
          have hza : za.length ≤ 40 := by omega
          have hpl : (p ++ rest).length ≤ 40 := by rw [List.length_append]; omega
          have hpj : j < (p ++ rest).length := by rw [List.length_append]; omega
          cases rest with
          | nil => exfalso; rw [List.length_nil] at hpr; omega
          | cons r rest =>
          have hoffD : ∀ q ∈ own ++ own2, q.1 ≠ D := fun q hq => by
            rcases List.mem_append.mp hq with hq | hq
            · exact hoff q hq D (.head _)
            · exact hoff2 q hq D (.head _)
          have N19 : News s.heap L h18 ((D, W.listOf vs18.toArray k18) :: (own ++ own2)) := N18
          clear N18
          have hmD : (D, W.listOf vs18.toArray k18) ∈ ((D, W.listOf vs18.toArray k18) :: (own ++ own2)) := .head _
          have hgr : (p ++ r :: rest).getD j 0 = r := getD_mid hp
          obtain ⟨Xv, hX⟩ : ∃ Xv, Xv = if (dist + if bc = za.getD j 0 then 0 else 2) < (if r < res2 then r else res2) + 2 then (dist + if bc = za.getD j 0 then 0 else 2) else (if r < res2 then r else res2) + 2 := ⟨_, rfl⟩
          obtain ⟨w1, w2⟩ := stepIn_end hj2 v1 v2 hX
          repeat' walk1
          all_goals (rename Fr _ _ _ _ => F20; rename News _ _ _ _ => N20; rename IntsAre _ _ => i20)
          · have hc := ‹(if _ then _ else _ : Int) < mn›
            simp only [← hX] at hc i20 F20 N20
            rw [if_pos hc] at w1 w2
            refine Turn.go (nx := (D, W.listOf _ k18) :: own) F20 N20 rfl ⟨_, k18, p ++ [Xv], rest, r, Xv, Xv, _, _, _, _, rfl, set_mid hp ▸ i20, ?_, ?_, has.cons rfl (has.cons rfl (has.cons rfl (has.cons rfl (has.cons rfl has.nil)))), has.cons rfl (has.cons rfl (has.cons rfl (has.cons rfl has.nil))), w1, w2⟩
            · rw [List.length_append]; simpa using hp
            · rw [List.length_append]; simp only [List.length_cons, List.length_nil] at *; omega
          · have hc := ‹¬ (if _ then _ else _ : Int) < mn›
            simp only [← hX] at hc i20 F20 N20
            rw [if_neg hc] at w1 w2
            refine Turn.go (nx := (D, W.listOf _ k18) :: own) F20 N20 rfl ⟨_, k18, p ++ [Xv], rest, r, Xv, mn, _, _, _, _, rfl, set_mid hp ▸ i20, ?_, ?_, has.cons rfl (has.cons rfl (has.cons rfl (has.cons rfl (has.cons rfl has.nil)))), has.cons rfl (has.cons rfl (has.cons rfl (has.cons rfl has.nil))), w1, w2⟩
            · rw [List.length_append]; simpa using hp
            · rw [List.length_append]; simp only [List.length_cons, List.length_nil] at *; omega
        · rintro m nx ⟨vs, k, p, rest, dist, res, mn, s1, s2, s3, s4, rfl, ii, hp, hpr, q17, q18, v1, v2⟩
          rw [ofL_len] at hp
          have hr0 : rest = [] := List.eq_nil_of_length_eq_zero (by omega)
          subst hr0
          rw [ofL_len, List.drop_length] at v1 v2
          simp only [stepIn, List.append_nil] at v1 v2 ii
          subst v1
          rw [← v2]
          exact ⟨vs, k, rfl, ii, by simpa using hpr, q17, s3, s4, has.cons (q18 _ (.tail _ (.tail _ (.head _)))) (has.cons (q18 _ (.tail _ (.tail _ (.tail _ (.head _))))) has.nil)⟩
      clear F17 N17 q17 q18
      rintro h18 tk18 m18 _ F18 N18 ⟨vs18, k18, rfl, i18, l18, q18, t3, t4, q19⟩
      have F19 := has.fr F18 (has.append q18 q19)
      have hst := stepOut_at (za := za) (c := c) (row := row) (res := res) hi2
      rw [hT, hinv] at hst
      repeat' walk1
      all_goals (rename Fr _ _ _ _ => F20; rename News _ _ _ _ => N20)
      · have hc := ‹c < T9.2.2›
        rw [if_pos hc] at hst
        exact Turn.back (hret _ _ _ _ (by rw [hv5, hst]) F20.keep)
      · have hc := ‹¬ c < T9.2.2›
        rw [if_neg hc] at hst
        exact Turn.go (nx := [(D, W.listOf vs18.toArray k18)]) F20 N20 rfl ⟨vs18, k18, T9.1, T9.2.1, t3, rfl, i18, l18, has.cons rfl (has.cons rfl (has.cons rfl has.nil)), rfl, rfl, hst.symm⟩
    · rintro m nx ⟨vs, k, row, res, t, rfl, ii, hrow, q17, e17, r17, hinv⟩
      rw [ofL_len, List.drop_length] at hinv
      simp only [stepOut] at hinv
      exact ⟨t, by rw [← hinv]; exact r17⟩
  clear F14 N14
  rintro h20 tk20 m20 nx20 F20 N20 ⟨t20, r20⟩
  have F21 := has.fr F20 (has.cons r20 has.nil)
  repeat' walk1
  rename Fr _ _ _ _ => F22
  exact hret _ _ _ _ hv5.symm F22.keep
end Mine
end
section
open PySem PySem.W PyProof.Rows PySem.Calls
namespace Mine
set_option maxRecDepth 100000
set_option maxHeartbeats 8000000

abbrev bisM (l : Addr) (x : Value) : List (Str × Value) := [(Str.ofString "a", .ref l), (Str.ofString "x", x), (Str.ofString "key", .none)]

local macro_rules | `(tactic| walk_at "no key 0") => `(tactic| skip)
local macro_rules | `(tactic| walk_at "no key 1") => `(tactic| skip)
local macro_rules | `(tactic| walk_at "no key 2") => `(tactic| skip)
local macro_rules | `(tactic| walk_at "no key 3") => `(tactic| skip)
local macro_rules | `(tactic| walk_at "no key 4") => `(tactic| skip)
local macro_rules | `(tactic| walk_at "call builtin:len") => `(tactic| (refine my_len (by assumption) (by assumption) (by assumption) ?_; (try dsimp only)))

local macro_rules | `(tactic| walk_at "subscriptTail Name Name ref int") => `(tactic| (refine my_getval (by assumption) (by assumption) (by assumption) (by omega) (by assumption) ?_; (try dsimp only)))
local macro_rules | `(tactic| walk_at "compareOp Lt") => `(tactic| (refine lt_use (by assumption) (by assumption) (by assumption) rfl (by dsimp only [Around.deeper]; omega) (by dsimp only [Around.deeper]; omega) ?_; intro _ _ _ _; (try dsimp only)))

theorem bisR_ok (w : World) (mean : ExcName → Option Value) (mg mb : Str → Option Value) (A : Around) (s : Shared) (Q E : Value → Shared → Prop)
    (l : Addr) (vs : List Value) (x : Value) (t0 : Tok) (lt : Nat → Bool)
    (X : (hd.heap_39 w.params).In s.heap) (T : Top hd.view_39 (looseW hd.view_39 [Str.ofString "_twin_re_1", Str.ofString "_twin_re_2", Str.ofString "insort_right", Str.ofString "bisect_right", Str.ofString "bisect_left"]) mean mg mb s.heap)
    (hh : A.handled = none) (hd0 : A.depth + 5 < recursionLimit) (hu : A.units + 30 < cLine) (hl : s.heap.IsList l vs.toArray) (hb : vs.length ≤ 100)
    (hlt : ∀ i v, vs[i]? = some v → LtOk PySem.Challenge.rw_pg0173_01.row.prog w s.heap x v (lt i))
    (hret : ∀ t h' tk, Kept s.heap h' → Q (.int (bisR lt vs.length 0 vs.length) t) { s with heap := h', toks := tk }) :
    wpAny (model PySem.Challenge.rw_pg0173_01.row.prog w) A (call (.ref 66) [.ref l, x, .int 0 t0, .none]) Q E s := by
  w_top off
  obtain ⟨hA, dp, fr, gd, un⟩ := A
  obtain rfl : hA = none := hh
  dsimp only at hd0 hu
  revert X; k_fill; intro X
  have hd1 : (Around.mk none dp fr gd un).depth < recursionLimit := by dsimp only; omega
  (refine' enter ?kX ?kT ?k8 ?k6 ?k7 ?k9 ?kB ?c2 ?c3 ?c4 ?c5 ?_; (case kX => assumption); (case kT => assumption); (case k6 => k_is); (case k7 => k_is); (case k8 => assumption); (case k9 => first | exact BindsTo.of_eq rfl | exact kp_binds (by assumption) (fun _ => rfl)); (case c5 => decide); (case kB => exact locs rfl); (case c2 => exact rfl); (case c3 => exact rfl); (case c4 => exact rfl))
  intro L h1 tk1 F N
  obtain ⟨m0, F0, q0⟩ : ∃ m, Fr s.heap L h1 m ∧ has ((Str.ofString "lo", .int 0 t0) :: (Str.ofString "hi", .none) :: bisM l x) m := ⟨_, F, has.cons rfl (has.cons rfl (has.cons rfl (has.cons rfl (has.cons rfl has.nil))))⟩
  clear F
  have F1 := has.fr F0 q0
  clear F0 q0
  refine seq2 (g := s.heap) (s := s) (L := L) (news := []) (fun m _ => has (bisM l x) m ∧ ∃ t1 t2, has [(Str.ofString "lo", .int 0 t1), (Str.ofString "hi", .int vs.length t2)] m) ?_ ?_
  · repeat' walk1
    rename Fr _ _ _ _ => F2; rename News _ _ _ _ => N2
    exact Cut.go F2 N2 ⟨has.cons rfl (has.cons rfl (has.cons rfl has.nil)), _, _, has.cons rfl (has.cons rfl has.nil)⟩
  clear F1 N
  intro h2 tk2 m2 F2 N2 ⟨q2, t1, t2, q3⟩
  have F3 := has.fr F2 q2
  refine seq1 (g := s.heap) (s := s) (L := L) (news := []) (fun m _ => ∃ t, m "lo" = some (.int (bisR lt vs.length 0 vs.length) t)) ?_ ?_
  · refine one (ifYes (g := s.heap) (s := s) (L := L) (news := []) (fun m => m = m2) ?_ ?_)
    · repeat' walk1
      rename Fr _ _ _ _ => F4; rename News _ _ _ _ => N4
      exact TestIs.mk F4 N4 (has.eq q2)
    rintro h3 tk3 _ F4 N4 rfl
    clear F3 F2 N2
    refine one (whileR (fun n m => has (bisM l x) m ∧ ∃ lo hi t1 t2 f, has [(Str.ofString "lo", .int (lo : Nat) t1), (Str.ofString "hi", .int (hi : Nat) t2)] m ∧ n = hi - lo ∧ hi - lo ≤ f ∧ hi ≤ vs.length ∧ bisR lt f lo hi = bisR lt vs.length 0 vs.length) F4 N4
      ⟨q2, 0, vs.length, t1, t2, vs.length, q3, rfl, by omega, by omega, rfl⟩ ?_)
    clear F4 N4 q2 q3
    rintro n m h tk F5 N5 ⟨q5, lo, hi, t3, t4, f, q6, rfl, hf, hhi, hinv⟩
    have F6 := has.fr F5 (has.append q5 q6)
    clear F5
    by_cases hlh : lo < hi
    · have hmid : ((lo : Int) + (hi : Int)).fdiv 2 = (((lo + hi) / 2 : Nat) : Int) := by rw [Int.fdiv_eq_ediv_of_nonneg _ (by omega)]; omega
      obtain ⟨v, hv⟩ : ∃ v, vs[(lo + hi) / 2]? = some v := ⟨_, List.getElem?_eq_getElem (by omega)⟩
      have H := hlt _ _ hv
      cases f with
      | zero => omega
      | succ f =>
      simp only [bisR, if_pos hlh] at hinv
      cases hb2 : lt ((lo + hi) / 2) with
      | true =>
        rw [hb2] at H hinv
        simp only [if_true] at hinv
        repeat' walk1
        all_goals (first | omega | skip)
        rename Fr _ _ _ _ => F7; rename News _ _ _ _ => N7
        exact Cut.go F7 N7 ⟨(lo + hi) / 2 - lo, by omega, has.cons rfl (has.cons rfl (has.cons rfl has.nil)), lo, (lo + hi) / 2, _, _, f, has.cons rfl (has.cons (congrArg (fun x => some (Value.int x _)) hmid) has.nil), rfl, by omega, by omega, hinv⟩
      | false =>
        rw [hb2] at H hinv
        simp only [Bool.false_eq_true, if_false] at hinv
        repeat' walk1
        all_goals (first | omega | skip)
        rename Fr _ _ _ _ => F7; rename News _ _ _ _ => N7
        have hmid2 : ((lo : Int) + (hi : Int)).fdiv 2 + 1 = (((lo + hi) / 2 + 1 : Nat) : Int) := by omega
        exact Cut.go F7 N7 ⟨hi - ((lo + hi) / 2 + 1), by omega, has.cons rfl (has.cons rfl (has.cons rfl has.nil)), (lo + hi) / 2 + 1, hi, _, _, f, has.cons (congrArg (fun x => some (Value.int x _)) hmid2) (has.cons rfl has.nil), rfl, by omega, by omega, hinv⟩
    · have hlo : bisR lt f lo hi = lo := by cases f <;> simp [bisR, hlh]
      rw [hlo] at hinv
      repeat' walk1
      all_goals (first | omega | skip)
      rename Fr _ _ _ _ => F7; rename News _ _ _ _ => N7
      exact Aft.mk F7 N7 ⟨t3, by rw [← hinv]; rfl⟩
  clear F2 N2 F3 q2 q3
  intro h3 tk3 m3 F3 N3 ⟨t3, e3⟩
  have F4 := has.fr F3 (has.cons e3 has.nil)
  repeat' walk1
  rename Fr _ _ _ _ => F5
  exact hret _ _ _ F5.keep
end Mine
end
section
open PySem PySem.W PyProof.Rows PySem.Calls
namespace Mine
set_option maxRecDepth 100000
set_option maxHeartbeats 8000000


local macro_rules | `(tactic| walk_at "no key 0") => `(tactic| skip)
local macro_rules | `(tactic| walk_at "no key 1") => `(tactic| skip)
local macro_rules | `(tactic| walk_at "no key 2") => `(tactic| skip)
local macro_rules | `(tactic| walk_at "no key 3") => `(tactic| skip)
local macro_rules | `(tactic| walk_at "no key 4") => `(tactic| skip)
local macro_rules | `(tactic| walk_at "no key 5") => `(tactic| skip)
local macro_rules | `(tactic| walk_at "call builtin:len") => `(tactic| (refine my_len (by assumption) (by assumption) (by assumption) ?_; (try dsimp only)))

local macro_rules | `(tactic| walk_at "subscriptTail Name Name ref int") => `(tactic| (refine my_getval (by assumption) (by assumption) (by assumption) (by omega) (by assumption) ?_; (try dsimp only)))
local macro_rules | `(tactic| walk_at "compareOp Lt") => `(tactic| (refine lt_use (by assumption) (by assumption) (by assumption) rfl (by dsimp only [Around.deeper]; omega) (by dsimp only [Around.deeper]; omega) ?_; intro _ _ _ _; (try dsimp only)))

theorem bisL_ok (w : World) (mean : ExcName → Option Value) (mg mb : Str → Option Value) (A : Around) (s : Shared) (Q E : Value → Shared → Prop)
    (l : Addr) (vs : List Value) (x : Value) (lt : Nat → Bool)
    (X : (hd.heap_39 w.params).In s.heap) (T : Top hd.view_39 (looseW hd.view_39 [Str.ofString "_twin_re_1", Str.ofString "_twin_re_2", Str.ofString "insort_right", Str.ofString "bisect_right", Str.ofString "bisect_left"]) mean mg mb s.heap)
    (hh : A.handled = none) (hd0 : A.depth + 5 < recursionLimit) (hu : A.units + 30 < cLine) (hl : s.heap.IsList l vs.toArray) (hb : vs.length ≤ 100)
    (hlt : ∀ i v, vs[i]? = some v → LtOk PySem.Challenge.rw_pg0173_01.row.prog w s.heap v x (lt i))
    (hret : ∀ t h' tk, Kept s.heap h' → Q (.int (bisL lt vs.length 0 vs.length) t) { s with heap := h', toks := tk }) :
    wpAny (model PySem.Challenge.rw_pg0173_01.row.prog w) A (call (.ref 75) [.ref l, x]) Q E s := by
  w_top off
  obtain ⟨hA, dp, fr, gd, un⟩ := A
  obtain rfl : hA = none := hh
  dsimp only at hd0 hu
  revert X; k_fill; intro X
  have hd1 : (Around.mk none dp fr gd un).depth < recursionLimit := by dsimp only; omega
  (refine' enter ?kX ?kT ?k8 ?k6 ?k7 ?k9 ?kB ?c2 ?c3 ?c4 ?c5 ?_; (case kX => assumption); (case kT => assumption); (case k6 => k_is); (case k7 => k_is); (case k8 => assumption); (case k9 => first | exact BindsTo.of_eq rfl | exact kp_binds (by assumption) (fun _ => rfl)); (case c5 => decide); (case kB => exact locs rfl); (case c2 => exact rfl); (case c3 => exact rfl); (case c4 => exact rfl))
  intro L h1 tk1 F N
  obtain ⟨m0, t0, F0, q0⟩ : ∃ m t0, Fr s.heap L h1 m ∧ has ((Str.ofString "lo", .int 0 t0) :: (Str.ofString "hi", .none) :: bisM l x) m := ⟨_, _, F, has.cons rfl (has.cons rfl (has.cons rfl (has.cons rfl (has.cons rfl has.nil))))⟩
  clear F
  have F1 := has.fr F0 q0
  clear F0 q0
  refine seq2 (g := s.heap) (s := s) (L := L) (news := []) (fun m _ => has (bisM l x) m ∧ ∃ t1 t2, has [(Str.ofString "lo", .int 0 t1), (Str.ofString "hi", .int vs.length t2)] m) ?_ ?_
  · repeat' walk1
    rename Fr _ _ _ _ => F2; rename News _ _ _ _ => N2
    exact Cut.go F2 N2 ⟨has.cons rfl (has.cons rfl (has.cons rfl has.nil)), _, _, has.cons rfl (has.cons rfl has.nil)⟩
  clear F1 N
  intro h2 tk2 m2 F2 N2 ⟨q2, t1, t2, q3⟩
  have F3 := has.fr F2 q2
  refine seq1 (g := s.heap) (s := s) (L := L) (news := []) (fun m _ => ∃ t, m "lo" = some (.int (bisL lt vs.length 0 vs.length) t)) ?_ ?_
  · refine one (ifYes (g := s.heap) (s := s) (L := L) (news := []) (fun m => m = m2) ?_ ?_)
    · repeat' walk1
      rename Fr _ _ _ _ => F4; rename News _ _ _ _ => N4
      exact TestIs.mk F4 N4 (has.eq q2)
    rintro h3 tk3 _ F4 N4 rfl
    clear F3 F2 N2
    refine one (whileR (fun n m => has (bisM l x) m ∧ ∃ lo hi t1 t2 f, has [(Str.ofString "lo", .int (lo : Nat) t1), (Str.ofString "hi", .int (hi : Nat) t2)] m ∧ n = hi - lo ∧ hi - lo ≤ f ∧ hi ≤ vs.length ∧ bisL lt f lo hi = bisL lt vs.length 0 vs.length) F4 N4
      ⟨q2, 0, vs.length, t1, t2, vs.length, q3, rfl, by omega, by omega, rfl⟩ ?_)
    clear F4 N4 q2 q3
    rintro n m h tk F5 N5 ⟨q5, lo, hi, t3, t4, f, q6, rfl, hf, hhi, hinv⟩
    have F6 := has.fr F5 (has.append q5 q6)
    clear F5
    by_cases hlh : lo < hi
    · have hmid : ((lo : Int) + (hi : Int)).fdiv 2 = (((lo + hi) / 2 : Nat) : Int) := by rw [Int.fdiv_eq_ediv_of_nonneg _ (by omega)]; omega
      obtain ⟨v, hv⟩ : ∃ v, vs[(lo + hi) / 2]? = some v := ⟨_, List.getElem?_eq_getElem (by omega)⟩
      have H := hlt _ _ hv
      cases f with
      | zero => omega
      | succ f =>
      simp only [bisL, if_pos hlh] at hinv
      cases hb2 : lt ((lo + hi) / 2) with
      | false =>
        rw [hb2] at H hinv
        simp only [Bool.false_eq_true, if_false] at hinv
        repeat' walk1
        all_goals (first | omega | skip)
        rename Fr _ _ _ _ => F7; rename News _ _ _ _ => N7
        exact Cut.go F7 N7 ⟨(lo + hi) / 2 - lo, by omega, has.cons rfl (has.cons rfl (has.cons rfl has.nil)), lo, (lo + hi) / 2, _, _, f, has.cons rfl (has.cons (congrArg (fun x => some (Value.int x _)) hmid) has.nil), rfl, by omega, by omega, hinv⟩
      | true =>
        rw [hb2] at H hinv
        simp only [if_true] at hinv
        repeat' walk1
        all_goals (first | omega | skip)
        rename Fr _ _ _ _ => F7; rename News _ _ _ _ => N7
        have hmid2 : ((lo : Int) + (hi : Int)).fdiv 2 + 1 = (((lo + hi) / 2 + 1 : Nat) : Int) := by omega
        exact Cut.go F7 N7 ⟨hi - ((lo + hi) / 2 + 1), by omega, has.cons rfl (has.cons rfl (has.cons rfl has.nil)), (lo + hi) / 2 + 1, hi, _, _, f, has.cons (congrArg (fun x => some (Value.int x _)) hmid2) (has.cons rfl has.nil), rfl, by omega, by omega, hinv⟩
    · have hlo : bisL lt f lo hi = lo := by cases f <;> simp [bisL, hlh]
      rw [hlo] at hinv
      repeat' walk1
      all_goals (first | omega | skip)
      rename Fr _ _ _ _ => F7; rename News _ _ _ _ => N7
      exact Aft.mk F7 N7 ⟨t3, by rw [← hinv]; rfl⟩
  clear F2 N2 F3 q2 q3
  intro h3 tk3 m3 F3 N3 ⟨t3, e3⟩
  have F4 := has.fr F3 (has.cons e3 has.nil)
  repeat' walk1
  rename Fr _ _ _ _ => F5
  exact hret _ _ _ F5.keep
end Mine
end
section
open PySem PySem.W PyProof.Rows PySem.Calls
namespace Mine
set_option maxRecDepth 100000
set_option maxHeartbeats 8000000

theorem LtOk.mono {prog : Program} {w : World} {h h' : Heap} {x v : Value} {b : Bool} (H : LtOk prog w h x v b) (k : Kept h h') : LtOk prog w h' x v b := fun A s Q E hh hd hu hk hret => H A s Q E hh hd hu (k.trans hk) hret

theorem bisR_use {w : World} {mean : ExcName → Option Value} {mg mb : Str → Option Value} {A : Around} {s : Shared} {Q E : Value → Shared → Prop}
    {l : Addr} {vs : List Value} {x : Value} {t0 : Tok} {lt : Nat → Bool} {g : Heap} {L : Addr} {m : Str → Option Value} {news : List (Addr × Obj)} {k : Nat} (F : Fr g L s.heap m) (N : News g L s.heap news) (hm : (l, W.listOf vs.toArray k) ∈ news)
    (X : (hd.heap_39 w.params).In g) (T : Top hd.view_39 (looseW hd.view_39 [Str.ofString "_twin_re_1", Str.ofString "_twin_re_2", Str.ofString "insort_right", Str.ofString "bisect_right", Str.ofString "bisect_left"]) mean mg mb g)
    (hh : A.handled = none) (hd0 : A.depth + 5 < recursionLimit) (hu : A.units + 30 < cLine) (hb : vs.length ≤ 100) {h₀ : Heap} (hk0 : Kept h₀ s.heap)
    (hlt : ∀ i v, vs[i]? = some v → LtOk PySem.Challenge.rw_pg0173_01.row.prog w h₀ x v (lt i))
    (hret : ∀ t h' tk, Fr g L h' m → News g L h' news → Q (.int (bisR lt vs.length 0 vs.length) t) { s with heap := h', toks := tk }) :
    wpAny (model PySem.Challenge.rw_pg0173_01.row.prog w) A (call (.ref 66) [.ref l, x, .int 0 t0, .none]) Q E s :=
  bisR_ok w mean mg mb A s Q E l vs x t0 lt (X.keeps F.keep) (T.keeps F.keep) hh hd0 hu ⟨_, (N _ hm).1, rfl, _, rfl⟩ hb (fun i v e => (hlt i v e).mono hk0) fun t h' tk hk => hret t h' tk (Fr.after F hk) (News.keepsAll N hk)

local macro_rules | `(tactic| walk_at "no key 0") => `(tactic| skip)
local macro_rules | `(tactic| walk_at "no key 1") => `(tactic| skip)
local macro_rules | `(tactic| walk_at "no key 2") => `(tactic| skip)
local macro_rules | `(tactic| walk_at "no key 3") => `(tactic| skip)
local macro_rules | `(tactic| walk_at "no key 4") => `(tactic| skip)
local macro_rules | `(tactic| walk_at "no key 5") => `(tactic| skip)
local macro_rules | `(tactic| walk_at "no key 6") => `(tactic| skip)
local macro_rules | `(tactic| walk_at "no key 7") => `(tactic| skip)
local macro_rules | `(tactic| walk_at "call ref") => `(tactic| (refine bisR_use (by assumption) (by assumption) (.head _) (by assumption) (by assumption) rfl (by dsimp only [Around.deeper]; omega) (by dsimp only [Around.deeper]; omega) (by omega) (by assumption) (by assumption) ?_; intro _ _ _ _ _; (try dsimp only)))

local macro_rules | `(tactic| walk_at "call builtin:list.insert") => `(tactic| (refine my_insert (by assumption) (by assumption) (by exact fun _ hp => nomatch hp) (by exact bisR_le _ _ _ _ (Nat.zero_le _)) (by omega) ?_; intro _ _ _; (try dsimp only)))

theorem insort_use {w : World} {mean : ExcName → Option Value} {mg mb : Str → Option Value} {A : Around} {s : Shared} {Q E : Value → Shared → Prop}
    {la : Addr} {vs : List Value} {x : Value} {lt : Nat → Bool} {g : Heap} {L : Addr} {m : Str → Option Value} {k : Nat} {rest : List (Addr × Obj)}
    (F : Fr g L s.heap m) (N : News g L s.heap ((la, W.listOf vs.toArray k) :: rest)) (hr : ∀ p ∈ rest, p.1 ≠ la)
    (X : (hd.heap_39 w.params).In g) (T : Top hd.view_39 (looseW hd.view_39 [Str.ofString "_twin_re_1", Str.ofString "_twin_re_2", Str.ofString "insort_right", Str.ofString "bisect_right", Str.ofString "bisect_left"]) mean mg mb g)
    (hh : A.handled = none) (hd0 : A.depth + 7 < recursionLimit) (hu : A.units + 40 < cLine) (hb : vs.length ≤ 90)
    (hlt : ∀ i v, vs[i]? = some v → LtOk PySem.Challenge.rw_pg0173_01.row.prog w s.heap x v (lt i))
    (hret : ∀ h' tk, Fr g L h' m → News g L h' ((la, W.listOf (vs.take (bisR lt vs.length 0 vs.length) ++ x :: vs.drop (bisR lt vs.length 0 vs.length)).toArray (k + 1)) :: rest) → Q .none { s with heap := h', toks := tk }) :
    wpAny (model PySem.Challenge.rw_pg0173_01.row.prog w) A (call (.ref 57) [.ref la, x]) Q E s := by
  w_top off
  obtain ⟨hA, dp, fr, gd, un⟩ := A
  obtain rfl : hA = none := hh
  dsimp only at hd0 hu
  have X1 : (hd.heap_39 w.params).In s.heap := X.keeps F.keep
  have T1 := T.keeps F.keep
  have X2 : (hd.heap_39 w.params).In (s.heap.hide la) := X.keeps (hide_stays F N)
  have T2 := T.keeps (hide_stays F N)
  clear X T
  revert X1; k_fill; intro X1
  have hd1 : (Around.mk none dp fr gd un).depth < recursionLimit := by dsimp only; omega
  have hla := (N _ (.head _)).1
  dsimp only at hla
  (refine' enterM ?kl ?kX ?kT ?k8 ?k6 ?k7 ?k9 ?kB ?c2 ?c3 ?c4 ?c5 ?_; (case kl => assumption); (case kX => assumption); (case kT => assumption); (case k6 => k_is); (case k7 => k_is); (case k8 => assumption); (case k9 => first | exact BindsTo.of_eq rfl | exact kp_binds (by assumption) (fun _ => rfl)); (case c5 => decide); (case kB => exact locs rfl); (case c2 => exact rfl); (case c3 => exact rfl); (case c4 => exact rfl))
  intro L1 h1 tk1 F1 N1
  obtain ⟨m0, t0, F0, q0⟩ : ∃ m t0, Fr (s.heap.hide la) L1 h1 m ∧ has [(Str.ofString "a", .ref la), (Str.ofString "x", x), (Str.ofString "lo", .int 0 t0), (Str.ofString "hi", .none), (Str.ofString "key", .none)] m := ⟨_, _, F1, has.cons rfl (has.cons rfl (has.cons rfl (has.cons rfl (has.cons rfl has.nil))))⟩
  clear F1 X1 T1
  have F2 := has.fr F0 q0
  clear F0 q0
  have hk0 : Kept s.heap h1 := fun b o e => by
    by_cases hbl : b = la
    · subst hbl
      have := (N1 _ (.head _)).1
      dsimp only at this
      rw [hla] at e
      cases e
      exact this
    · exact F2.keep b o ((Heap.hide_ne _ hbl).trans e)
  repeat' walk1
  rename Fr _ _ _ _ => F3
  rename News _ _ _ _ => N3
  obtain ⟨F4, N4⟩ := backM F N hr F3 N3
  exact hret _ _ F4 N4
end Mine
end
section
open PySem PySem.Sre
set_option maxRecDepth 100000
namespace Mine

theorem step_done {m : M} (h : m.outcome.isSome = true) : m.step = m := by unfold M.step; rw [if_pos h]
/-- k steps -/
def steps : Nat → M → M
  | 0, m => m
  | k + 1, m => steps k m.step
theorem steps_done {m : M} (h : m.outcome.isSome = true) : ∀ k, steps k m = m
  | 0 => rfl
  | k + 1 => by unfold steps; rw [step_done h]; exact steps_done h k
theorem runFor_steps : ∀ (k : Nat) (m : M), M.runFor k m = steps k m
  | 0, _ => rfl
  | k + 1, m => by
    unfold M.runFor steps
    by_cases h : m.outcome.isSome = true
    · rw [if_pos h, step_done h, steps_done h]
    · rw [if_neg h]; exact runFor_steps k m.step
theorem steps_add : ∀ (a b : Nat) (m : M), steps (a + b) m = steps b (steps a m)
  | 0, b, m => by rw [Nat.zero_add]; rfl
  | a + 1, b, m => by
    rw [Nat.succ_add]
    show steps (a + b) m.step = steps b (steps a m.step)
    exact steps_add a b m.step

/-- m comes to m' in at most n steps -/
def Comes (n : Nat) (m m' : M) : Prop := ∃ k, k ≤ n ∧ steps k m = m'
theorem Comes.refl (m : M) : Comes 0 m m := ⟨0, Nat.le_refl _, rfl⟩
theorem Comes.trans {a b : Nat} {m m' m'' : M} (x : Comes a m m') (y : Comes b m' m'') : Comes (a + b) m m'' := by
  obtain ⟨k, hk, e⟩ := x
  obtain ⟨j, hj, e'⟩ := y
  exact ⟨k + j, Nat.add_le_add hk hj, by rw [steps_add, e, e']⟩
theorem Comes.step {b : Nat} {m m' : M} (y : Comes b m.step m') : Comes (b + 1) m m' := by
  obtain ⟨j, hj, e'⟩ := y
  exact ⟨j + 1, Nat.succ_le_succ hj, e'⟩
theorem Comes.mono {a b : Nat} {m m' : M} (x : Comes a m m') (h : a ≤ b) : Comes b m m' := by
  obtain ⟨k, hk, e⟩ := x
  exact ⟨k, Nat.le_trans hk h, e⟩

def code1 : Array Nat := #[14, 4, 0, 1, 1, 6, 1, 16, 46, 1]
def code2 : Array Nat := #[14, 9, 4, 1, 2, 16, 10, 16, 13, 0, 7, 7, 16, 13, 16, 10, 15, 18, 5, 16, 10, 15, 13, 11, 16, 13, 5, 5, 0, 16, 10, 1, 15, 2, 0, 1]

/-- an attempt at s begins -/
def at1 (T : Array Nat) (s : Nat) (must first : Bool) (seen : Seen) (h : Nat) : M :=
  { code := code1, text := T, lim := T.size, start := s, lastStart := T.size, mustAdvance := must, pc := 5, pos := s, handed := h, outermost := first, marks := #[], frames := [{ wait := .nextStart, pc := 5, pos := s, outermost := first }], weight := 1, seen }

/-- where it ends -/
def End1 (_T : Array Nat) (r : Option (Nat × Nat)) (m : M) : Prop :=
  match r with
  | some (s, e) => (∃ x, m.outcome = some x ∧ x = .matched) ∧ m.start = s ∧ m.handed = e
  | none => ∃ x, m.outcome = some x ∧ x = .failed

/-- a dot at the beginning of a row -/
def dotAt (T : Array Nat) (s : Nat) : Bool := (s == 0 || T.getD (s - 1) 0 == 10) && (decide (s < T.size) && T.getD s 0 == 46)

theorem at1_yes (T : Array Nat) (s : Nat) (must first : Bool) (seen : Seen) (h : Nat) (hd : dotAt T s = true) : ∃ m', Comes 8 (at1 T s must first seen h) m' ∧ End1 T (some (s, s + 1)) m' := by
  unfold dotAt at hd
  rw [Bool.and_eq_true, Bool.and_eq_true, decide_eq_true_eq] at hd
  obtain ⟨h1, h2, h3⟩ := hd
  have e1 : (at1 T s must first seen h).step = { (at1 T s must first seen h) with pc := 7, seen := (seen.add 6).add 44 } := by
    show (if (s == 0 || T.getD (s - 1) 0 == 10) = true then _ else _) = _
    rw [if_pos h1]; rfl
  have e2 : ({ (at1 T s must first seen h) with pc := 7, seen := (seen.add 6).add 44 } : M).step = { (at1 T s must first seen h) with pc := 9, pos := s + 1, seen := ((seen.add 6).add 44).add 16 } := by
    show (if s ≥ T.size then _ else _) = _
    rw [if_neg (Nat.not_le.mpr h2)]
    show (match (Except.ok (T.getD s 0 == 46, ((seen.add 6).add 44).add 16) : Except String (Bool × Seen)) with | .error why => M.stick _ why | .ok (false, seen) => M.say _ false | .ok (true, seen) => _) = _
    rw [h3]
    rfl
  have e3 : ({ (at1 T s must first seen h) with pc := 9, pos := s + 1, seen := ((seen.add 6).add 44).add 16 } : M).step = { (at1 T s must first seen h) with pc := 9, pos := s + 1, handed := s + 1, seen := (((seen.add 6).add 44).add 16).add 1, answer := some true } := by
    show (if (first && ((false && _) || (must && (s + 1 == s)))) = true then _ else _) = _
    have z : (s + 1 == s) = false := by simp
    rw [z, Bool.false_and, Bool.false_or, Bool.and_false, Bool.and_false, if_neg Bool.false_ne_true]
    rfl
  refine ⟨steps 5 (at1 T s must first seen h), ⟨5, by decide, rfl⟩, ?_⟩
  show End1 T (some (s, s + 1)) (steps 2 ((at1 T s must first seen h).step.step.step))
  rw [e1, e2, e3]
  exact ⟨⟨_, rfl, rfl⟩, rfl, rfl⟩

theorem fail1 (T : Array Nat) (s : Nat) (must first : Bool) (seen : Seen) (h pc pos : Nat) (hs : s < T.size) :
    ({ (at1 T s must first seen h) with pc, pos, answer := some false } : M).step = at1 T (s + 1) false false seen (s + 1) := by
  show (if s < T.size then _ else _) = _
  rw [if_pos hs]
  rfl
theorem stop1 (T : Array Nat) (s : Nat) (must first : Bool) (seen : Seen) (h pc pos : Nat) (hs : ¬s < T.size) :
    End1 T none (({ (at1 T s must first seen h) with pc, pos, answer := some false } : M).step.step) := by
  have e : ({ (at1 T s must first seen h) with pc, pos, answer := some false } : M).step = { (at1 T s must first seen h) with frames := [], weight := 0, answer := some false } := by
    show (if s < T.size then _ else _) = _
    rw [if_neg hs]
    rfl
  rw [e]
  exact ⟨_, rfl, rfl⟩

/-- no dot here: some steps to a no -/
theorem at1_no (T : Array Nat) (s : Nat) (must first : Bool) (seen : Seen) (h : Nat) (hd : dotAt T s = false) :
    ∃ k pc pos seen', k ≤ 2 ∧ steps k (at1 T s must first seen h) = { (at1 T s must first seen' h) with pc, pos, answer := some false } := by
  unfold dotAt at hd
  by_cases h1 : (s == 0 || T.getD (s - 1) 0 == 10) = true
  · have e1 : (at1 T s must first seen h).step = { (at1 T s must first seen h) with pc := 7, seen := (seen.add 6).add 44 } := by
      show (if (s == 0 || T.getD (s - 1) 0 == 10) = true then _ else _) = _
      rw [if_pos h1]; rfl
    rw [h1, Bool.true_and] at hd
    by_cases h2 : s < T.size
    · rw [decide_eq_true h2, Bool.true_and] at hd
      have e2 : ({ (at1 T s must first seen h) with pc := 7, seen := (seen.add 6).add 44 } : M).step = { (at1 T s must first (((seen.add 6).add 44).add 16) h) with pc := 7, pos := s, answer := some false } := by
        show (if s ≥ T.size then _ else _) = _
        rw [if_neg (Nat.not_le.mpr h2)]
        show (match (Except.ok (T.getD s 0 == 46, ((seen.add 6).add 44).add 16) : Except String (Bool × Seen)) with | .error why => M.stick _ why | .ok (false, seen) => M.say _ false | .ok (true, seen) => _) = _
        rw [hd]
        rfl
      exact ⟨2, 7, s, _, Nat.le_refl _, by show (at1 T s must first seen h).step.step = _; rw [e1, e2]⟩
    · have e2 : ({ (at1 T s must first seen h) with pc := 7, seen := (seen.add 6).add 44 } : M).step = { (at1 T s must first (((seen.add 6).add 44).add 16) h) with pc := 7, pos := s, answer := some false } := by
        show (if s ≥ T.size then _ else _) = _
        rw [if_pos (Nat.le_of_not_lt h2)]
        rfl
      exact ⟨2, 7, s, _, Nat.le_refl _, by show (at1 T s must first seen h).step.step = _; rw [e1, e2]⟩
  · have e1 : (at1 T s must first seen h).step = { (at1 T s must first ((seen.add 6).add 44) h) with pc := 5, pos := s, answer := some false } := by
      show (if (s == 0 || T.getD (s - 1) 0 == 10) = true then _ else _) = _
      rw [if_neg h1]; rfl
    exact ⟨1, 5, s, _, by decide, e1⟩

/-- the first dot from s on, within n places -/
def nextDot (T : Array Nat) : Nat → Nat → Option Nat
  | 0, _ => none
  | n + 1, s => if dotAt T s then some s else nextDot T n (s + 1)

theorem run1 (T : Array Nat) : ∀ (n s : Nat) (must first : Bool) (seen : Seen) (h : Nat), s + n = T.size + 1 → ∃ m', Comes (10 * n + 10) (at1 T s must first seen h) m' ∧ End1 T ((nextDot T n s).map fun i => (i, i + 1)) m'
  | 0, s, must, first, seen, h, hn => by
    have hd : dotAt T s = false := by unfold dotAt; rw [decide_eq_false (by omega)]; simp
    obtain ⟨k, pc, pos, seen', hk, e⟩ := at1_no T s must first seen h hd
    exact ⟨steps (k + 2) (at1 T s must first seen h), ⟨k + 2, by omega, rfl⟩, by rw [steps_add, e]; exact stop1 T s must first seen' h pc pos (by omega)⟩
  | n + 1, s, must, first, seen, h, hn => by
    unfold nextDot
    by_cases hd : dotAt T s = true
    · rw [if_pos hd]
      obtain ⟨m', c, e⟩ := at1_yes T s must first seen h hd
      exact ⟨m', c.mono (by omega), e⟩
    · rw [if_neg hd]
      obtain ⟨k, pc, pos, seen', hk, e⟩ := at1_no T s must first seen h (by simpa using hd)
      by_cases hs : s < T.size
      · obtain ⟨m', c, e'⟩ := run1 T n (s + 1) false false seen' (s + 1) (by omega)
        have c1 : Comes (k + 1) (at1 T s must first seen h) (at1 T (s + 1) false false seen' (s + 1)) := ⟨k + 1, Nat.le_refl _, by rw [steps_add, e]; exact fail1 T s must first seen' h pc pos hs⟩
        exact ⟨m', (c1.trans c).mono (by omega), e'⟩
      · have hn0 : n = 0 := by omega
        subst hn0
        exact ⟨steps (k + 2) (at1 T s must first seen h), ⟨k + 2, by omega, rfl⟩, by rw [steps_add, e]; exact stop1 T s must first seen' h pc pos hs⟩

theorem search1 (T : Array Nat) (p : Nat) (must : Bool) (hp : p ≤ T.size) : ∃ m', Comes (10 * T.size + 20) (forSearch code1 T 0 p T.size must) m' ∧ End1 T ((nextDot T (T.size + 1 - p) p).map fun i => (i, i + 1)) m' := by
  by_cases hlt : p < T.size
  · have e : forSearch code1 T 0 p T.size must = at1 T p must true (({} : Seen).add 14) p := by
      show (if (decide (p > T.size) || decide (T.size - p < 1)) = true then _ else _) = _
      rw [if_neg (by simp; omega)]
      rfl
    rw [e]
    obtain ⟨m', c, e'⟩ := run1 T (T.size + 1 - p) p must true (({} : Seen).add 14) p (by omega)
    exact ⟨m', c.mono (by omega), e'⟩
  · have e0 : p = T.size := by omega
    subst e0
    have e : (nextDot T (T.size + 1 - T.size) T.size) = none := by
      rw [show T.size + 1 - T.size = 1 by omega]
      unfold nextDot nextDot dotAt
      simp
    rw [e]
    refine ⟨steps 1 (forSearch code1 T 0 T.size T.size must), ⟨1, by omega, rfl⟩, ?_⟩
    show End1 T none (steps 1 (if (decide (T.size > T.size) || decide (T.size - T.size < 1)) = true then _ else _))
    rw [if_pos (by simp)]
    exact ⟨_, rfl, rfl⟩
end Mine
end
section
open PySem PySem.Sre
set_option maxRecDepth 100000
namespace Mine

def st2 (T : Array Nat) (s pc pos h : Nat) (om : Bool) (frames : List Sre.Frame) (weight : Nat) (answer : Option Bool) (seen : Seen) : M :=
  { code := code2, text := T, lim := T.size, start := s, lastStart := T.size, pc, pos, handed := h, outermost := om, marks := #[], frames, weight, answer, seen }
def fr0 (s : Nat) : Sre.Frame := { wait := .nextStart, pc := 10, pos := s, outermost := true }
def frB (alt s : Nat) : Sre.Frame := { wait := .nextBranch, pc := alt, pos := s, outermost := true }
def frL (s : Nat) : Sre.Frame := { wait := .lookNot, pc := 26, pos := s, outermost := true }

def isAt2 (T : Array Nat) (s c : Nat) : Bool := decide (s < T.size) && T.getD s 0 == c

theorem lit2 (T : Array Nat) (s pc pos h : Nat) (om : Bool) (frames : List Sre.Frame) (weight : Nat) (seen : Seen) (c : Nat)
    (e : ∀ seen, (st2 T s pc pos h om frames weight none seen).step = if pos ≥ T.size then (st2 T s pc pos h om frames weight none (seen.add 16)).say false else
      match (Except.ok (T.getD pos 0 == c, seen.add 16) : Except String (Bool × Seen)) with
      | .error why => (st2 T s pc pos h om frames weight none (seen.add 16)).stick why
      | .ok (false, seen) => (st2 T s pc pos h om frames weight none seen).say false
      | .ok (true, seen) => st2 T s (pc + 2) (pos + 1) h om frames weight none seen) :
    (st2 T s pc pos h om frames weight none seen).step = if isAt2 T pos c = true then st2 T s (pc + 2) (pos + 1) h om frames weight none (seen.add 16) else st2 T s pc pos h om frames weight (some false) (seen.add 16) := by
  rw [e]
  unfold isAt2
  by_cases h1 : pos ≥ T.size
  · rw [if_pos h1, decide_eq_false (Nat.not_lt.mpr h1), Bool.false_and, if_neg Bool.false_ne_true]; rfl
  · rw [if_neg h1, decide_eq_true (Nat.lt_of_not_le h1), Bool.true_and]
    cases T.getD pos 0 == c with
    | true => rw [if_pos rfl]
    | false => rw [if_neg Bool.false_ne_true]; rfl

section
variable (T : Array Nat) (s : Nat) (h : Nat)
abbrev S0 (seen : Seen) : M := st2 T s 10 s h true [fr0 s] 1 none seen

theorem lit12 (pos weight : Nat) (frames seen) : (st2 T s 12 pos h true frames weight none seen).step = if isAt2 T pos 13 = true then st2 T s (12 + 2) (pos + 1) h true frames weight none (seen.add 16) else st2 T s 12 pos h true frames weight (some false) (seen.add 16) := lit2 T s 12 pos h true frames weight seen 13 fun _ => rfl
theorem lit14 (pos weight : Nat) (frames seen) : (st2 T s 14 pos h true frames weight none seen).step = if isAt2 T pos 10 = true then st2 T s (14 + 2) (pos + 1) h true frames weight none (seen.add 16) else st2 T s 14 pos h true frames weight (some false) (seen.add 16) := lit2 T s 14 pos h true frames weight seen 10 fun _ => rfl
theorem lit19 (pos weight : Nat) (frames seen) : (st2 T s 19 pos h true frames weight none seen).step = if isAt2 T pos 10 = true then st2 T s (19 + 2) (pos + 1) h true frames weight none (seen.add 16) else st2 T s 19 pos h true frames weight (some false) (seen.add 16) := lit2 T s 19 pos h true frames weight seen 10 fun _ => rfl
theorem lit24 (pos weight : Nat) (frames seen) : (st2 T s 24 pos h true frames weight none seen).step = if isAt2 T pos 13 = true then st2 T s (24 + 2) (pos + 1) h true frames weight none (seen.add 16) else st2 T s 24 pos h true frames weight (some false) (seen.add 16) := lit2 T s 24 pos h true frames weight seen 13 fun _ => rfl
theorem lit29 (pos weight : Nat) (frames seen) : (st2 T s 29 pos h false frames weight none seen).step = if isAt2 T pos 10 = true then st2 T s (29 + 2) (pos + 1) h false frames weight none (seen.add 16) else st2 T s 29 pos h false frames weight (some false) (seen.add 16) := lit2 T s 29 pos h false frames weight seen 10 fun _ => rfl

theorem br10 (seen) : (S0 T s h seen).step = st2 T s 12 s s true [frB 11 s, fr0 s] 2 none (seen.add 7) := rfl
theorem br11 (pc pos : Nat) (seen) : (st2 T s pc pos h true [frB 11 s, fr0 s] 2 (some false) seen).step = st2 T s 19 s s true [frB 18 s, fr0 s] 2 none seen := rfl
theorem br18 (pc pos : Nat) (seen) : (st2 T s pc pos h true [frB 18 s, fr0 s] 2 (some false) seen).step = st2 T s 24 s s true [frB 23 s, fr0 s] 2 none seen := rfl
theorem as26 (pos : Nat) (seen) : (st2 T s 26 pos h true [frB 23 s, fr0 s] 2 none seen).step = st2 T s 29 pos pos false [frL pos, frB 23 s, fr0 s] 3 none (seen.add 5) := rfl
theorem lk26 (pc pos p : Nat) (seen) : (st2 T s pc pos h false [frL p, frB 23 s, fr0 s] 3 (some false) seen).step = st2 T s 32 p h true [frB 23 s, fr0 s] 2 none seen := rfl
/-- from the jump to the end -/
theorem end2 (alt pc pos : Nat) (seen) (e : (st2 T s pc pos h true [frB alt s, fr0 s] 2 none seen).step = st2 T s 35 pos h true [frB alt s, fr0 s] 2 none (seen.add 15)) :
    End1 T (some (s, pos)) (steps 5 (st2 T s pc pos h true [frB alt s, fr0 s] 2 none seen)) := by
  show End1 T (some (s, pos)) (steps 4 ((st2 T s pc pos h true [frB alt s, fr0 s] 2 none seen).step))
  rw [e]
  exact ⟨⟨_, rfl, rfl⟩, rfl, rfl⟩

theorem at2_lf (seen : Seen) (hc : isAt2 T s 10 = true) : End1 T (some (s, s + 1)) (steps 9 (S0 T s h seen)) := by
  have h13 : isAt2 T s 13 = false := by
    unfold isAt2 at hc ⊢
    rw [Bool.and_eq_true, beq_iff_eq] at hc
    rw [hc.2]; simp
  show End1 T (some (s, s + 1)) (steps 5 ((S0 T s h seen).step.step.step.step))
  rw [br10, lit12, h13, if_neg Bool.false_ne_true, br11, lit19, hc, if_pos rfl]
  exact end2 T s s 18 21 (s + 1) _ rfl
theorem at2_crlf (seen : Seen) (hc : isAt2 T s 13 = true) (hn : isAt2 T (s + 1) 10 = true) : End1 T (some (s, s + 2)) (steps 8 (S0 T s h seen)) := by
  show End1 T (some (s, s + 2)) (steps 5 ((S0 T s h seen).step.step.step))
  rw [br10, lit12, hc, if_pos rfl, lit14, hn, if_pos rfl]
  exact end2 T s s 11 16 (s + 2) _ rfl
theorem at2_cr (seen : Seen) (hc : isAt2 T s 13 = true) (hn : isAt2 T (s + 1) 10 = false) : End1 T (some (s, s + 1)) (steps 15 (S0 T s h seen)) := by
  have h10 : isAt2 T s 10 = false := by
    unfold isAt2 at hc ⊢
    rw [Bool.and_eq_true, beq_iff_eq] at hc
    rw [hc.2]; simp
  show End1 T (some (s, s + 1)) (steps 5 ((S0 T s h seen).step.step.step.step.step.step.step.step.step.step))
  rw [br10, lit12, hc, if_pos rfl, lit14, hn, if_neg Bool.false_ne_true, br11, lit19, h10, if_neg Bool.false_ne_true, br18, lit24, hc, if_pos rfl, as26, lit29, hn, if_neg Bool.false_ne_true, lk26]
  exact end2 T s (s + 1) 23 32 (s + 1) _ rfl
end

/-- the first line end from s on, within n places -/
def nextNl (T : Array Nat) : Nat → Nat → Option Nat
  | 0, _ => none
  | n + 1, s => if isAt2 T s 10 || isAt2 T s 13 then some s else nextNl T n (s + 1)

theorem inSet2 (c : Nat) (seen : Seen) : ∃ seen', inSet code2 c 36 5 true seen = .ok (c == 10 || c == 13, seen') := by
  show ∃ seen', (if (c == 10) = true then (Except.ok (true, seen.add 16) : Except String (Bool × Seen)) else if (c == 13) = true then .ok (true, (seen.add 16).add 16) else .ok (false, ((seen.add 16).add 16).add 0)) = _
  cases c == 10 with
  | true => exact ⟨_, rfl⟩
  | false =>
    cases c == 13 with
    | true => exact ⟨_, rfl⟩
    | false => exact ⟨_, rfl⟩

theorem admitted2 (m : M) (hc : m.code = code2) (hl : m.lim = m.text.size) : ∀ (n s : Nat) (seen : Seen), ∃ seen', M.admitted m n s seen = .ok (nextNl m.text n s, seen')
  | 0, _, seen => ⟨seen, rfl⟩
  | n + 1, s, seen => by
    unfold M.admitted nextNl isAt2
    rw [hl]
    by_cases h : s ≥ m.text.size
    · rw [if_pos h]
      obtain ⟨seen', e⟩ : ∃ seen', (Except.ok (none, seen) : Except String (Option Nat × Seen)) = .ok (none, seen') := ⟨_, rfl⟩
      refine ⟨seen, ?_⟩
      rw [decide_eq_false (Nat.not_lt.mpr h), Bool.false_and, Bool.false_and, Bool.or_false, if_neg Bool.false_ne_true]
      have z : ∀ n s, m.text.size ≤ s → nextNl m.text n s = none := by
        intro n
        induction n with
        | zero => intro s _; rfl
        | succ n ih =>
          intro s hs
          unfold nextNl isAt2
          rw [decide_eq_false (Nat.not_lt.mpr hs), Bool.false_and, Bool.false_and, Bool.or_false, if_neg Bool.false_ne_true]
          exact ih _ (Nat.le_succ_of_le hs)
      rw [z n (s + 1) (Nat.le_succ_of_le h)]
    · rw [if_neg h]
      obtain ⟨seen', e⟩ := inSet2 (m.text.getD s 0) seen
      rw [hc, show code2.size = 36 from rfl, e]
      rw [decide_eq_true (Nat.lt_of_not_le h), Bool.true_and, Bool.true_and]
      cases hb : (m.text.getD s 0 == 10 || m.text.getD s 0 == 13) with
      | true => exact ⟨seen', rfl⟩
      | false =>
        rw [if_neg Bool.false_ne_true]
        exact admitted2 m hc hl n (s + 1) seen'

/-- the length of the line end at s -/
def nlEnd (T : Array Nat) (s : Nat) : Nat := if isAt2 T s 13 && isAt2 T (s + 1) 10 then s + 2 else s + 1

theorem nextNl_at (T : Array Nat) : ∀ (n s i : Nat), nextNl T n s = some i → (isAt2 T i 10 || isAt2 T i 13) = true
  | 0, _, _, h => nomatch h
  | n + 1, s, i, h => by
    unfold nextNl at h
    split at h
    · cases h; assumption
    · exact nextNl_at T n (s + 1) i h

theorem search2 (T : Array Nat) (p : Nat) (must : Bool) (hp : p ≤ T.size) : ∃ m', Comes 20 (forSearch code2 T 0 p T.size must) m' ∧ End1 T ((nextNl T (T.size + 1 - p) p).map fun i => (i, nlEnd T i)) m' := by
  by_cases hlt : p < T.size
  · have e : forSearch code2 T 0 p T.size must = M.attemptFrom { code := code2, text := T, lim := T.size, start := p, lastStart := T.size, pc := 10, pos := p, handed := p, marks := #[], mustAdvance := must, seen := ({} : Seen).add 14 } p true := by
      show (if (decide (p > T.size) || decide (T.size - p < 1)) = true then _ else _) = _
      rw [if_neg (by simp; omega)]
      rfl
    rw [e]
    obtain ⟨seen', ea⟩ := admitted2 { code := code2, text := T, lim := T.size, start := p, lastStart := T.size, pc := 10, pos := p, handed := p, marks := #[], mustAdvance := must, seen := ({} : Seen).add 14 } rfl rfl (T.size + 1 - p) p (({} : Seen).add 14)
    dsimp only at ea
    unfold M.attemptFrom
    have hf : M.hasFirstSet { code := code2, text := T, lim := T.size, start := p, lastStart := T.size, pc := 10, pos := p, handed := p, marks := #[], mustAdvance := must, seen := ({} : Seen).add 14 } = true := rfl
    rw [hf, if_neg (by decide)]
    dsimp only
    rw [ea]
    cases hn : nextNl T (T.size + 1 - p) p with
    | none => exact ⟨_, ⟨1, by decide, rfl⟩, _, rfl, rfl⟩
    | some i =>
      have hi := nextNl_at T _ _ _ hn
      show ∃ m', Comes 20 (S0 T i i seen') m' ∧ End1 T (some (i, nlEnd T i)) m'
      unfold nlEnd
      cases h10 : isAt2 T i 10 with
      | true =>
        have h13 : isAt2 T i 13 = false := by
          unfold isAt2 at h10 ⊢
          rw [Bool.and_eq_true, beq_iff_eq] at h10
          rw [h10.2]; simp
        rw [h13, Bool.false_and, if_neg Bool.false_ne_true]
        exact ⟨_, ⟨9, by decide, rfl⟩, at2_lf T i i seen' h10⟩
      | false =>
        rw [h10, Bool.false_or] at hi
        rw [hi, Bool.true_and]
        cases hnx : isAt2 T (i + 1) 10 with
        | true => rw [if_pos rfl]; exact ⟨_, ⟨8, by decide, rfl⟩, at2_crlf T i i seen' hi hnx⟩
        | false => rw [if_neg Bool.false_ne_true]; exact ⟨_, ⟨15, by decide, rfl⟩, at2_cr T i i seen' hi hnx⟩
  · have e0 : p = T.size := by omega
    subst e0
    have e : (nextNl T (T.size + 1 - T.size) T.size) = none := by
      rw [show T.size + 1 - T.size = 1 by omega]
      unfold nextNl nextNl isAt2
      simp
    rw [e]
    refine ⟨steps 1 (forSearch code2 T 0 T.size T.size must), ⟨1, by omega, rfl⟩, ?_⟩
    show End1 T none (steps 1 (if (decide (T.size > T.size) || decide (T.size - T.size < 1)) = true then _ else _))
    rw [if_pos (by simp)]
    exact ⟨_, rfl, rfl⟩
end Mine
end
section
open PySem
set_option maxRecDepth 100000
namespace Mine

theorem plainAttrs_re : PlainAttrs "re.Pattern" :=
  ⟨⟨"object.__getattribute__", by rw [typeLookup_type, builtinLookup_eq_fast]; kernel_rfl, by decide +kernel⟩, by rw [typeLookup_type, builtinLookup_eq_fast]; kernel_rfl⟩
theorem slot_re_sub : Slot "re.Pattern" "sub" "re.Pattern.sub" :=
  .of (owner := "re.Pattern") (n := "sub") (by rw [typeLookup_type, builtinLookup_eq_fast]; kernel_rfl) (by decide +kernel) (by decide +kernel) (by decide +kernel)
    (by first | exact .inl (by decide +kernel) | exact .inr (by decide +kernel)) (by rw [isSubtype_type]; kernel_rfl)
theorem type_re_sub : typeOf (.builtin "re.Pattern.sub") = pure (.type "method_descriptor") := by show builtinType _ = _; rw [builtinType_eq_fast]; kernel_rfl
theorem entry_re_sub : entryFor table "re.Pattern.sub" = some Builtin.«re.Pattern.sub» := entryFor_of_tree (by kernel_rfl)
theorem entry_re_loop : entryFor table "re.Pattern.sub.loop" = some Builtin.«re.Pattern.sub.loop» := entryFor_of_tree (by kernel_rfl)
theorem quiet_re_loop (args : Args) : (Code.builtin "re.Pattern.sub.loop" args).quiet = true := by
  show Code.quiet _ = true
  kernel_rfl
theorem owner_re : Manifest.owners.lookup (String.ofList ['n', 'r', 'e', 't', 't', 'a', 'P', '.', 'e', 'r'].reverse) = some Manifest.sig_re_Pattern := by kernel_rfl
theorem args_re_sub (a b c : Value) : argsOk "re.Pattern.sub" ⟨[a, b, c], []⟩ := by
  unfold argsOk; rw [signature?_of (id := "re.Pattern.sub") (n := ['b', 'u', 's']) (o := ['n', 'r', 'e', 't', 't', 'a', 'P', '.', 'e', 'r']) (by kernel_rfl) owner_re]; kernel_rfl
theorem nocall_str : typeLookup (.type "str") "__call__" = pure none := by rw [typeLookup_type, builtinLookup_eq_fast]; kernel_rfl
end Mine
end
section
open PySem PySem.Sre PySem.W PyProof.Rows PySem.Calls
open PySem.Builtin.Re
set_option maxRecDepth 100000
namespace Mine

/-- a compiled pattern of texts, without groups -/
def PatAt (h : Heap) (p : Addr) (code : Array Nat) : Prop :=
  ∃ pv fl tp sl1 sl2 n, h.get? p = some { cls := .type "re.Pattern", dict := none, data := .fields #[pv, fl, .int 0 0, .none, .none, .ref tp, .int 0 0], slots := sl1 } ∧ h.get? tp = some { cls := .type "tuple", dict := none, data := .seq (code.toList.map fun (n : Nat) => Value.int (n : Int) 0).toArray n, slots := sl2 }
theorem PatAt.at {h h' : Heap} {p : Addr} {code : Array Nat} (x : PatAt h p code) (k : Kept h h') : PatAt h' p code := by
  obtain ⟨pv, fl, tp, sl1, sl2, n, a, b⟩ := x
  exact ⟨pv, fl, tp, sl1, sl2, n, k _ _ a, k _ _ b⟩

section
variable {prog : Program} {w : World} {A : Around} {E : Value → Shared → Prop} {s : Shared}

theorem code_back (code : Array Nat) : (((code.toList.map fun (n : Nat) => Value.int (n : Int) 0).toArray.map reRawOf).map (·.toNat)) = code := by
  rw [List.map_toArray, List.map_toArray, List.map_map, List.map_map]
  have : (((fun x : Int => x.toNat) ∘ reRawOf) ∘ fun n : Nat => Value.int (n : Int) 0) = id := by funext n; simp [reRawOf]
  rw [this, List.map_id]

theorem whole_ok {p : Addr} {code : Array Nat} {x : Str} {t : Tok} {Q : ReTarget → Shared → Prop} (hp : PatAt s.heap p code)
    (h : Q { pattern := .ref p, string := .str x t, code, text := x.cps, kind := 0, groups := 0, pos := 0, lim := x.cps.size } s) :
    wpAny (model prog w) A (reWholeTarget (.ref p) (.str x t)) Q E s := by
  obtain ⟨pv, fl, tp, sl1, sl2, n, hp1, hp2⟩ := hp
  unfold reWholeTarget
  refine wpAny_bind ?_
  show wpAny _ _ (load p >>= _) _ _ _
  refine wpAny_bind (wpAny_load hp1 (wpAny_pure ?_))
  refine wpAny_bind ?_
  show wpAny _ _ (pure (x.cps, 0)) _ _ _
  refine wpAny_pure ?_
  dsimp only
  show wpAny _ _ (reNoCollectionInside (.str x t) 0 >>= _) _ _ _
  refine wpAny_bind ?_
  show wpAny _ _ (pure ()) _ _ _
  refine wpAny_pure ?_
  refine wpAny_bind ?_
  show wpAny _ _ (reRawItems (.ref tp)) _ _ _
  unfold reRawItems
  refine wpAny_bind ?_
  show wpAny _ _ (load tp >>= _) _ _ _
  refine wpAny_bind (wpAny_load hp2 (wpAny_pure (wpAny_pure (wpAny_pure ?_))))
  show Q { pattern := .ref p, string := .str x t, code := (((code.toList.map fun (n : Nat) => Value.int (n : Int) 0).toArray.map reRawOf).map (·.toNat)), text := x.cps, kind := 0, groups := 0, pos := 0, lim := x.cps.size } s
  rw [code_back]
  exact h

theorem drive_ok {Q : M → Shared → Prop} : ∀ (turns k : Nat) (m : M), k ≤ 4 * turns → (steps k m).outcome.isSome = true → Q (steps k m) s → wpAny (model prog w) A (reDrive (turns + 1) m) Q E s
  | 0, k, m, hk, ho, h => by
    have e : k = 0 := by omega
    subst e
    unfold reDrive
    dsimp only
    rw [runFor_steps]
    have ho' : m.outcome.isSome = true := ho
    have : steps reTurnSteps m = m := steps_done ho' _
    rw [this, if_pos ho']
    exact wpAny_pure h
  | turns + 1, k, m, hk, ho, h => by
    unfold reDrive
    dsimp only
    rw [runFor_steps]
    by_cases h4 : (steps reTurnSteps m).outcome.isSome = true
    · rw [if_pos h4]
      refine wpAny_pure ?_
      have e : steps reTurnSteps m = steps k m := by
        rcases Nat.le_total k 4 with hle | hle
        · obtain ⟨j, hj⟩ := Nat.le.dest hle
          show steps 4 m = _
          rw [← hj, steps_add, steps_done ho]
        · obtain ⟨j, hj⟩ := Nat.le.dest hle
          rw [← hj, steps_add]
          exact (steps_done h4 j).symm
      rw [e]; exact h
    · rw [if_neg h4]
      refine wpAny_bind (wpAny_rule ?_)
      have hk4 : 4 ≤ k := by
        rcases Nat.lt_or_ge k 4 with hlt | hge
        · obtain ⟨j, hj⟩ := Nat.le.dest (Nat.le_of_lt hlt)
          exfalso; apply h4
          show (steps 4 m).outcome.isSome = true
          rw [← hj, steps_add, steps_done ho]; exact ho
        · exact hge
      obtain ⟨j, hj⟩ := Nat.le.dest hk4
      have e : steps k m = steps j (steps reTurnSteps m) := by rw [← hj, steps_add]; rfl
      rw [e] at ho h
      exact drive_ok turns j _ (by omega) ho h

theorem forIn_rules (sn : Sre.Seen) : ∀ (l : List Nat) {Q : PUnit → Shared → Prop}, Q ⟨⟩ s → wpAny (model prog w) A (forIn l PUnit.unit fun i _ => do
    if sn.has i = true then rule (Sre.names.getD i "") 
    pure (ForInStep.yield PUnit.unit)) Q E s
  | [], Q, h => by rw [List.forIn_nil]; exact wpAny_pure h
  | i :: l, Q, h => by
    rw [List.forIn_cons]
    refine wpAny_bind ?_
    show wpAny _ _ (if sn.has i = true then (rule _ >>= fun _ => pure (ForInStep.yield PUnit.unit)) else pure (ForInStep.yield PUnit.unit)) _ _ _
    by_cases hi : sn.has i = true
    · rw [if_pos hi]
      exact wpAny_bind (wpAny_rule (wpAny_pure (forIn_rules sn l h)))
    · rw [if_neg hi]
      exact wpAny_pure (forIn_rules sn l h)

theorem found_ok {m m' : M} {T : Array Nat} {r : Option (Nat × Nat)} {n : Nat} {Q : Option M → Shared → Prop} (hc : Comes n m m') (hn : n ≤ 2 ^ 60) (he : End1 T r m')
    (hyes : ∀ i j, r = some (i, j) → m'.start = i → m'.handed = j → Q (some m') s) (hno : r = none → Q none s) :
    wpAny (model prog w) A (reRunToEnd m) Q E s := by
  obtain ⟨k, hk, rfl⟩ := hc
  unfold reRunToEnd
  have ho : (steps k m).outcome.isSome = true := by
    cases r with
    | none => obtain ⟨x, e, _⟩ := he; rw [e]; rfl
    | some q => obtain ⟨⟨x, e, _⟩, _⟩ := he; rw [e]; rfl
  refine wpAny_bind (drive_ok (2 ^ 64 - 1) k m (by omega) ho ?_)
  refine wpAny_bind (forIn_rules _ _ ?_)
  cases r with
  | none =>
    obtain ⟨x, e, rfl⟩ := he
    rw [e]
    exact wpAny_pure (hno rfl)
  | some q =>
    obtain ⟨⟨x, e, rfl⟩, a, b⟩ := he
    rw [e]
    exact wpAny_pure (hyes _ _ rfl a b)
end
end Mine
end
section
open PySem PySem.Sre PySem.W PyProof.Rows PySem.Calls
open PySem.Builtin.Re
set_option maxRecDepth 100000
namespace Mine

/-- the pieces that a substitution lays down -/
def outs (T : Array Nat) (find : Nat → Option (Nat × Nat)) (repl : List Nat) : Nat → Nat → List (List Nat)
  | 0, _ => []
  | n + 1, pos => match find pos with
    | none => if pos < T.size then [(T.extract pos T.size).toList] else []
    | some (i, j) => (if pos < i then [(T.extract pos i).toList] else []) ++ repl :: outs T find repl n j

section
variable {prog : Program} {w : World} {A : Around} {E : Value → Shared → Prop} {s : Shared}

theorem push_ok {D : Addr} {ys : List Value} {k : Nat} {v : Value} {Q : Unit → Shared → Prop} (hz : ys.length ≤ 16000000) (hD : s.heap.get? D = some (W.listOf ys.toArray k))
    (h : ∀ h' k', h'.get? D = some (W.listOf (ys ++ [v]).toArray k') → Heap.SameBut D s.heap h' → Q () { s with heap := h' }) :
    wpAny (model prog w) A (updateSeq D (·.push v)) Q E s := by
  refine wpAny_updateSeq hD rfl (h _ (k + 1) ?_ (Heap.SameBut.update ..)) (by rw [List.size_toArray]; exact Nat.le_trans hz (by decide)) (by rw [Array.size_push, List.size_toArray]; exact Nat.le_trans (Nat.succ_le_succ hz) (by decide))
  rw [Heap.get?_update_self _ hD rfl]
  simp [Obj.mapSeq, W.listOf]

theorem loop_ok {p D : Addr} {code T : Array Nat} {t u : Tok} {repl : List Nat} {find : Nat → Option (Nat × Nat)} {R : Result → Shared → Prop}
    (hT : T.size ≤ 1000000) (hrl : repl.length ≤ 10)
    (hsearch : ∀ q must, q ≤ T.size → ∃ n m', n ≤ 2 ^ 60 ∧ Comes n (forSearch code T 0 q T.size must) m' ∧ End1 T (find q) m')
    (hfind : ∀ q i j, find q = some (i, j) → q ≤ i ∧ i < j ∧ j ≤ T.size) :
    ∀ (fuel pos : Nat) (must : Bool) (n : Int) (s : Shared) (ys : List Value) (xs : List (List Nat)) (k : Nat), T.size < pos + fuel → pos ≤ T.size → s.heap.get? D = some (W.listOf ys.toArray k) →
      (∀ h', (∀ b o, b ≠ D → s.heap.get? b = some o → h'.get? b = some o) → PatAt h' p code) →
      StrsAt ys xs → ys.length + 2 * (T.size - pos) ≤ 8000000 → xs.flatten.length + 11 * (T.size - pos) ≤ 16000000 →
      (∀ t' h' tk', (∀ b o, b ≠ D → s.heap.get? b = some o → h'.get? b = some o) → R (.ok (.ret (.str (ofL (xs ++ outs T find repl fuel pos).flatten) t'))) { s with heap := h', toks := tk' }) →
      codeAny (model prog w) A (.builtin "re.Pattern.sub.loop" ⟨[.ref p, .str ⟨T⟩ t, .str (ofL repl) u, rawInt 0, rawInt 0, rawInt n, rawInt pos, rawInt pos, .bool must, .ref D, .bool false], []⟩) R s
  | 0, pos, must, n, s, ys, xs, k, hfu, hpos, hD, hp, hys, hyl, hlen, hR => absurd hfu (by omega)
  | fuel + 1, pos, must, n, s, ys, xs, k, hfu, hpos, hD, hp, hys, hyl, hlen, hR => by
    refine codeAny_builtin entry_re_loop ?_
    unfold Builtin.«re.Pattern.sub.loop»
    dsimp only [rawInt]
    refine wpAny_bind (whole_ok (hp _ fun b o _ e => e) ?_)
    dsimp only
    rw [if_pos (by decide)]
    refine wpAny_bind (m := reLiteralCannotBeTurned _) ?_
    show wpAny _ _ (pure ()) _ _ _
    refine wpAny_pure ?_
    simp only [Int.toNat_natCast]
    obtain ⟨ns, m', hns, hc, he⟩ := hsearch pos must hpos
    refine wpAny_bind ?_
    rw [if_neg (by simp)]
    unfold reNextFound
    refine found_ok hc hns he (fun i j hij hst hha => ?_) (fun hno => ?_)
    · obtain ⟨h1, h2, h3⟩ := hfind pos i j hij
      dsimp only
      rw [hst, hha]
      have hout : outs T find repl (fuel + 1) pos = (if pos < i then [(T.extract pos i).toList] else []) ++ repl :: outs T find repl fuel j := by
        show (match find pos with | none => _ | some (i, j) => _) = _
        rw [hij]
      have hne : (j == i) = false := by simp; omega
      -- behind the piece ahead of the match
      have rest : ∀ (s₁ : Shared) (ys₁ : List Value) (xs₁ : List (List Nat)) (k₁ : Nat), (∃ h tk, s₁ = { s with heap := h, toks := tk } ∧ (∀ b o, b ≠ D → s.heap.get? b = some o → h.get? b = some o)) → s₁.heap.get? D = some (W.listOf ys₁.toArray k₁) →
          StrsAt ys₁ xs₁ → ys₁.length ≤ ys.length + 1 → xs₁ = xs ++ (if pos < i then [(T.extract pos i).toList] else []) → xs₁.flatten.length ≤ xs.flatten.length + (i - pos) →
          wpAny (model prog w) (A.under (.builtin "re.Pattern.sub.loop" ⟨[.ref p, .str ⟨T⟩ t, .str (ofL repl) u, .int 0 0, .int 0 0, .int n 0, .int pos 0, .int pos 0, .bool must, .ref D, .bool false], []⟩)) (do
              updateSeq D fun x => x.push (.str (ofL repl) u)
              again (.builtin "re.Pattern.sub.loop" ⟨[.ref p, .str ⟨T⟩ t, .str (ofL repl) u, .int 0 0, .int 0 0, .int (n + 1) 0, .int j 0, .int j 0, .bool (j == i), .ref D, .bool false], []⟩))
            (fun fin s' => match fin with | .done f => R (.ok f) s' | .again c' => c'.quiet = true ∧ codeAny (model prog w) A c' R s') (fun e s' => R (.error e) s') s₁ := by
        rintro s₁ ys₁ xs₁ k₁ ⟨h₁, tk₁, rfl, keep₁⟩ hD₁ hys₁ hl₁ hx₁ hxl₁
        refine wpAny_bind (push_ok (by omega) hD₁ fun h₂ k₂ hD₂ hs₂ => ?_)
        refine wpAny_pure ⟨quiet_re_loop _, ?_⟩
        have keep₂ : ∀ b o, b ≠ D → s.heap.get? b = some o → h₂.get? b = some o := fun b o hb e => hs₂.extBut b o hb (keep₁ b o hb e)
        refine loop_ok hT hrl hsearch hfind fuel j _ (n + 1) _ (ys₁ ++ [.str (ofL repl) u]) (xs₁ ++ [repl]) k₂ (by omega) h3 hD₂ (fun h' hk => hp h' fun b o hb e => hk b o hb (keep₂ b o hb e)) (hys₁.snoc _ _) (by rw [List.length_append]; simp; omega)
          (by rw [List.flatten_append, List.length_append, show [repl].flatten.length = repl.length by simp]; omega) fun t' h' tk' hk => ?_
        have := hR t' h' tk' fun b o hb e => hk b o hb (keep₂ b o hb e)
        rw [hout, ← List.append_assoc, ← hx₁] at this
        rw [List.append_assoc]
        exact this
      by_cases hlt : pos < i
      · rw [if_pos hlt]
        refine wpAny_bind ?_
        show wpAny _ _ (mkStr ⟨T.extract pos i⟩) _ _ _
        refine wpAny_mkStr ?_ (by show (T.extract pos i).size ≤ _; rw [Array.size_extract]; refine Nat.le_trans (Nat.sub_le _ _) (Nat.le_trans (Nat.min_le_right _ _) (Nat.le_trans hT (by decide))))
        refine wpAny_bind (push_ok (by omega) hD fun h₁ k₁ hD₁ hs₁ => ?_)
        exact rest _ (ys ++ [.str (ofL (T.extract pos i).toList) s.toks]) (xs ++ [(T.extract pos i).toList]) k₁ ⟨h₁, _, rfl, fun b o hb e => hs₁.extBut b o hb e⟩ hD₁ (hys.snoc _ _) (by simp) (by rw [if_pos hlt]) (by
          rw [List.flatten_append, List.length_append, show [(T.extract pos i).toList].flatten.length = (T.extract pos i).toList.length by simp]; simp; omega)
      · rw [if_neg hlt]
        exact rest s ys xs k ⟨s.heap, s.toks, rfl, fun b o _ e => e⟩ hD hys (by omega) (by rw [if_neg hlt, List.append_nil]) (by omega)
    · have hout : outs T find repl (fuel + 1) pos = if pos < T.size then [(T.extract pos T.size).toList] else [] := by
        show (match find pos with | none => _ | some (i, j) => _) = _
        rw [hno]
      rw [hout] at hR
      dsimp only
      have rest : ∀ (s₁ : Shared) (ys₁ : List Value) (xs₁ : List (List Nat)) (k₁ : Nat) (A' : Around), (∃ h tk, s₁ = { s with heap := h, toks := tk } ∧ (∀ b o, b ≠ D → s.heap.get? b = some o → h.get? b = some o)) → s₁.heap.get? D = some (W.listOf ys₁.toArray k₁) →
          StrsAt ys₁ xs₁ → xs₁ = xs ++ (if pos < T.size then [(T.extract pos T.size).toList] else []) → xs₁.flatten.length ≤ 16000000 →
          wpAny (model prog w) A' (do
              let joiner ← reSlice T 0 0 0
              let l ← seqItems? (.ref D)
              if (l.getD #[]).isEmpty = true then do
                  let text ← pure joiner
                  if false = true then do
                      let n ← holding [text] (do newTuple [text, ← mkInt n])
                      ret n
                    else ret text
                else do
                  let text ← call (.builtin (if (0 == 0) = true then "str.join" else "bytes.join")) [joiner, .ref D]
                  if false = true then do
                      let n ← holding [text] (do newTuple [text, ← mkInt n])
                      ret n
                    else ret text)
            (fun fin s' => match fin with | .done f => R (.ok f) s' | .again c' => c'.quiet = true ∧ codeAny (model prog w) A c' R s') (fun e s' => R (.error e) s') s₁ := by
        rintro s₁ ys₁ xs₁ k₁ A' ⟨h₁, tk₁, rfl, keep₁⟩ hD₁ hys₁ hx₁ hxl
        refine wpAny_bind ?_
        show wpAny _ _ (mkStr ⟨T.extract 0 0⟩) _ _ _
        refine wpAny_mkStr ?_ (by show (T.extract 0 0).size ≤ _; rw [Array.size_extract]; omega)
        have e0 : (⟨T.extract 0 0⟩ : Str) = ofL [] := by
          show (⟨_⟩ : Str) = ⟨_⟩
          simp
        rw [e0]
        refine wpAny_bind ?_
        show wpAny _ _ (load D >>= _) _ _ _
        refine wpAny_bind (wpAny_load hD₁ (wpAny_pure ?_))
        dsimp only [Option.getD]
        cases ys₁ with
        | nil =>
          rw [if_pos (by rfl)]
          refine wpAny_bind (wpAny_pure ?_)
          rw [if_neg Bool.false_ne_true]
          refine wpAny_pure ?_
          cases hys₁
          have := hR tk₁ h₁ (tk₁ + 1) keep₁
          rw [← hx₁] at this
          exact this
        | cons y ys₁ =>
          rw [if_neg (by simp)]
          refine wpAny_bind ?_
          rw [if_pos (by decide)]
          refine join_use (t := tk₁) (D := D) (ys := y :: ys₁) ⟨_, hD₁, rfl, _, rfl⟩ hys₁ (Nat.le_trans hxl (by decide)) fun t' k' => ?_
          rw [if_neg Bool.false_ne_true]
          refine wpAny_pure ?_
          have := hR t' h₁ k' keep₁
          rw [← hx₁] at this
          exact this
      by_cases hlt : pos < T.size
      · rw [if_pos hlt]
        refine wpAny_bind ?_
        show wpAny _ _ (mkStr ⟨T.extract pos T.size⟩) _ _ _
        refine wpAny_mkStr ?_ (by show (T.extract pos T.size).size ≤ _; rw [Array.size_extract]; refine Nat.le_trans (Nat.sub_le _ _) (Nat.le_trans (Nat.min_le_right _ _) (Nat.le_trans hT (by decide))))
        refine wpAny_bind (push_ok (by omega) hD fun h₁ k₁ hD₁ hs₁ => ?_)
        exact rest _ (ys ++ [.str (ofL (T.extract pos T.size).toList) s.toks]) (xs ++ [(T.extract pos T.size).toList]) k₁ _ ⟨h₁, _, rfl, fun b o hb e => hs₁.extBut b o hb e⟩ hD₁ (hys.snoc _ _) (by rw [if_pos hlt]) (by
          rw [List.flatten_append, List.length_append, show [(T.extract pos T.size).toList].flatten.length = T.size - pos by simp]; omega)
      · rw [if_neg hlt]
        exact rest s ys xs k _ ⟨s.heap, s.toks, rfl, fun b o _ e => e⟩ hD hys (by rw [if_neg hlt, List.append_nil]) (by omega)
end
end Mine
end
section
open PySem PySem.Sre PySem.W PyProof.Rows PySem.Calls
open PySem.Builtin.Re
set_option maxRecDepth 100000
namespace Mine

theorem named_sub (a b : Value) : reNamed "re.Pattern.sub" "sub" ["repl", "string", "count"] 2 [a, b] [] = pure [some a, some b, none] := by
  kernel_rfl

section
variable {prog : Program} {w : World} {A : Around} {E : Value → Shared → Prop} {s : Shared}

theorem sub_call {p : Addr} {code T : Array Nat} {t u : Tok} {repl : List Nat} {find : Nat → Option (Nat × Nat)} {Q : Value → Shared → Prop}
    (hT : T.size ≤ 1000000) (hrl : repl.length ≤ 10) (hbs : repl.contains 92 = false)
    (hsearch : ∀ q must, q ≤ T.size → ∃ n m', n ≤ 2 ^ 60 ∧ Comes n (forSearch code T 0 q T.size must) m' ∧ End1 T (find q) m')
    (hfind : ∀ q i j, find q = some (i, j) → q ≤ i ∧ i < j ∧ j ≤ T.size) (hp : PatAt s.heap p code)
    (h : ∀ t' h' tk', Kept s.heap h' → Q (.str (ofL (outs T find repl (T.size + 1) 0).flatten) t') { s with heap := h', toks := tk' }) :
    wpAny (model prog w) A (call (.builtin "re.Pattern.sub") [.ref p, .str (ofL repl) u, .str ⟨T⟩ t]) Q E s := by
  have hTy : s.TypeIs (.ref p) "re.Pattern" := by obtain ⟨pv, fl, tp, sl1, sl2, n, a, b⟩ := hp; exact ⟨_, a, rfl⟩
  refine wpAny_call (codeAny_call_builtin slot_re_sub.plain entry_re_sub (slot_re_sub.check _ _ _ _ _ _ _ _ hTy (args_re_sub _ _ _) ?_))
  unfold Builtin.«re.Pattern.sub» reSubstitute
  dsimp only
  rw [named_sub]
  refine wpAny_bind (wpAny_pure ?_)
  dsimp only
  refine wpAny_bind (wpAny_pure ?_)
  refine wpAny_bind (wpAny_specialOf (typeIs_str _ _ _) nocall_str ?_)
  dsimp only [Option.isSome]
  rw [if_neg Bool.false_ne_true]
  refine wpAny_bind ?_
  show wpAny _ _ (pure (some (ofL repl))) _ _ _
  refine wpAny_pure ?_
  dsimp only
  refine wpAny_bind (wpAny_pure ?_)
  have hb : (!(ofL repl).cps.contains 92) = true := by
    show (!(repl.toArray).contains 92) = true
    rw [List.contains_toArray, hbs]; rfl
  rw [hb]
  rw [if_neg Bool.false_ne_true, if_pos rfl]
  refine wpAny_bind (wpAny_pure ?_)
  dsimp only
  refine wpAny_bind (wpAny_holding (whole_ok hp ?_))
  rw [if_neg (by decide)]
  refine wpAny_bind (wpAny_newList ?_)
  refine wpAny_pure ⟨quiet_re_loop _, ?_⟩
  refine loop_ok (D := s.heap.objs.size) (ys := []) (xs := []) (k := 0) hT hrl hsearch hfind (T.size + 1) 0 false 0 _ (by omega) (Nat.zero_le _) (Heap.get?_push_size _ rfl) (fun h' hk => hp.at fun b o e => hk b o (Nat.ne_of_lt (Heap.lt_size e)) (Heap.get?_push_of_some _ e)) .nil (by simp; omega) (by simp; omega) fun t' h' tk' hk => ?_
  exact h t' h' tk' fun b o e => hk b o (Nat.ne_of_lt (Heap.lt_size e)) (Heap.get?_push_of_some _ e)

/-- what the two searches find -/
def find1 (T : Array Nat) (q : Nat) : Option (Nat × Nat) := (nextDot T (T.size + 1 - q) q).map fun i => (i, i + 1)
def find2 (T : Array Nat) (q : Nat) : Option (Nat × Nat) := (nextNl T (T.size + 1 - q) q).map fun i => (i, nlEnd T i)

theorem nextDot_in (T : Array Nat) : ∀ (n q i : Nat), nextDot T n q = some i → q ≤ i ∧ i < T.size
  | 0, _, _, h => nomatch h
  | n + 1, q, i, h => by
    unfold nextDot at h
    split at h
    · rename_i hd
      cases h
      unfold dotAt at hd
      rw [Bool.and_eq_true, Bool.and_eq_true, decide_eq_true_eq] at hd
      exact ⟨Nat.le_refl _, hd.2.1⟩
    · have := nextDot_in T n (q + 1) i h
      omega
theorem nextNl_in (T : Array Nat) : ∀ (n q i : Nat), nextNl T n q = some i → q ≤ i ∧ i < T.size
  | 0, _, _, h => nomatch h
  | n + 1, q, i, h => by
    unfold nextNl at h
    split at h
    · rename_i hd
      cases h
      unfold isAt2 at hd
      rw [← Bool.and_or_distrib_left, Bool.and_eq_true, decide_eq_true_eq] at hd
      exact ⟨Nat.le_refl _, hd.1⟩
    · have := nextNl_in T n (q + 1) i h
      omega
theorem find1_in (T : Array Nat) (q i j : Nat) (h : find1 T q = some (i, j)) : q ≤ i ∧ i < j ∧ j ≤ T.size := by
  obtain ⟨a, ha, e⟩ := Option.map_eq_some_iff.mp h
  cases e
  have := nextDot_in T _ _ _ ha
  omega
theorem find2_in (T : Array Nat) (q i j : Nat) (h : find2 T q = some (i, j)) : q ≤ i ∧ i < j ∧ j ≤ T.size := by
  obtain ⟨a, ha, e⟩ := Option.map_eq_some_iff.mp h
  cases e
  have := nextNl_in T _ _ _ ha
  unfold nlEnd
  split
  · rename_i hb
    rw [Bool.and_eq_true] at hb
    have h2 := hb.2
    unfold isAt2 at h2
    rw [Bool.and_eq_true, decide_eq_true_eq] at h2
    omega
  · omega

theorem sub1 {p : Addr} {T : Array Nat} {t u : Tok} {repl : List Nat} {Q : Value → Shared → Prop} (hT : T.size ≤ 1000000) (hrl : repl.length ≤ 10) (hbs : repl.contains 92 = false) (hp : PatAt s.heap p code1)
    (h : ∀ t' h' tk', Kept s.heap h' → Q (.str (ofL (outs T (find1 T) repl (T.size + 1) 0).flatten) t') { s with heap := h', toks := tk' }) :
    wpAny (model prog w) A (call (.builtin "re.Pattern.sub") [.ref p, .str (ofL repl) u, .str ⟨T⟩ t]) Q E s :=
  sub_call hT hrl hbs (fun q must hq => by obtain ⟨m', c, e⟩ := search1 T q must hq; exact ⟨_, m', by omega, c, e⟩) (find1_in T) hp h
theorem sub2 {p : Addr} {T : Array Nat} {t u : Tok} {repl : List Nat} {Q : Value → Shared → Prop} (hT : T.size ≤ 1000000) (hrl : repl.length ≤ 10) (hbs : repl.contains 92 = false) (hp : PatAt s.heap p code2)
    (h : ∀ t' h' tk', Kept s.heap h' → Q (.str (ofL (outs T (find2 T) repl (T.size + 1) 0).flatten) t') { s with heap := h', toks := tk' }) :
    wpAny (model prog w) A (call (.builtin "re.Pattern.sub") [.ref p, .str (ofL repl) u, .str ⟨T⟩ t]) Q E s :=
  sub_call hT hrl hbs (fun q must hq => by obtain ⟨m', c, e⟩ := search2 T q must hq; exact ⟨_, m', by decide, c, e⟩) (find2_in T) hp h
end
end Mine
end
section
open PySem PySem.Sre PySem.W PyProof.Rows PySem.Calls
set_option maxRecDepth 100000
namespace Mine

def subst1 (d : List Nat) : List Nat := (outs d.toArray (find1 d.toArray) [46, 46] (d.toArray.size + 1) 0).flatten
def subst2 (d : List Nat) : List Nat := (outs d.toArray (find2 d.toArray) [13, 10] (d.toArray.size + 1) 0).flatten
/-- what quotedata makes -/
def quoted (d : List Nat) : List Nat := subst1 (subst2 d)

theorem outs_le (T : Array Nat) (find : Nat → Option (Nat × Nat)) (repl : List Nat) (hfind : ∀ q i j, find q = some (i, j) → q ≤ i ∧ i < j ∧ j ≤ T.size) :
    ∀ (n pos : Nat), pos ≤ T.size → (outs T find repl n pos).flatten.length ≤ (T.size - pos) * (1 + repl.length)
  | 0, _, _ => by simp [outs]
  | n + 1, pos, hp => by
    unfold outs
    cases e : find pos with
    | none =>
      dsimp only
      split
      · rw [show [(T.extract pos T.size).toList].flatten.length = T.size - pos by simp]
        exact Nat.le_mul_of_pos_right _ (by omega)
      · simp
    | some q =>
      obtain ⟨i, j⟩ := q
      obtain ⟨h1, h2, h3⟩ := hfind pos i j e
      have ih := outs_le T find repl hfind n j h3
      dsimp only
      rw [List.flatten_append, List.length_append, List.flatten_cons, List.length_append]
      have hh : ((if pos < i then [(T.extract pos i).toList] else [] : List (List Nat))).flatten.length ≤ i - pos := by
        split
        · simp; omega
        · simp
      have e2 : (T.size - pos) = (T.size - j) + (j - i) + (i - pos) := by omega
      rw [e2, Nat.add_mul, Nat.add_mul]
      have h4 : 1 + repl.length ≤ (j - i) * (1 + repl.length) := Nat.le_mul_of_pos_left _ (by omega)
      have h5 : i - pos ≤ (i - pos) * (1 + repl.length) := Nat.le_mul_of_pos_right _ (by omega)
      omega
theorem subst2_le (d : List Nat) : (subst2 d).length ≤ d.length * 3 := by
  have := outs_le d.toArray (find2 d.toArray) [13, 10] (find2_in _) (d.toArray.size + 1) 0 (Nat.zero_le _)
  unfold subst2
  simpa using this

section
variable {prog : Program} {w : World} {A : Around} {E : Value → Shared → Prop} {s : Shared} {g : Heap} {L : Addr} {m : Str → Option Value} {news : List (Addr × Obj)}

theorem re_method {p : Addr} {code : Array Nat} {pl : Sem Bool} {Q : Value × List Value → Shared → Prop} (P : PatAt g p code) (F : Fr g L s.heap m) (h : Q (.builtin "re.Pattern.sub", [.ref p]) s) :
    wpAny (model prog w) A (getMethod (.ref p) "sub" pl) Q E s := by
  obtain ⟨pv, fl, tp, sl1, sl2, n, a, b⟩ := P.at fun b o e => F.keep b o e
  exact getMethod_builtin ⟨_, a, rfl⟩ plainAttrs_re slot_re_sub type_re_sub (fun c e => by cases e; exact ⟨_, a, rfl⟩) h

theorem news_kept {h' : Heap} (F : Fr g L s.heap m) (N : News g L s.heap news) (hk : Kept s.heap h') : News g L h' news := fun p hp => ⟨hk _ _ (N p hp).1, (N p hp).2⟩

theorem use2 {p : Addr} {d : List Nat} {t u : Tok} {Q : Value → Shared → Prop} (P : PatAt g p code2) (F : Fr g L s.heap m) (N : News g L s.heap news) (hd : d.length ≤ 1000000)
    (h : ∀ t' h' tk', Fr g L h' m → News g L h' news → Q (.str (ofL (subst2 d)) t') { s with heap := h', toks := tk' }) :
    wpAny (model prog w) A (call (.builtin "re.Pattern.sub") [.ref p, .str (ofL [13, 10]) u, .str (ofL d) t]) Q E s :=
  sub2 (T := d.toArray) (repl := [13, 10]) (by simpa using hd) (by decide) (by decide) (P.at fun b o e => F.keep b o e) fun t' h' tk' hk => h t' h' tk' (Fr.after F hk) (news_kept F N hk)
theorem use1 {p : Addr} {d : List Nat} {t u : Tok} {Q : Value → Shared → Prop} (P : PatAt g p code1) (F : Fr g L s.heap m) (N : News g L s.heap news) (hd : d.length ≤ 1000000)
    (h : ∀ t' h' tk', Fr g L h' m → News g L h' news → Q (.str (ofL (subst1 d)) t') { s with heap := h', toks := tk' }) :
    wpAny (model prog w) A (call (.builtin "re.Pattern.sub") [.ref p, .str (ofL [46, 46]) u, .str (ofL d) t]) Q E s :=
  sub1 (T := d.toArray) (repl := [46, 46]) (by simpa using hd) (by decide) (by decide) (P.at fun b o e => F.keep b o e) fun t' h' tk' hk => h t' h' tk' (Fr.after F hk) (news_kept F N hk)
end
end Mine
end
section
open PySem PySem.W PyProof.Rows PySem.Calls
namespace Mine
set_option maxRecDepth 100000
set_option maxHeartbeats 8000000

local macro_rules | `(tactic| walk_at "no key 0") => `(tactic| skip)
local macro_rules | `(tactic| walk_at "no key 1") => `(tactic| skip)
local macro_rules | `(tactic| walk_at "no key 2") => `(tactic| skip)
local macro_rules | `(tactic| walk_at "no key 3") => `(tactic| skip)
local macro_rules | `(tactic| walk_at "no key 4") => `(tactic| skip)
local macro_rules | `(tactic| walk_at "no key 5") => `(tactic| skip)
local macro_rules | `(tactic| walk_at "no key 6") => `(tactic| skip)
local macro_rules | `(tactic| walk_at "no key 7") => `(tactic| skip)
local macro_rules | `(tactic| walk_at "no key 8") => `(tactic| skip)
local macro_rules | `(tactic| walk_at "getMethod ref") => `(tactic| (refine re_method (by assumption) (by assumption) ?_; (try dsimp only)))
local macro_rules | `(tactic| walk_at "call builtin:re.Pattern.sub") => `(tactic| (first
  | (refine use2 (by assumption) (by assumption) (by assumption) (by omega) ?_; intro _ _ _ _ _; (try dsimp only))
  | (refine use1 (by assumption) (by assumption) (by assumption) (by omega) ?_; intro _ _ _ _ _; (try dsimp only))))

theorem quote_ok (w : World) (mean : ExcName → Option Value) (mg mb : Str → Option Value) (A : Around) (s : Shared) (Q E : Value → Shared → Prop)
    (d : List Nat) (t : Tok)
    (X : (hd.heap_39 w.params).In s.heap) (T : Top hd.view_39 (looseW hd.view_39 [Str.ofString "_twin_re_1", Str.ofString "_twin_re_2", Str.ofString "insort_right", Str.ofString "bisect_right", Str.ofString "bisect_left"]) mean mg mb s.heap)
    (hh : A.handled = none) (hd0 : A.depth + 5 < recursionLimit) (hu : A.units + 30 < cLine)
    (hlen : d.length ≤ 1000)
    (hret : ∀ t h' tk, Kept s.heap h' → Q (.str (ofL (quoted d)) t) { s with heap := h', toks := tk }) :
    wpAny (model PySem.Challenge.rw_pg0173_01.row.prog w) A (call (.ref 48) [.str (ofL d) t]) Q E s := by
  w_top off
  obtain ⟨hA, dp, fr, gd, un⟩ := A
  obtain rfl : hA = none := hh
  dsimp only at hd0 hu
  revert X; k_fill; intro X
  have hd1 : (Around.mk none dp fr gd un).depth < recursionLimit := by dsimp only; omega
  (refine' enter ?kX ?kT ?k8 ?k6 ?k7 ?k9 ?kB ?c2 ?c3 ?c4 ?c5 ?_; (case kX => assumption); (case kT => assumption); (case k6 => k_is); (case k7 => k_is); (case k8 => assumption); (case k9 => first | exact BindsTo.of_eq rfl | exact kp_binds (by assumption) (fun _ => rfl)); (case c5 => decide); (case kB => exact locs rfl); (case c2 => exact rfl); (case c3 => exact rfl); (case c4 => exact rfl))
  intro L h1 tk1 F N
  obtain ⟨m0, F0, q0⟩ : ∃ m, Fr s.heap L h1 m ∧ has [(Str.ofString "data", .str (ofL d) t)] m := ⟨_, F, has.cons rfl has.nil⟩
  clear F
  have F1 := has.fr F0 q0
  clear F0 q0
  have P1 : PatAt s.heap 36 code1 := ⟨_, _, 35, _, _, _, X _ _ rfl, X _ _ rfl⟩
  have P2 : PatAt s.heap 41 code2 := ⟨_, _, 40, _, _, _, X _ _ rfl, X _ _ rfl⟩
  have hlen2 := subst2_le d
  iterate 21 (first | (k_unfold; (try dsimp only)) | walk1 | (dsimp only; walk1) | (leave1; (try dsimp only)) | skip)
  dsimp only [flowVal]
  exact hret _ _ _ (by assumption : Fr _ _ _ _).keep
end Mine
end
section
open PySem PySem.W PyProof.Rows PySem.Calls
namespace Mine
/-- texts are compared by their code points -/
theorem ltOk_str (prog : Program) (w : World) (h : Heap) (a b : List Nat) (t u : Tok) : LtOk prog w h (.str (ofL a) t) (.str (ofL b) u) (decide (a < b)) := by
  intro A s Q E _ _ _ hk hQ
  refine PyProof.Rows.lt_str ?_
  exact hQ s.heap s.toks fun _ _ e => e
end Mine
end
section
open PySem PySem.W PyProof.Rows PySem.Calls
namespace Mine
set_option maxRecDepth 100000
set_option maxHeartbeats 8000000
section
variable {w : World} {mean : ExcName → Option Value} {mg mb : Str → Option Value} {A : Around} {s : Shared} {Q E : Value → Shared → Prop} {g : Heap} {L : Addr} {m : Str → Option Value} {nx : List (Addr × Obj)}
theorem spelled_use {lf lr : Addr} {fv rv : List Value} {fs : List Int} {rs : List (List Nat)} (F : Fr g L s.heap m) (N : News g L s.heap nx)
    (X : (hd.heap_39 w.params).In g) (T : Top hd.view_39 (looseW hd.view_39 [Str.ofString "_twin_re_1", Str.ofString "_twin_re_2", Str.ofString "insort_right", Str.ofString "bisect_right", Str.ofString "bisect_left"]) mean mg mb g)
    (hh : A.handled = none) (hd0 : A.depth + 5 < recursionLimit) (hu : A.units + 30 < cLine) (l1 : s.heap.IsList lf fv.toArray) (l2 : s.heap.IsList lr rv.toArray) (hi : IntsAre fv fs) (hr : StrsAt rv rs) (hf : ∀ f ∈ fs, f = 0 ∨ f = 1 ∨ f = 2) (hlen : fs.length ≤ 100) (hrl : ∀ r ∈ rs, r.length ≤ 100)
    (hret : ∀ t h' tk, Fr g L h' m → News g L h' nx → Q (.str (ofL (spell fs rs)) t) { s with heap := h', toks := tk }) :
    wpAny (model PySem.Challenge.rw_pg0173_01.row.prog w) A (call (.ref 94) [.ref lf, .ref lr]) Q E s :=
  spelled_ok w mean mg mb A s Q E lf lr fv rv fs rs (X.keeps F.keep) (T.keeps F.keep) hh hd0 hu l1 l2 hi hr hf hlen hrl fun t h' tk hk => hret t h' tk (Fr.after F hk) (News.keepsAll N hk)
theorem lev_use {la : List Nat} {ta : Tok} {lb : List Nat} {tb : Tok} {c : Int} {tc : Tok} (F : Fr g L s.heap m) (N : News g L s.heap nx)
    (X : (hd.heap_39 w.params).In g) (T : Top hd.view_39 (looseW hd.view_39 [Str.ofString "_twin_re_1", Str.ofString "_twin_re_2", Str.ofString "insort_right", Str.ofString "bisect_right", Str.ofString "bisect_left"]) mean mg mb g)
    (hh : A.handled = none) (hd0 : A.depth + 5 < recursionLimit) (hu : A.units + 30 < cLine) (hlow : ∀ x, x ∈ la ∨ x ∈ lb → Txt.lower (ofL [x]) = ofL [x]) (hla : la.length ≤ 40) (hlb : lb.length ≤ 40)
    (hret : ∀ t h' tk, Fr g L h' m → News g L h' nx → Q (.int (levF la lb c) t) { s with heap := h', toks := tk }) :
    wpAny (model PySem.Challenge.rw_pg0173_01.row.prog w) A (call (.ref 89) [.str (ofL la) ta, .str (ofL lb) tb, .int c tc]) Q E s :=
  lev_ok w mean mg mb A s Q E la ta lb tb c tc (X.keeps F.keep) (T.keeps F.keep) hd0 hu hh hlow hla hlb fun v t h' tk hv hk => by
    subst hv
    exact hret t h' tk (Fr.after F hk) (News.keepsAll N hk)
theorem bisL_use {l : Addr} {vs : List Value} {x : Value} {lt : Nat → Bool} (F : Fr g L s.heap m) (N : News g L s.heap nx)
    (X : (hd.heap_39 w.params).In g) (T : Top hd.view_39 (looseW hd.view_39 [Str.ofString "_twin_re_1", Str.ofString "_twin_re_2", Str.ofString "insort_right", Str.ofString "bisect_right", Str.ofString "bisect_left"]) mean mg mb g)
    (hh : A.handled = none) (hd0 : A.depth + 5 < recursionLimit) (hu : A.units + 30 < cLine) (hl : s.heap.IsList l vs.toArray) (hb : vs.length ≤ 100)
    (hlt : ∀ i v, vs[i]? = some v → LtOk PySem.Challenge.rw_pg0173_01.row.prog w s.heap v x (lt i))
    (hret : ∀ t h' tk, Fr g L h' m → News g L h' nx → Q (.int (bisL lt vs.length 0 vs.length) t) { s with heap := h', toks := tk }) :
    wpAny (model PySem.Challenge.rw_pg0173_01.row.prog w) A (call (.ref 75) [.ref l, x]) Q E s :=
  bisL_ok w mean mg mb A s Q E l vs x lt (X.keeps F.keep) (T.keeps F.keep) hh hd0 hu hl hb hlt fun t h' tk hk => hret t h' tk (Fr.after F hk) (News.keepsAll N hk)
theorem quote_use {d : List Nat} {t : Tok} (F : Fr g L s.heap m) (N : News g L s.heap nx)
    (X : (hd.heap_39 w.params).In g) (T : Top hd.view_39 (looseW hd.view_39 [Str.ofString "_twin_re_1", Str.ofString "_twin_re_2", Str.ofString "insort_right", Str.ofString "bisect_right", Str.ofString "bisect_left"]) mean mg mb g)
    (hh : A.handled = none) (hd0 : A.depth + 5 < recursionLimit) (hu : A.units + 30 < cLine) (hlen : d.length ≤ 1000)
    (hret : ∀ t h' tk, Fr g L h' m → News g L h' nx → Q (.str (ofL (quoted d)) t) { s with heap := h', toks := tk }) :
    wpAny (model PySem.Challenge.rw_pg0173_01.row.prog w) A (call (.ref 48) [.str (ofL d) t]) Q E s :=
  quote_ok w mean mg mb A s Q E d t (X.keeps F.keep) (T.keeps F.keep) hh hd0 hu hlen fun t h' tk hk => hret t h' tk (Fr.after F hk) (News.keepsAll N hk)
end
end Mine
end
section
open PySem PySem.W PyProof.Rows PySem.Calls PySem.SeqAt MeetsSeq MeetsSeq2 MeetsSeq3
set_option maxRecDepth 100000
set_option maxHeartbeats 4000000
open AutoSeq1 (wpAny_loadPart')
namespace Mine
/-- lists of ints, in the order of Python -/
def ltL : List Int → List Int → Bool
  | _, [] => false
  | [], _ :: _ => true
  | a :: r, b :: t => if a = b then ltL r t else decide (a < b)

theorem ints_drop {vs : List Value} {ns : List Int} (h : IntsAre vs ns) {i : Nat} (hi : i < vs.length) : ∃ x t, vs[i]? = some (.int x t) ∧ ns.drop i = x :: ns.drop (i + 1) := by
  obtain ⟨x, t, e1, e2⟩ := ints_at h (List.getElem?_eq_getElem hi)
  refine ⟨x, t, by rw [List.getElem?_eq_getElem hi, e1], ?_⟩
  have hl : i < ns.length := by rw [← ints_len h]; exact hi
  rw [List.drop_eq_getElem_cons hl]
  have : ns[i] = x := by rw [List.getElem?_eq_getElem hl] at e2; exact Option.some.inj e2
  rw [this]

theorem lt_loopAt (l b : Addr) (xs ys : List Value) (n n2 : Nat) (dd dd2 : Option Addr) (sl sl2 : Array (Option Value)) (ns ms : List Int) (hi : IntsAre xs ns) (hj : IntsAre ys ms) (k : Nat) :
    ∀ i : Nat, xs.length - i = k → Meets (Builtin.«list.__eq__.loop» ⟨[.ref l, .ref b, rawInt i, rawInt 0], []⟩)
      (fun A R s => s.heap.get? l = some { cls := .type "list", dict := dd, data := .seq xs.toArray n, slots := sl } ∧ s.heap.get? b = some { cls := .type "list", dict := dd2, data := .seq ys.toArray n2, slots := sl2 } ∧
        i ≤ xs.length ∧ i ≤ ys.length ∧ ltL (ns.drop i) (ms.drop i) = ltL ns ms ∧ R (.ok (.ret (.bool (ltL ns ms)))) s) := by
  induction k with
  | zero =>
    intro i hk prog w A R s h
    obtain ⟨hp, g, d, tk, os⟩ := s; obtain ⟨hl, hb, hix, hiy, he, h⟩ := h
    wp_walk using wpAny_loadPart' hl, wpAny_loadPart' hb
    have hie : i = xs.length := by omega
    have hi1 : xs.toArray[((i : Nat) : Int).toNat]? = none := by simp; omega
    rw [hi1]
    wp_walk using wpAny_loadPart' hl, wpAny_loadPart' hb
    have hd : ns.drop i = [] := by rw [List.drop_eq_nil_iff, ← ints_len hi]; omega
    show R (.ok (.ret (.bool (decide (xs.toArray.size < ys.toArray.size))))) _
    have e : decide (xs.toArray.size < ys.toArray.size) = ltL ns ms := by
      rw [← he, hd]
      cases hm : ms.drop i with
      | nil =>
        rw [List.drop_eq_nil_iff, ← ints_len hj] at hm
        have : ¬ xs.toArray.size < ys.toArray.size := by simp; omega
        rw [decide_eq_false this]
        rfl
      | cons a r =>
        have h2 : i < ms.length := by
          rcases Nat.lt_or_ge i ms.length with q | q
          · exact q
          · rw [List.drop_of_length_le q] at hm; cases hm
        rw [← ints_len hj] at h2
        have : xs.toArray.size < ys.toArray.size := by simp; omega
        rw [decide_eq_true this]
        rfl
    rw [e]
    exact h
  | succ k ih =>
    intro i hk prog w A R s h
    obtain ⟨hp, g, d, tk, os⟩ := s; obtain ⟨hl, hb, hix, hiy, he, h⟩ := h
    wp_walk using wpAny_loadPart' hl, wpAny_loadPart' hb
    have hlt : i < xs.length := by omega
    obtain ⟨x, tx, ex, edx⟩ := ints_drop hi hlt
    have hi1 : xs.toArray[((i : Nat) : Int).toNat]? = some (.int x tx) := by simpa using ex
    rcases Nat.lt_or_ge i ys.length with hlt2 | hge2
    · obtain ⟨y, ty, ey, edy⟩ := ints_drop hj hlt2
      have hi2 : ys.toArray[((i : Nat) : Int).toNat]? = some (.int y ty) := by simpa using ey
      have hc : ((i : Int) + 1) = ((i + 1 : Nat) : Int) := by push_cast; rfl
      rw [hi1, hi2]
      rw [edx, edy] at he
      refine wpAny_bind (wpAny_eqBool_int ?_)
      by_cases hxy : x = y
      · subst hxy
        rw [beq_self_eq_true]
        wp_walk
        rw [hc]
        exact ⟨plainId_quiet plain_eq_loop _, codeAny_builtin entry_eq_loop (by
          rw [Around.under_plainId plain_eq_loop _]
          exact ih (i + 1) (by omega) prog w A R _ ⟨hl, hb, hlt, hlt2, by rw [← he]; simp [ltL], h⟩)⟩
      · have : (x == y) = false := by simpa using hxy
        rw [this]
        wp_walk using wpAny_loadPart' hl, wpAny_loadPart' hb
        rw [hi1, hi2]
        dsimp only
        refine wpAny_bind ?_
        refine PyProof.Rows.lt_int ?_
        refine wpAny_pure ?_
        have e : decide (x < y) = ltL ns ms := by rw [← he]; simp [ltL, hxy]
        show R (.ok (.ret (.bool (decide (x < y))))) _
        rw [e]
        exact h
    · have hi2 : ys.toArray[((i : Nat) : Int).toNat]? = none := by simp; omega
      rw [hi1, hi2]
      wp_walk using wpAny_loadPart' hl, wpAny_loadPart' hb
      have hd : ms.drop i = [] := by rw [List.drop_eq_nil_iff, ← ints_len hj]; omega
      show R (.ok (.ret (.bool (decide (xs.toArray.size < ys.toArray.size))))) _
      have e : decide (xs.toArray.size < ys.toArray.size) = ltL ns ms := by
        rw [← he, hd]
        have : ¬ xs.toArray.size < ys.toArray.size := by simp; omega
        rw [decide_eq_false this]
        cases ns.drop i <;> rfl
      rw [e]
      exact h

theorem list_ltAt (l b : Addr) (xs ys : List Value) (n n2 : Nat) (dd dd2 : Option Addr) (sl sl2 : Array (Option Value)) (ns ms : List Int) (hi : IntsAre xs ns) (hj : IntsAre ys ms) :
    Meets (Builtin.«list.__lt__» ⟨[.ref l, .ref b], []⟩)
      (fun A R s => s.heap.get? l = some { cls := .type "list", dict := dd, data := .seq xs.toArray n, slots := sl } ∧ s.heap.get? b = some { cls := .type "list", dict := dd2, data := .seq ys.toArray n2, slots := sl2 } ∧
        R (.ok (.ret (.bool (ltL ns ms)))) s) := by
  intro prog w A R s h
  obtain ⟨hp, g, d, tk, os⟩ := s; obtain ⟨hl, hb, h⟩ := h
  have f3 := AutoSeq1.sub_list_list
  wp_walk using wpAny_loadPart' hl, wpAny_loadPart' hb
  exact ⟨plainId_quiet plain_eq_loop _, codeAny_builtin entry_eq_loop (by
    rw [Around.under_plainId plain_eq_loop _]
    exact lt_loopAt l b xs ys n n2 dd dd2 sl sl2 ns ms hi hj _ 0 rfl prog w A R _ ⟨hl, hb, Nat.zero_le _, Nat.zero_le _, by simp, h⟩)⟩
section
variable {prog : Program} {w : World} {A : Around} {E : Value → Shared → Prop} {s : Shared}
theorem call_list_lt {l b : Addr} {xs ys : List Value} {ns ms : List Int} {Q : Value → Shared → Prop} (hl : s.heap.IsList l xs.toArray) (hb : s.heap.IsList b ys.toArray) (hi : IntsAre xs ns) (hj : IntsAre ys ms) (h : Q (.bool (ltL ns ms)) s) :
    wpAny (model prog w) A (call (.builtin "list.__lt__") [.ref l, .ref b]) Q E s := by
  obtain ⟨⟨cls, dd, data, sl⟩, ho, hc, n, hd⟩ := id hl
  obtain ⟨⟨cls2, dd2, data2, sl2⟩, ho2, hc2, n2, hd2⟩ := id hb
  simp only at hc hd hc2 hd2
  subst hc hd hc2 hd2
  exact call_meets F.slot_list_lt ⟨_, ho, rfl⟩ F.entry_list_lt (F.args_list_lt_2 _ _) (list_ltAt l b xs ys n n2 dd dd2 sl sl2 ns ms hi hj) ⟨ho, ho2, h⟩
theorem lt_lists {l b : Addr} {xs ys : List Value} {ns ms : List Int} {Q : Value → Shared → Prop} (hl : s.heap.IsList l xs.toArray) (hb : s.heap.IsList b ys.toArray) (hi : IntsAre xs ns) (hj : IntsAre ys ms) (hu : A.units < cLine) (h : Q (.bool (ltL ns ms)) s) :
    wpAny (model prog w) A (compareOp .Lt (.ref l) (.ref b)) Q E s := by
  obtain ⟨⟨cls, dd, data, sl⟩, ho, hc, n, hd⟩ := id hl
  obtain ⟨⟨cls2, dd2, data2, sl2⟩, ho2, hc2, n2, hd2⟩ := id hb
  simp only at hc hd hc2 hd2
  subst hc hd hc2 hd2
  exact richCompare_meets_room (op := .Lt) ⟨_, ho, rfl⟩ ⟨_, ho2, rfl⟩ F.slot_list_lt F.entry_list_lt (F.args_list_lt_2 _ _) (list_ltAt l b xs ys n n2 dd dd2 sl sl2 ns ms hi hj)
    ⟨ho, ho2, show Value.bool (ltL ns ms) ≠ Value.notImplemented ∧ Q (.bool (ltL ns ms)) s from ⟨(fun x => nomatch x), h⟩⟩ hu
theorem oneLt_lists {l b : Addr} {xs ys : List Value} {ns ms : List Int} {Q : Bool → Shared → Prop} (hl : s.heap.IsList l xs.toArray) (hb : s.heap.IsList b ys.toArray) (hi : IntsAre xs ns) (hj : IntsAre ys ms) (hu : A.units < cLine) (h : Q (ltL ns ms) s) :
    wpAny (model prog w) A (oneLt' true (.ref l) (.ref b)) Q E s := by
  rw [oneLt'_eq]
  simp only [if_true]
  refine wpAny_bind (wpAny_cRoomFor hu ?_)
  refine wpAny_bind (wpAny_callSpecialIfBound?_slot hl.typeIs F.slot_list_lt (call_list_lt hl hb hi hj ?_))
  exact wpAny_truthy_bool h
theorem ltOk_rows {h : Heap} {l b : Addr} {xs ys : List Value} {ns ms : List Int} (hl : h.IsList l xs.toArray) (hb : h.IsList b ys.toArray) (hi : IntsAre xs ns) (hj : IntsAre ys ms) : LtOk prog w h (.ref l) (.ref b) (ltL ns ms) := by
  intro A s Q E _ _ hu hk hQ
  exact lt_lists (hl.at fun o e => hk _ _ e) (hb.at fun o e => hk _ _ e) hi hj (by omega) (hQ s.heap s.toks fun _ _ e => e)
end
end Mine
end
section
open PySem PySem.W PyProof.Rows PySem.Calls
set_option maxRecDepth 100000
set_option maxHeartbeats 4000000
namespace Mine
/-- the sort's questions, answered by lt; all asked of places below n -/
def Runs {α : Type} (lt : Nat → Nat → Bool) (n : Nat) : KasT α → (α → Prop) → Prop
  | .ret a, P => P a
  | .ask i j k, P => i < n ∧ j < n ∧ Runs lt n (k (lt i j)) P
theorem Runs.mono {α : Type} {lt : Nat → Nat → Bool} {n : Nat} {P P' : α → Prop} (hp : ∀ a, P a → P' a) : ∀ {t : KasT α}, Runs lt n t P → Runs lt n t P'
  | .ret a, h => hp a h
  | .ask _ _ _, h => ⟨h.1, h.2.1, Runs.mono hp h.2.2⟩
theorem Runs.bind {α β : Type} {lt : Nat → Nat → Bool} {n : Nat} {P : β → Prop} {f : α → KasT β} : ∀ {t : KasT α}, Runs lt n t (fun a => Runs lt n (f a) P) → Runs lt n (t.bind f) P
  | .ret _, h => h
  | .ask _ _ _, h => ⟨h.1, h.2.1, Runs.bind h.2.2⟩

structure Ord (lt : Nat → Nat → Bool) : Prop where
  refl : ∀ i, lt i i = false
  trans : ∀ i j k, lt j i = false → lt k j = false → lt k i = false
  asymm : ∀ i j, lt i j = true → lt j i = false

section
variable {lt : Nat → Nat → Bool} {n : Nat}
def at0 (p : Array Nat) (k : Nat) : Nat := p.getD k 0
def Ok (n : Nat) (p : Array Nat) : Prop := p.Perm (List.range n).toArray
theorem Ok.size {p : Array Nat} (h : Ok n p) : p.size = n := by have := Array.Perm.size_eq h; simpa using this
theorem Ok.low {p : Array Nat} (h : Ok n p) {k : Nat} (hk : k < n) : at0 p k < n := by
  have hs := h.size
  have e : at0 p k = p[k]'(by omega) := by unfold at0; simp [Array.getD, hs, hk]
  rw [e]
  have hm : p[k]'(by omega) ∈ p := Array.getElem_mem _
  have := (Array.Perm.mem_iff h).mp hm
  simpa using this
theorem at0_eq {p q : Array Nat} {i j : Nat} (h : p[i]? = q[j]?) : at0 p i = at0 q j := by
  unfold at0
  rw [Array.getD_eq_getD_getElem?, Array.getD_eq_getD_getElem?, h]
theorem rev_ok {p : Array Nat} (h : Ok n p) (i j : Nat) : Ok n (kas_rev p i j) := (mirror_perm _ _ _ _).trans h
theorem bub_ok {p : Array Nat} (h : Ok n p) (i j : Nat) : Ok n (bubble p i j) := (bubble_perm _ _ _).trans h
theorem at_rev {p : Array Nat} (h : Ok n p) {i j : Nat} (hj : j ≤ n) (k : Nat) : at0 (kas_rev p i j) k = if i ≤ k ∧ k < j then at0 p (i + j - 1 - k) else at0 p k := by
  have e := getElem?_mirror_all (xs := p) (i := i) (j := j) (by rw [h.size]; exact hj) k
  split
  · rename_i hc
    rw [if_pos hc] at e
    exact at0_eq e
  · rename_i hc
    rw [if_neg hc] at e
    exact at0_eq e
theorem at_bub {p : Array Nat} (h : Ok n p) {s d : Nat} (hs : s < n) (hd : d ≤ s) (k : Nat) : at0 (bubble p s d) k = if k = s - d then at0 p s else if s - d < k ∧ k ≤ s then at0 p (k - 1) else at0 p k := by
  have e := getElem?_bubble (xs := p) (src := s) (by rw [h.size]; exact hs) d hd k
  split
  · rename_i hc
    rw [if_pos hc] at e
    exact at0_eq e
  · rename_i hc
    rw [if_neg hc] at e
    split
    · rename_i hc2
      rw [if_pos hc2] at e
      exact at0_eq e
    · rename_i hc2
      rw [if_neg hc2] at e
      exact at0_eq e
def Asc (lt : Nat → Nat → Bool) (p : Array Nat) (m : Nat) : Prop := ∀ i j, i ≤ j → j < m → lt (at0 p j) (at0 p i) = false
def Desc (lt : Nat → Nat → Bool) (p : Array Nat) (m : Nat) : Prop := ∀ i j, i ≤ j → j < m → lt (at0 p i) (at0 p j) = false
def Same (lt : Nat → Nat → Bool) (p : Array Nat) (a b : Nat) : Prop := ∀ i j, a ≤ i → i < b → a ≤ j → j < b → lt (at0 p i) (at0 p j) = false
variable (O : Ord lt)
include O
theorem Asc.one (p : Array Nat) : Asc lt p 1 := fun i j h1 h2 => by
  obtain rfl : i = 0 := by omega
  obtain rfl : j = 0 := by omega
  exact O.refl _
theorem Asc.snoc {p : Array Nat} {m : Nat} (h : Asc lt p m) (h1 : 1 ≤ m) (hl : lt (at0 p m) (at0 p (m - 1)) = false) : Asc lt p (m + 1) := fun i j hij hj => by
  by_cases e : j = m
  · subst e
    by_cases e2 : i = j
    · subst e2; exact O.refl _
    · exact O.trans _ _ _ (h i (j - 1) (by omega) (by omega)) hl
  · exact h i j hij (by omega)
theorem Desc.snoc {p : Array Nat} {m : Nat} (h : Desc lt p m) (h1 : 1 ≤ m) (hl : lt (at0 p (m - 1)) (at0 p m) = false) : Desc lt p (m + 1) := fun i j hij hj => by
  by_cases e : j = m
  · subst e
    by_cases e2 : i = j
    · subst e2; exact O.refl _
    · exact O.trans _ _ _ hl (h i (j - 1) (by omega) (by omega))
  · exact h i j hij (by omega)
omit O in
theorem Desc.rev {p : Array Nat} (ok : Ok n p) {a b m : Nat} (h : Desc lt p m) (hs : Same lt p a b) (hb : b ≤ m) (hm : m ≤ n) : Desc lt (kas_rev p a b) m := fun i j hij hj => by
  rw [at_rev ok (Nat.le_trans hb hm), at_rev ok (Nat.le_trans hb hm)]
  split <;> split
  · exact hs _ _ (by omega) (by omega) (by omega) (by omega)
  · exact h _ _ (by omega) hj
  · exact h _ _ (by omega) (by omega)
  · exact h _ _ hij hj
omit O in
theorem Desc.turn {p : Array Nat} (ok : Ok n p) {m : Nat} (h : Desc lt p m) (hm : m ≤ n) : Asc lt (kas_rev p 0 m) m := fun i j hij hj => by
  rw [at_rev ok hm, at_rev ok hm, if_pos ⟨by omega, by omega⟩, if_pos ⟨by omega, by omega⟩]
  exact h _ _ (by omega) (by omega)
theorem run_asc {p : Array Nat} (ok : Ok n p) : ∀ (f m : Nat), 1 ≤ m → m + f ≤ n → Asc lt p m → Runs lt n (kas_asc p f m) (fun m' => Asc lt p m' ∧ m ≤ m' ∧ m' ≤ m + f ∧ (m' = m + f ∨ lt (at0 p m') (at0 p (m' - 1)) = true))
  | 0, m, h1, h2, h => ⟨h, Nat.le_refl _, Nat.le_refl _, .inl rfl⟩
  | f + 1, m, h1, h2, h => by
    refine ⟨ok.low (by omega), ok.low (by omega), ?_⟩
    cases e : lt (p.getD m 0) (p.getD (m - 1) 0) with
    | true => exact ⟨h, Nat.le_refl _, by omega, .inr e⟩
    | false =>
      simp only [Bool.false_eq_true, if_false]
      refine (run_asc ok f (m + 1) (by omega) (by omega) (Asc.snoc O h h1 e)).mono fun m' q => ⟨q.1, by omega, by omega, q.2.2.2.elim (fun x => .inl (by omega)) .inr⟩
def DescEnd (lt : Nat → Nat → Bool) (n N : Nat) (r : Array Nat × Nat × Nat) : Prop := Ok n r.1 ∧ Desc lt r.1 r.2.1 ∧ r.2.2 + 1 ≤ r.2.1 ∧ r.2.1 ≤ N ∧ Same lt r.1 (r.2.1 - (r.2.2 + 1)) r.2.1
theorem run_desc {N : Nat} (hN : N ≤ n) : ∀ (f : Nat) (p : Array Nat) (m q : Nat), Ok n p → m + f = N → q + 1 ≤ m → Desc lt p m → Same lt p (m - (q + 1)) m → Runs lt n (kas_desc f p m q) (DescEnd lt n N)
  | 0, p, m, q, ok, h1, h2, h, hs => ⟨ok, h, h2, by dsimp only; omega, hs⟩
  | f + 1, p, m, q, ok, h1, h2, h, hs => by
    refine ⟨ok.low (by omega), ok.low (by omega), ?_⟩
    cases e : lt (p.getD m 0) (p.getD (m - 1) 0) with
    | true =>
      have e' : lt (at0 p m) (at0 p (m - 1)) = true := e
      simp only [if_true]
      have one : ∀ p' : Array Nat, Same lt p' (m + 1 - (0 + 1)) (m + 1) := fun p' i j a1 a2 a3 a4 => by
        obtain rfl : i = m := by omega
        obtain rfl : j = i := by omega
        exact O.refl _
      by_cases hq : q > 0
      · rw [if_pos hq]
        have ok' := rev_ok ok (m - (q + 1)) m
        have hd' := Desc.rev ok h hs (Nat.le_refl m) (by omega)
        refine run_desc hN f _ (m + 1) 0 ok' (by omega) (by omega) (Desc.snoc O hd' (by omega) ?_) (one _)
        rw [at_rev ok (by omega), at_rev ok (by omega), if_pos ⟨by omega, by omega⟩, if_neg (by omega)]
        refine O.trans _ (at0 p (m - 1)) _ (O.asymm _ _ e') ?_
        exact hs _ _ (by omega) (by omega) (by omega) (by omega)
      · rw [if_neg hq]
        exact run_desc hN f p (m + 1) 0 ok (by omega) (by omega) (Desc.snoc O h (by omega) (O.asymm _ _ e')) (one _)
    | false =>
      have e' : lt (at0 p m) (at0 p (m - 1)) = false := e
      simp only [Bool.false_eq_true, if_false]
      refine ⟨ok.low (by omega), ok.low (by omega), ?_⟩
      cases e2 : lt (p.getD (m - 1) 0) (p.getD m 0) with
      | true => exact ⟨ok, h, h2, by dsimp only; omega, hs⟩
      | false =>
        have e2' : lt (at0 p (m - 1)) (at0 p m) = false := e2
        simp only [Bool.false_eq_true, if_false]
        refine run_desc hN f p (m + 1) (q + 1) ok (by omega) (by omega) (Desc.snoc O h (by omega) e2') fun i j a1 a2 a3 a4 => ?_
        have up : ∀ i, m - (q + 1) ≤ i → i < m → lt (at0 p m) (at0 p i) = false ∧ lt (at0 p i) (at0 p m) = false := fun i b1 b2 =>
          ⟨O.trans _ _ _ (hs (m - 1) i (by omega) (by omega) b1 b2) e', O.trans _ _ _ e2' (hs i (m - 1) b1 b2 (by omega) (by omega))⟩
        by_cases c1 : i = m
        · by_cases c2 : j = m
          · subst c1; subst c2; exact O.refl _
          · subst c1; exact (up j (by omega) (by omega)).1
        · by_cases c2 : j = m
          · subst c2; exact (up i (by omega) (by omega)).2
          · exact hs i j (by omega) (by omega) (by omega) (by omega)
def CountEnd (lt : Nat → Nat → Bool) (n N : Nat) (r : Nat × Array Nat) : Prop := Ok n r.2 ∧ Asc lt r.2 r.1 ∧ 1 ≤ r.1 ∧ r.1 ≤ N
theorem run_tail {N m : Nat} {p : Array Nat} (hN : N ≤ n) (ok : Ok n p) (h1 : 1 ≤ m) (hm : m ≤ N) (h : Desc lt p m) : Runs lt n (kas_tail3 m N p) (CountEnd lt n N) := by
  unfold kas_tail3
  refine Runs.bind ((run_asc O (rev_ok ok 0 m) (N - m) m h1 (by omega) (Desc.turn ok h (by omega))).mono fun m' q => ?_)
  exact ⟨rev_ok ok 0 m, q.1, by dsimp only; omega, by dsimp only; omega⟩
theorem run_descPart {N m : Nat} {p : Array Nat} (hN : N ≤ n) (ok : Ok n p) (h1 : 1 ≤ m) (hm : m + 1 ≤ N) (hs : Same lt p 0 m) (hl : lt (at0 p m) (at0 p (m - 1)) = true) : Runs lt n (kas_descPart m N p) (CountEnd lt n N) := by
  unfold kas_descPart
  have hd : Desc lt p m := fun i j a b => hs i j (Nat.zero_le _) (by omega) (Nat.zero_le _) b
  refine Runs.bind ((run_desc O hN (N - (m + 1)) p (m + 1) 0 ok (by omega) (by omega) (Desc.snoc O hd h1 (O.asymm _ _ hl)) fun i j a1 a2 a3 a4 => ?_).mono fun r q => ?_)
  · obtain rfl : i = m := by omega
    obtain rfl : j = i := by omega
    exact O.refl _
  · obtain ⟨q1, q2, q3, q4, q5⟩ := q
    split
    · exact run_tail O hN (rev_ok q1 _ _) (by omega) q4 (Desc.rev q1 q2 q5 (Nat.le_refl _) (by omega))
    · exact run_tail O hN q1 (by omega) q4 q2
theorem run_count {N : Nat} {p : Array Nat} (hN : N ≤ n) (h1 : 1 ≤ N) (ok : Ok n p) : Runs lt n (kas_count N p) (CountEnd lt n N) := by
  unfold kas_count
  refine Runs.bind ((run_asc O ok (N - 1) 1 (Nat.le_refl _) (by omega) (Asc.one O p)).mono fun m q => ?_)
  obtain ⟨q1, q2, q3, q4⟩ := q
  by_cases e : (m == N) = true
  · rw [if_pos e]
    exact ⟨ok, q1, q2, by dsimp only; omega⟩
  · rw [if_neg e]
    have hne : m ≠ N := fun x => e (by rw [x]; exact beq_self_eq_true _)
    have hl : lt (at0 p m) (at0 p (m - 1)) = true := q4.elim (fun x => absurd x (by omega)) id
    by_cases e2 : m > 1
    · rw [if_pos e2]
      refine ⟨ok.low (by omega), ok.low (by omega), ?_⟩
      cases e3 : lt (p.getD 0 0) (p.getD (m - 1) 0) with
      | true => exact ⟨ok, q1, q2, by dsimp only; omega⟩
      | false =>
        have e3' : lt (at0 p 0) (at0 p (m - 1)) = false := e3
        simp only [Bool.false_eq_true, if_false]
        have hs : Same lt p 0 m := fun i j a1 a2 a3 a4 => by
          have h0 : lt (at0 p i) (at0 p (m - 1)) = false := O.trans _ (at0 p 0) _ e3' (q1 0 i (by omega) a2)
          exact O.trans _ (at0 p (m - 1)) _ (q1 j (m - 1) (by omega) (by omega)) h0
        refine run_descPart O hN (rev_ok ok 0 m) q2 (by omega) (fun i j a1 a2 a3 a4 => ?_) ?_
        · rw [at_rev ok (by omega), at_rev ok (by omega), if_pos ⟨by omega, by omega⟩, if_pos ⟨by omega, by omega⟩]
          exact hs _ _ (by omega) (by omega) (by omega) (by omega)
        · rw [at_rev ok (by omega), at_rev ok (by omega), if_neg (by omega), if_pos ⟨by omega, by omega⟩]
          cases e4 : lt (at0 p m) (at0 p (0 + m - 1 - (m - 1))) with
          | true => rfl
          | false =>
            have := O.trans _ _ _ (hs (0 + m - 1 - (m - 1)) (m - 1) (by omega) (by omega) (by omega) (by omega)) e4
            rw [this] at hl
            cases hl
    · rw [if_neg e2]
      obtain rfl : m = 1 := by omega
      refine run_descPart O hN ok (Nat.le_refl _) (by omega) (fun i j a1 a2 a3 a4 => ?_) hl
      obtain rfl : i = 0 := by omega
      obtain rfl : j = 0 := by omega
      exact O.refl _
theorem run_place {p : Array Nat} {k : Nat} (ok : Ok n p) (hk : k < n) (hs : Asc lt p k) : ∀ (f l r : Nat), l ≤ r → r ≤ k → r - l ≤ f → (∀ i, i < l → lt (at0 p k) (at0 p i) = false) → (∀ i, r ≤ i → i < k → lt (at0 p i) (at0 p k) = false) →
    Runs lt n (kas_place p k f l r) (fun l' => l' ≤ k ∧ (∀ i, i < l' → lt (at0 p k) (at0 p i) = false) ∧ ∀ i, l' ≤ i → i < k → lt (at0 p i) (at0 p k) = false)
  | 0, l, r, h1, h2, h3, h4, h5 => ⟨by omega, h4, fun i a b => h5 i (by omega) b⟩
  | f + 1, l, r, h1, h2, h3, h4, h5 => by
    unfold kas_place
    by_cases hlr : l ≥ r
    · rw [if_pos hlr]
      exact ⟨by omega, h4, fun i a b => h5 i (by omega) b⟩
    · rw [if_neg hlr]
      refine ⟨ok.low hk, ok.low (by omega), ?_⟩
      cases e : lt (p.getD k 0) (p.getD ((l + r) / 2) 0) with
      | true =>
        have e' : lt (at0 p k) (at0 p ((l + r) / 2)) = true := e
        simp only [if_true]
        refine run_place ok hk hs f l ((l + r) / 2) (by omega) (by omega) (by omega) h4 fun i a b => ?_
        exact O.trans _ _ _ (O.asymm _ _ e') (hs ((l + r) / 2) i a b)
      | false =>
        have e' : lt (at0 p k) (at0 p ((l + r) / 2)) = false := e
        simp only [Bool.false_eq_true, if_false]
        refine run_place ok hk hs f ((l + r) / 2 + 1) r (by omega) h2 (by omega) (fun i a => ?_) h5
        exact O.trans _ _ _ (hs i ((l + r) / 2) (by omega) (by omega)) e'
theorem run_bin : ∀ (f : Nat) (p : Array Nat) (k : Nat), Ok n p → k + f = n → Asc lt p k → Runs lt n (kas_bin f p k) (fun p' => Ok n p' ∧ Asc lt p' n)
  | 0, p, k, ok, h1, h => ⟨ok, by rwa [show n = k by omega]⟩
  | f + 1, p, k, ok, h1, h => by
    refine Runs.bind ((run_place O ok (by omega) h k 0 k (Nat.zero_le _) (Nat.le_refl _) (by omega) (fun i a => absurd a (Nat.not_lt_zero _)) (fun i a b => absurd b (by omega))).mono fun l q => ?_)
    obtain ⟨q1, q2, q3⟩ := q
    refine run_bin f _ (k + 1) (bub_ok ok _ _) (by omega) fun i j hij hj => ?_
    rw [at_bub ok (by omega) (by omega), at_bub ok (by omega) (by omega)]
    have e : k - (k - l) = l := by omega
    rw [e]
    split
    · split
      · exact O.refl _
      · split
        · exfalso; omega
        · exact q2 i (by omega)
    · split
      · split
        · exact q3 _ (by omega) (by omega)
        · split
          · exact h _ _ (by omega) (by omega)
          · exact h _ _ (by omega) (by omega)
      · split
        · exfalso; omega
        · split
          · exfalso; omega
          · exact h i j hij (by omega)
theorem run_sort (h1 : 1 ≤ n) : Runs lt n (kas_sort n) (fun p => Ok n p ∧ Asc lt p n) := by
  unfold kas_sort
  refine Runs.bind ((run_count O (Nat.le_refl n) h1 (Array.Perm.refl _)).mono fun r q => ?_)
  obtain ⟨q1, q2, q3, q4⟩ := q
  split
  · exact run_bin O _ _ _ q1 (by omega) (by rwa [show max r.1 1 = r.1 by omega])
  · exact ⟨q1, by rwa [show n = r.1 by omega]⟩
end
end Mine
end
section
open PySem PySem.W PyProof.Rows PySem.Calls
set_option maxRecDepth 100000
set_option maxHeartbeats 4000000
namespace Mine
/-- not above, lists of ints -/
def leL (a b : List Int) : Prop := ltL b a = false
theorem ltL_refl : ∀ a : List Int, ltL a a = false
  | [] => rfl
  | x :: a => by simp [ltL, ltL_refl a]
theorem ltL_asymm : ∀ a b : List Int, ltL a b = true → ltL b a = false
  | _, [], h => by cases ‹List Int› <;> simp [ltL] at h
  | [], _ :: _, _ => rfl
  | x :: a, y :: b, h => by
    unfold ltL at h ⊢
    by_cases e : x = y
    · subst e
      simp only [if_true] at h ⊢
      exact ltL_asymm a b h
    · rw [if_neg e] at h
      rw [if_neg (Ne.symm e)]
      have := of_decide_eq_true h
      exact decide_eq_false (by omega)
theorem ltL_trans : ∀ a b c : List Int, ltL b a = false → ltL c b = false → ltL c a = false
  | [], b, c, _, h2 => by
    cases c with
    | nil => rfl
    | cons => rfl
  | x :: a, b, c, h1, h2 => by
    cases b with
    | nil => simp [ltL] at h1
    | cons y b =>
      cases c with
      | nil => simp [ltL] at h2
      | cons z c =>
        unfold ltL at h1 h2 ⊢
        by_cases e1 : y = x
        · subst e1
          rw [if_pos rfl] at h1
          by_cases e2 : z = y
          · subst e2
            rw [if_pos rfl] at h2 ⊢
            exact ltL_trans a b c h1 h2
          · rw [if_neg e2] at h2 ⊢
            exact h2
        · rw [if_neg e1] at h1
          have h1' := of_decide_eq_false h1
          by_cases e2 : z = y
          · subst e2
            rw [if_neg e1]
            exact h1
          · rw [if_neg e2] at h2
            have h2' := of_decide_eq_false h2
            rw [if_neg (by omega)]
            exact decide_eq_false (by omega)
theorem ltL_eq : ∀ a b : List Int, ltL a b = false → ltL b a = false → a = b
  | [], [], _, _ => rfl
  | [], _ :: _, h, _ => by simp [ltL] at h
  | _ :: _, [], _, h => by simp [ltL] at h
  | x :: a, y :: b, h1, h2 => by
    unfold ltL at h1 h2
    by_cases e : x = y
    · subst e
      simp only [if_true] at h1 h2
      rw [ltL_eq a b h1 h2]
    · rw [if_neg e] at h1
      rw [if_neg (Ne.symm e)] at h2
      have := of_decide_eq_false h1
      have := of_decide_eq_false h2
      exact absurd (by omega) e
def IsSort (nss out : List (List Int)) : Prop := out.Perm nss ∧ out.Pairwise leL
theorem IsSort.unique {nss a b : List (List Int)} (h1 : IsSort nss a) (h2 : IsSort nss b) : a = b :=
  List.Perm.eq_of_pairwise (le := leL) (fun x y _ _ p q => ltL_eq x y q p) h1.2 h2.2 (h1.1.trans h2.1.symm)
theorem ord_rows (nss : List (List Int)) : Ord (fun i j => ltL (nss.getD i []) (nss.getD j [])) :=
  ⟨fun i => ltL_refl _, fun i j k h1 h2 => ltL_trans _ _ _ h1 h2, fun i j h => ltL_asymm _ _ h⟩
theorem map_range (nss : List (List Int)) : (List.range nss.length).map (fun i => nss.getD i []) = nss := by
  apply List.ext_getElem
  · simp
  · intro i h1 h2
    have h3 : i < nss.length := h2
    simp [List.getElem?_eq_getElem h3]
theorem ok_sort {nss : List (List Int)} {p : Array Nat} (ok : Ok nss.length p) (hs : Asc (fun i j => ltL (nss.getD i []) (nss.getD j [])) p nss.length) : IsSort nss (p.toList.map fun i => nss.getD i []) := by
  refine ⟨?_, ?_⟩
  · have h : p.toList.Perm (List.range nss.length) := by simpa [Ok, Array.perm_iff_toList_perm] using ok
    have h2 := h.map (fun i => nss.getD i [])
    rwa [map_range] at h2
  · rw [List.pairwise_iff_getElem]
    intro i j hi hj hij
    rw [List.length_map, Array.length_toList] at hi hj
    have hsz := ok.size
    have e : ∀ k (hk : k < p.size), p.toList[k]'(by rw [Array.length_toList]; exact hk) = at0 p k := fun k hk => by
      unfold at0; simp [Array.getD, hk]
    rw [List.getElem_map, List.getElem_map, e i hi, e j hj]
    exact hs i j (by omega) (by omega)
section
variable {prog : Program} {w : World} {A : Around} {E : Value → Shared → Prop} {s : Shared} {g : Heap} {L : Addr} {m : Str → Option Value} {nx : List (Addr × Obj)}
theorem runs_wp {α : Type} {lt : Nat → Nat → Bool} {n : Nat} {P : α → Prop} {vs : List Value} {Q : α → Shared → Prop}
    (ask : ∀ i j (C : Bool → Shared → Prop), i < n → j < n → C (lt i j) s → kas_ask prog w A oneType' vs i j C s) (hq : ∀ a, P a → Q a s) : ∀ {t : KasT α}, Runs lt n t P → t.kasWp (kas_ask prog w A oneType' vs) Q s
  | .ret a, h => hq a h
  | .ask i j k, h => ask i j _ h.1 h.2.1 (runs_wp ask hq h.2.2)
theorem sorted_rows {B : Addr} {rs : List Value} {nss : List (List Int)} {Q : Value → Shared → Prop} (F : Fr g L s.heap m) (N : News g L s.heap nx) (lB : LAt nx B rs) (rB : RowsAt nx rs nss) (h2 : 2 ≤ nss.length) (h64 : nss.length < 64) (hu : A.in1.in1.units < cLine)
    (h : ∀ D ys bs h' nx', Fr g L h' m → News g L h' nx' → (∀ p ∈ nx, p ∈ nx') → LAt nx' D ys → RowsAt nx' ys bs → IsSort nss bs → Q (.ref D) { s with heap := h' }) :
    wpAny (model prog w) A (call (.builtin "sorted") [.ref B]) Q E s := by
  have hlen := rB.len
  refine kas_sorted (vs := rs) (T := .type "list") F N (lB.list N) (by omega) (by omega) (fun h' F' N' v hv => ?_) rfl fun D e1 h' F' N' hD => ?_
  · obtain ⟨i, hi⟩ := List.mem_iff_getElem?.mp hv
    obtain ⟨D, vs, ns, rfl, l, _, _⟩ := rB.at hi
    obtain ⟨k, hk⟩ := l
    exact (show Looks (model prog w) h' (typeOf (.ref D)) _ from (Looks.ld (N' _ hk).1).andThen .now)
  · have N1 : News g L h' nx := fun p hp => N' p (.tail _ hp)
    refine runs_wp (lt := fun i j => ltL (nss.getD i []) (nss.getD j [])) (n := nss.length) (fun i j C hi hj hC => ?_) (fun p hp => ?_) (by rw [hlen]; exact run_sort (ord_rows nss) (by omega))
    · unfold kas_ask
      rw [keyLt'_oneType]
      obtain ⟨D1, v1, n1, e1, l1, i1, x1⟩ := rB.at (List.getElem?_eq_getElem (show i < rs.length by omega))
      obtain ⟨D2, v2, n2, e2, l2, i2, x2⟩ := rB.at (List.getElem?_eq_getElem (show j < rs.length by omega))
      have a1 : rs.getD i .none = .ref D1 := by rw [List.getD_eq_getElem?_getD, List.getElem?_eq_getElem (by omega), Option.getD_some, e1]
      have a2 : rs.getD j .none = .ref D2 := by rw [List.getD_eq_getElem?_getD, List.getElem?_eq_getElem (by omega), Option.getD_some, e2]
      have b1 : nss.getD i [] = n1 := by rw [List.getD_eq_getElem?_getD, x1, Option.getD_some]
      have b2 : nss.getD j [] = n2 := by rw [List.getD_eq_getElem?_getD, x2, Option.getD_some]
      rw [a1, a2]
      (try dsimp only at hC)
      rw [b1, b2] at hC
      exact oneLt_lists (l1.list N1) (l2.list N1) i1 i2 hu hC
    · refine KasFin.intro (news := (D, seqObj "list" #[] e1) :: nx) (g := fun o => (D, o) :: nx) F' N' (.head fun q hq => Nat.ne_of_lt (hD q hq)) fun h'' c F'' N'' => ?_
      refine h D _ _ h'' _ F'' N'' (fun p hp => .tail _ hp) ⟨c, .head _⟩ (RowsAt.up (fun a vs l => l.mono fun p hp => .tail _ hp) (rB.pick (p := p.toList) fun i hi => ?_)) (ok_sort hp.1 hp.2)
      have := (Array.Perm.mem_iff hp.1).mp (Array.mem_toList_iff.mp hi)
      rw [hlen]
      simpa using this
end
end Mine
end
section
open PySem PySem.W PyProof.Rows PySem.Calls
set_option maxRecDepth 100000
namespace Mine
theorem spell_in {fs ns : List Int} {x : Nat} (h : x ∈ spell fs (rowsOf ns)) : x ∈ [10, 13, 46, 97, 98, 99, 100] := by
  unfold spell at h
  obtain ⟨p, hp, hx⟩ := List.mem_flatten.mp h
  obtain ⟨i, hi⟩ := List.mem_iff_getElem?.mp hp
  rw [List.getElem?_zipWith] at hi
  split at hi
  · rename_i f r hf hr
    cases hi
    rcases List.mem_append.mp hx with hx | hx
    · unfold endOf3 at hx
      split at hx
      · simp at hx; simp [hx]
      · split at hx <;> (simp at hx; simp [hx])
        rcases hx with rfl | rfl <;> simp
    · have hr' := List.mem_of_getElem? hr
      obtain ⟨j, hj⟩ := List.mem_iff_getElem?.mp hr'
      unfold rowsOf at hj
      rw [List.getElem?_zipWith] at hj
      split at hj
      · rename_i v c hv hc
        cases hj
        rcases List.mem_append.mp hx with hx | hx
        · have := (List.mem_replicate.mp hx).2
          simp [this]
        · have h1 := List.mem_of_getElem? hc
          rw [List.mem_singleton.mp hx]
          simp at h1 ⊢
          omega
      · cases hj
  · cases hi
theorem low_ok {x : Nat} (h : x ∈ [10, 13, 46, 97, 98, 99, 100]) : Txt.lower (ofL [x]) = ofL [x] := by
  simp only [List.mem_cons, List.not_mem_nil, or_false] at h
  rcases h with rfl | rfl | rfl | rfl | rfl | rfl | rfl <;> decide +kernel
theorem spell_short {fs ns : List Int} (hf : fs.length ≤ 4) : (spell fs (rowsOf ns)).length ≤ 40 := by
  have h := flatten_le 4 (List.zipWith (fun f r => endOf3 f ++ r) fs (rowsOf ns)) fun x hx => by
    obtain ⟨i, hi⟩ := List.mem_iff_getElem?.mp hx
    rw [List.getElem?_zipWith] at hi
    split at hi
    · rename_i f r hf hr
      cases hi
      have := rows_ok (List.mem_of_getElem? hr)
      have e3 : (endOf3 f).length ≤ 2 := by unfold endOf3; split <;> (try split) <;> simp
      rw [List.length_append]; omega
    · cases hi
  rw [List.length_zipWith] at h
  have h2 : min fs.length (rowsOf ns).length ≤ 4 := Nat.le_trans (Nat.min_le_left _ _) hf
  have h3 : min fs.length (rowsOf ns).length * 4 ≤ 4 * 4 := Nat.mul_le_mul_right _ h2
  unfold spell
  omega
def nearOf (ns : List Int) (bs : List (List Int)) : List (List Nat) := (bs.map fun f => spell f (rowsOf ns)).filter fun one => decide (levF (spell (tenthOf ns) (rowsOf ns)) one 2 ≤ 2)
def meantOf (ns : List Int) (bs : List (List Int)) : List (List Int) := bs.filter fun b => decide (3 ≤ agree b (tenthOf ns) 4)
end Mine
end
section
open PySem PySem.Sre PySem.W PyProof.Rows PySem.Calls
set_option maxRecDepth 100000
namespace Mine
/-- line ends made alike; the flag: a carriage return has just been turned -/
def nl : Bool → List Nat → List Nat
  | _, [] => []
  | b, c :: r => if c = 13 then 13 :: 10 :: nl true r else if c = 10 then (if b = true then nl false r else 13 :: 10 :: nl false r) else c :: nl false r
/-- dots doubled; the flag: at a row's head -/
def dt : Bool → List Nat → List Nat
  | _, [] => []
  | b, c :: r => if b = true ∧ c = 46 then 46 :: 46 :: dt false r else c :: dt (c == 10) r

theorem outs_is {d : List Nat} {find : Nat → Option (Nat × Nat)} {repl : List Nat} {f : Nat → List Nat} (hin : ∀ q i j, find q = some (i, j) → q ≤ i ∧ i < j ∧ j ≤ d.length)
    (h0 : ∀ pos, pos ≤ d.length → find pos = none → f pos = d.drop pos) (h1 : ∀ pos i j, pos ≤ d.length → find pos = some (i, j) → f pos = (d.drop pos).take (i - pos) ++ (repl ++ f j)) :
    ∀ (n pos : Nat), d.length < pos + n → pos ≤ d.length → (outs d.toArray find repl n pos).flatten = f pos
  | 0, pos, a, b => absurd a (by omega)
  | n + 1, pos, a, b => by
    unfold outs
    cases e : find pos with
    | none =>
      dsimp only
      rw [h0 pos b e]
      split
      · simp [List.take_of_length_le]
      · rename_i hlt
        rw [List.size_toArray] at hlt
        rw [List.drop_of_length_le (by omega)]
        rfl
    | some q =>
      obtain ⟨i, j⟩ := q
      obtain ⟨c1, c2, c3⟩ := hin pos i j e
      dsimp only
      rw [List.flatten_append, List.flatten_cons, outs_is hin h0 h1 n j (by omega) c3, h1 pos i j b e]
      congr 1
      split
      · simp
      · rw [show i - pos = 0 by omega]
        rfl

theorem isAt_eq (d : List Nat) (s c : Nat) : isAt2 d.toArray s c = decide (d[s]? = some c) := by
  unfold isAt2
  rw [List.size_toArray]
  by_cases h : s < d.length
  · have e : d.toArray.getD s 0 = d[s] := by simp [Array.getD, h]
    rw [decide_eq_true h, Bool.true_and, e, List.getElem?_eq_getElem h]
    by_cases h2 : d[s] = c
    · rw [h2]; simp
    · have : (d[s] == c) = false := by simpa using h2
      rw [this, decide_eq_false (by simpa using h2)]
  · rw [decide_eq_false h, List.getElem?_eq_none (by omega)]
    simp
theorem drop_at {d : List Nat} {s c : Nat} (h : d[s]? = some c) : d.drop s = c :: d.drop (s + 1) := by
  obtain ⟨hl, e⟩ := List.getElem?_eq_some_iff.mp h
  rw [List.drop_eq_getElem_cons hl, e]
theorem nl_true {r : List Nat} (h : r[0]? ≠ some 10) : nl true r = nl false r := by
  cases r with
  | nil => rfl
  | cons c r =>
    have hc : c ≠ 10 := fun e => h (by rw [e]; rfl)
    unfold nl
    rw [if_neg hc, if_neg hc]
theorem nextNl_is (d : List Nat) : ∀ (k s : Nat), s + k = d.length + 1 → match nextNl d.toArray k s with
    | none => nl false (d.drop s) = d.drop s
    | some i => s ≤ i ∧ nl false (d.drop s) = (d.drop s).take (i - s) ++ nl false (d.drop i) ∧ (d[i]? = some 10 ∨ d[i]? = some 13)
  | 0, s, h => by
    rw [List.drop_of_length_le (by omega)]
    rfl
  | k + 1, s, h => by
    unfold nextNl
    rw [isAt_eq, isAt_eq]
    by_cases hc : d[s]? = some 10 ∨ d[s]? = some 13
    · have : (decide (d[s]? = some 10) || decide (d[s]? = some 13)) = true := by simpa using hc
      rw [if_pos this]
      exact ⟨Nat.le_refl _, by rw [Nat.sub_self, List.take_zero, List.nil_append], hc⟩
    · have : ¬ (decide (d[s]? = some 10) || decide (d[s]? = some 13)) = true := by simpa using hc
      rw [if_neg this]
      have ih := nextNl_is d k (s + 1) (by omega)
      by_cases hs : s < d.length
      · have e : d.drop s = d[s] :: d.drop (s + 1) := List.drop_eq_getElem_cons hs
        have e1 : d[s] ≠ 10 := fun q => hc (.inl (by rw [List.getElem?_eq_getElem hs, q]))
        have e2 : d[s] ≠ 13 := fun q => hc (.inr (by rw [List.getElem?_eq_getElem hs, q]))
        have e3 : nl false (d[s] :: d.drop (s + 1)) = d[s] :: nl false (d.drop (s + 1)) := by
          rw [nl, if_neg e2, if_neg e1]
        cases hn : nextNl d.toArray k (s + 1) with
        | none =>
          rw [hn] at ih
          dsimp only at ih ⊢
          rw [e, e3, ih]
        | some i =>
          rw [hn] at ih
          dsimp only at ih ⊢
          obtain ⟨i1, i2, i3⟩ := ih
          refine ⟨by omega, ?_, i3⟩
          rw [e, e3, i2, show i - s = (i - (s + 1)) + 1 by omega, List.take_succ_cons, List.cons_append]
      · obtain rfl : s = d.length := by omega
        obtain rfl : k = 0 := by omega
        show nl false (d.drop d.length) = d.drop d.length
        rw [List.drop_of_length_le (Nat.le_refl _)]
        rfl
theorem subst2_is (d : List Nat) : subst2 d = nl false d := by
  unfold subst2
  have h := outs_is (d := d) (find := find2 d.toArray) (repl := [13, 10]) (f := fun pos => nl false (d.drop pos)) (fun q i j e => by have := find2_in _ q i j e; simpa using this) (fun pos hp e => ?_) (fun pos i j hp e => ?_) (d.toArray.size + 1) 0 (by simp) (Nat.zero_le _)
  · simpa using h
  · unfold find2 at e
    have := nextNl_is d (d.length + 1 - pos) pos (by omega)
    cases hn : nextNl d.toArray (d.length + 1 - pos) pos with
    | none => rw [hn] at this; exact this
    | some i => rw [List.size_toArray, hn] at e; cases e
  · unfold find2 at e
    have := nextNl_is d (d.length + 1 - pos) pos (by omega)
    cases hn : nextNl d.toArray (d.length + 1 - pos) pos with
    | none => rw [List.size_toArray, hn] at e; cases e
    | some i' =>
      rw [List.size_toArray, hn] at e
      rw [hn] at this
      dsimp only at this
      obtain ⟨a1, a2, a3⟩ := this
      cases e
      (try dsimp only)
      rw [a2]
      congr 1
      unfold nlEnd
      rw [isAt_eq, isAt_eq]
      rcases a3 with a3 | a3
      · rw [drop_at a3, a3]
        rfl
      · rw [drop_at a3, a3]
        by_cases h10 : d[i + 1]? = some 10
        · rw [h10, drop_at h10]
          rfl
        · have e4 : (decide (some 13 = some 13) && decide (d[i + 1]? = some 10)) = false := by rw [decide_eq_false h10]; simp
          rw [e4, if_neg (by simp)]
          show 13 :: 10 :: nl true (d.drop (i + 1)) = 13 :: 10 :: nl false (d.drop (i + 1))
          rw [nl_true (by rw [List.getElem?_drop]; simpa using h10)]

def headAt (d : List Nat) (s : Nat) : Bool := s == 0 || d.getD (s - 1) 0 == 10
theorem dotAt_eq (d : List Nat) (s : Nat) : dotAt d.toArray s = (headAt d s && decide (d[s]? = some 46)) := by
  have h := isAt_eq d s 46
  unfold isAt2 at h
  unfold dotAt headAt
  rw [h]
  congr 2
  simp [Array.getD_eq_getD_getElem?, List.getD_eq_getElem?_getD]
theorem headAt_succ {d : List Nat} {s c : Nat} (h : d[s]? = some c) : headAt d (s + 1) = (c == 10) := by
  unfold headAt
  rw [Nat.add_sub_cancel, List.getD_eq_getElem?_getD, h]
  simp
theorem nextDot_is (d : List Nat) : ∀ (k s : Nat), s + k = d.length + 1 → match nextDot d.toArray k s with
    | none => dt (headAt d s) (d.drop s) = d.drop s
    | some i => s ≤ i ∧ dt (headAt d s) (d.drop s) = (d.drop s).take (i - s) ++ dt (headAt d i) (d.drop i) ∧ headAt d i = true ∧ d[i]? = some 46
  | 0, s, h => by
    rw [List.drop_of_length_le (by omega)]
    rfl
  | k + 1, s, h => by
    unfold nextDot
    rw [dotAt_eq]
    by_cases hc : headAt d s = true ∧ d[s]? = some 46
    · have : (headAt d s && decide (d[s]? = some 46)) = true := by simpa using hc
      rw [if_pos this]
      exact ⟨Nat.le_refl _, by rw [Nat.sub_self, List.take_zero, List.nil_append], hc⟩
    · have : ¬ (headAt d s && decide (d[s]? = some 46)) = true := by simpa using hc
      rw [if_neg this]
      have ih := nextDot_is d k (s + 1) (by omega)
      by_cases hs : s < d.length
      · have e : d.drop s = d[s] :: d.drop (s + 1) := List.drop_eq_getElem_cons hs
        have e0 := List.getElem?_eq_getElem hs
        have e3 : dt (headAt d s) (d[s] :: d.drop (s + 1)) = d[s] :: dt (headAt d (s + 1)) (d.drop (s + 1)) := by
          rw [dt, if_neg (fun q => hc ⟨q.1, by rw [e0, q.2]⟩), headAt_succ e0]
        cases hn : nextDot d.toArray k (s + 1) with
        | none =>
          rw [hn] at ih
          dsimp only at ih ⊢
          rw [e, e3, ih]
        | some i =>
          rw [hn] at ih
          dsimp only at ih ⊢
          obtain ⟨i1, i2, i3⟩ := ih
          refine ⟨by omega, ?_, i3⟩
          rw [e, e3, i2, show i - s = (i - (s + 1)) + 1 by omega, List.take_succ_cons, List.cons_append]
      · obtain rfl : s = d.length := by omega
        obtain rfl : k = 0 := by omega
        show dt (headAt d d.length) (d.drop d.length) = d.drop d.length
        rw [List.drop_of_length_le (Nat.le_refl _)]
        rfl
theorem subst1_is (d : List Nat) : subst1 d = dt true d := by
  unfold subst1
  have h := outs_is (d := d) (find := find1 d.toArray) (repl := [46, 46]) (f := fun pos => dt (headAt d pos) (d.drop pos)) (fun q i j e => by have := find1_in _ q i j e; simpa using this) (fun pos hp e => ?_) (fun pos i j hp e => ?_) (d.toArray.size + 1) 0 (by simp) (Nat.zero_le _)
  · simpa [headAt] using h
  · unfold find1 at e
    have := nextDot_is d (d.length + 1 - pos) pos (by omega)
    cases hn : nextDot d.toArray (d.length + 1 - pos) pos with
    | none => rw [hn] at this; exact this
    | some i => rw [List.size_toArray, hn] at e; cases e
  · unfold find1 at e
    have := nextDot_is d (d.length + 1 - pos) pos (by omega)
    cases hn : nextDot d.toArray (d.length + 1 - pos) pos with
    | none => rw [List.size_toArray, hn] at e; cases e
    | some i' =>
      rw [List.size_toArray, hn] at e
      rw [hn] at this
      dsimp only at this
      obtain ⟨a1, a2, a3, a4⟩ := this
      cases e
      (try dsimp only)
      rw [a2]
      congr 1
      rw [drop_at a4, a3, headAt_succ a4]
      rfl
theorem quoted_is (d : List Nat) : quoted d = dt true (nl false d) := by
  unfold quoted
  rw [subst2_is, subst1_is]
end Mine
end
section
open PySem PySem.W PyProof.Rows PySem.Calls
set_option maxRecDepth 100000
namespace Mine
def Figs (fs : List Int) : Prop := ∀ f ∈ fs, f = 0 ∨ f = 1 ∨ f = 2
def HighRow (r : List Nat) : Prop := ∃ c t, r = c :: t ∧ 14 ≤ c
theorem spell_cons (f : Int) (fs : List Int) (r : List Nat) (rs : List (List Nat)) : spell (f :: fs) (r :: rs) = endOf3 f ++ (r ++ spell fs rs) := by
  unfold spell
  rw [List.zipWith_cons_cons, List.flatten_cons, List.append_assoc]
theorem app_lt : ∀ (a x y : List Nat), (a ++ x < a ++ y ↔ x < y)
  | [], x, y => Iff.rfl
  | c :: a, x, y => by
    rw [List.cons_append, List.cons_append, List.cons_lt_cons_iff]
    have := app_lt a x y
    constructor
    · rintro (h | ⟨_, h⟩)
      · exact absurd h (Nat.lt_irrefl _)
      · exact this.mp h
    · exact fun h => .inr ⟨rfl, this.mpr h⟩
theorem spell_lt : ∀ (rs : List (List Nat)) (fs gs : List Int), (∀ r ∈ rs, HighRow r) → fs.length = rs.length → gs.length = rs.length → Figs fs → Figs gs → (spell fs rs < spell gs rs ↔ ltL fs gs = true)
  | [], fs, gs, _, h1, h2, _, _ => by
    obtain rfl : fs = [] := List.length_eq_zero_iff.mp h1
    obtain rfl : gs = [] := List.length_eq_zero_iff.mp h2
    simp [spell, ltL]
  | r :: rs, fs, gs, hr, h1, h2, h3, h4 => by
    match fs, gs, h1, h2 with
    | f :: fs, g :: gs, h1, h2 =>
      have ih := spell_lt rs fs gs (fun q hq => hr q (.tail _ hq)) (by simpa using h1) (by simpa using h2) (fun q hq => h3 q (.tail _ hq)) (fun q hq => h4 q (.tail _ hq))
      rw [spell_cons, spell_cons]
      by_cases e : f = g
      · subst e
        rw [app_lt, app_lt, ih]
        simp [ltL]
      · obtain ⟨c, t, rfl, hc⟩ := hr r (.head _)
        have e2 : ltL (f :: fs) (g :: gs) = decide (f < g) := by simp [ltL, e]
        rw [e2, decide_eq_true_eq]
        have c1 : ¬ c < 10 := by omega
        have c2 : 10 < c := by omega
        have c3 : c ≠ 10 := by omega
        rcases h3 f (.head _) with rfl | rfl | rfl <;> rcases h4 g (.head _) with rfl | rfl | rfl <;> first | exact absurd rfl e | simp [endOf3, List.cons_lt_cons_iff, c1, c2, c3, Ne.symm c3]
theorem rows_high {ns : List Int} {r : List Nat} (h : r ∈ rowsOf ns) : HighRow r := by
  obtain ⟨i, hi⟩ := List.mem_iff_getElem?.mp h
  unfold rowsOf at hi
  rw [List.getElem?_zipWith] at hi
  split at hi
  · rename_i v c hv hc
    cases hi
    have hm := List.mem_of_getElem? hc
    have hc97 : 97 ≤ c := by simp at hm; omega
    cases (((v.fdiv 3).fmod 2).toNat) with
    | zero => exact ⟨c, [], rfl, by omega⟩
    | succ k => exact ⟨46, List.replicate k 46 ++ [c], rfl, by omega⟩
  · cases hi
theorem spell_lt4 {ns : List Int} (hn : ns.length = 8) {f g : List Int} (hf : f.length = 4) (hg : g.length = 4) (h3 : Figs f) (h4 : Figs g) : (spell f (rowsOf ns) < spell g (rowsOf ns) ↔ ltL f g = true) :=
  spell_lt _ _ _ (fun r hr => rows_high hr) (by rw [rows_len hn, hf]) (by rw [rows_len hn, hg]) h3 h4

/-- texts not above -/
def leT (a b : List Nat) : Prop := ¬ b < a
theorem leT_trans {a b c : List Nat} (h1 : leT a b) (h2 : leT b c) : leT a c := by
  have h1' : a ≤ b := List.not_lt.mp h1
  have h2' : b ≤ c := List.not_lt.mp h2
  exact List.not_lt.mpr (List.le_trans h1' h2')
theorem leT_anti {a b : List Nat} (h1 : leT a b) (h2 : leT b a) : a = b := List.le_antisymm (List.not_lt.mp h1) (List.not_lt.mp h2)
theorem leT_of_lt {a b : List Nat} (h : a < b) : leT a b := List.not_lt.mpr (List.le_of_lt h)

/-- how many lie not above x -/
theorem cut_at {α : Type} (p : α → Bool) : ∀ (l : List α), l.Pairwise (fun a b => p b = true → p a = true) → ∀ (i : Nat) (a : α), l[i]? = some a → p a = decide (i < (l.filter p).length)
  | [], _, i, a, h => by simp at h
  | x :: l, hp, i, a, h => by
    rw [List.pairwise_cons] at hp
    cases hx : p x with
    | true =>
      rw [List.filter_cons_of_pos hx, List.length_cons]
      cases i with
      | zero => simp at h; subst h; rw [hx]; simp
      | succ i =>
        have := cut_at p l hp.2 i a (by simpa using h)
        rw [this]
        simp
    | false =>
      have hall : ∀ y ∈ l, p y = false := fun y hy => by
        cases e : p y with
        | false => rfl
        | true => rw [hp.1 y hy e] at hx; cases hx
      have hnil : (x :: l).filter p = [] := by
        rw [List.filter_eq_nil_iff]
        intro y hy
        rcases List.mem_cons.mp hy with rfl | hy
        · simp [hx]
        · simp [hall y hy]
      rw [hnil]
      have ha : a ∈ x :: l := List.mem_of_getElem? h
      rcases List.mem_cons.mp ha with rfl | ha
      · simp [hx]
      · simp [hall a ha]
theorem insL_sorted {xs : List (List Nat)} {x : List Nat} (h : xs.Pairwise leT) : (insL xs x).Pairwise leT ∧ (insL xs x).Perm (x :: xs) := by
  have hp : xs.Pairwise (fun a b => decide (¬ x < b) = true → decide (¬ x < a) = true) := h.imp fun {a b} hab hb => by
    have hb' : ¬ x < b := of_decide_eq_true hb
    exact decide_eq_true (leT_trans hab hb')
  have hcut := cut_at (fun b => decide (¬ x < b)) xs hp
  have hkl := List.length_filter_le (fun b => decide (¬ x < b)) xs
  generalize hk : (xs.filter fun b => decide (¬ x < b)).length = k at hcut hkl
  have hb : bisR (fun i => decide (x < xs.getD i [])) xs.length 0 xs.length = k := by
    refine bisR_is (n := xs.length) (fun i hi => ?_) _ _ _ (Nat.le_refl _) (Nat.zero_le _) hkl (by omega)
    have := hcut i _ (List.getElem?_eq_getElem hi)
    rw [List.getD_eq_getElem?_getD, List.getElem?_eq_getElem hi, Option.getD_some]
    by_cases hc : x < xs[i]
    · rw [decide_eq_true hc]
      have h2 : ¬ i < k := fun q => by
        rw [decide_eq_true q] at this
        exact of_decide_eq_true this hc
      rw [decide_eq_true (by omega)]
    · rw [decide_eq_false hc]
      have h2 : i < k := by
        rw [decide_eq_true hc] at this
        exact of_decide_eq_true this.symm
      rw [decide_eq_false (by omega)]
  have hi : insL xs x = xs.take k ++ x :: xs.drop k := by
    unfold insL
    dsimp only
    rw [hb]
  rw [hi]
  refine ⟨?_, ?_⟩
  · have hall : (xs.take k ++ xs.drop k).Pairwise leT := by rw [List.take_append_drop]; exact h
    rw [List.pairwise_append] at hall ⊢
    refine ⟨hall.1, ?_, fun a ha b hb => ?_⟩
    · rw [List.pairwise_cons]
      refine ⟨fun b hb => ?_, hall.2.1⟩
      obtain ⟨j, hj⟩ := List.mem_iff_getElem?.mp hb
      rw [List.getElem?_drop] at hj
      have := hcut _ _ hj
      rw [decide_eq_false (show ¬ k + j < k by omega)] at this
      have h3 := of_decide_eq_false this
      exact leT_of_lt (Decidable.not_not.mp h3)
    · rcases List.mem_cons.mp hb with rfl | hb
      · obtain ⟨j, hj⟩ := List.mem_iff_getElem?.mp ha
        rw [List.getElem?_take] at hj
        split at hj
        · rename_i hjk
          have := hcut _ _ hj
          rw [decide_eq_true hjk] at this
          have h4 : ¬ b < a := of_decide_eq_true this
          exact h4
        · cases hj
      · exact hall.2.2 a ha b hb
  · refine List.perm_middle.trans ?_
    rw [List.take_append_drop]
theorem fold_sorted : ∀ (l a : List (List Nat)), a.Pairwise leT → (l.foldl insL a).Pairwise leT ∧ (l.foldl insL a).Perm (l ++ a)
  | [], a, h => ⟨h, List.Perm.refl _⟩
  | x :: l, a, h => by
    obtain ⟨h1, h2⟩ := insL_sorted (x := x) h
    obtain ⟨h3, h4⟩ := fold_sorted l (insL a x) h1
    rw [List.foldl_cons]
    exact ⟨h3, h4.trans ((List.Perm.append_left l h2).trans List.perm_middle)⟩
theorem bs_in {ns : List Int} (hn : ns.length = 8) {bs : List (List Int)} (h : IsSort (betsOf ns) bs) {b : List Int} (hb : b ∈ bs) : b.length = 4 ∧ Figs b :=
  ⟨bets_four hn (h.1.mem_iff.mp hb), (bets_ok (h.1.mem_iff.mp hb)).1⟩
theorem shelf_ok {ns : List Int} {bs : List (List Int)} (hn : ns.length = 8) (h : IsSort (betsOf ns) bs) : ((betsOf ns).map fun f => spell f (rowsOf ns)).foldl insL [] = bs.map fun f => spell f (rowsOf ns) := by
  obtain ⟨h1, h2⟩ := fold_sorted ((betsOf ns).map fun f => spell f (rowsOf ns)) [] .nil
  rw [List.append_nil] at h2
  refine List.Perm.eq_of_pairwise (le := leT) (fun a b _ _ x y => leT_anti x y) h1 ?_ (h2.trans (h.1.symm.map _))
  rw [List.pairwise_map]
  refine (List.Pairwise.and_mem.mp h.2).imp ?_
  rintro a b ⟨ha, hb, hab⟩ hlt
  obtain ⟨a1, a2⟩ := bs_in hn h ha
  obtain ⟨b1, b2⟩ := bs_in hn h hb
  have := (spell_lt4 hn b1 a1 b2 a2).mp hlt
  rw [show ltL b a = false from hab] at this
  cases this
theorem cut_ok {ns : List Int} {bs : List (List Int)} (hn : ns.length = 8) (h : IsSort (betsOf ns) bs) {t : List Int} (ht : t.length = 4) (hf : ∀ f ∈ t, f = 0 ∨ f = 1 ∨ f = 2) :
    bisL (fun i => decide ((bs.map fun f => spell f (rowsOf ns)).getD i [] < spell t (rowsOf ns))) 9 0 9 = (bs.filter fun b => ltL b t).length := by
  have hlen : bs.length = 9 := by rw [h.1.length_eq, betsOf_len]
  have hp : bs.Pairwise (fun a b => ltL b t = true → ltL a t = true) := h.2.imp fun {a b} hab hb => by
    cases e : ltL a t with
    | true => rfl
    | false =>
      have := ltL_trans t a b e hab
      rw [this] at hb
      cases hb
  have hcut := cut_at (fun b => ltL b t) bs hp
  have hkl := List.length_filter_le (fun b => ltL b t) bs
  refine bisL_is (n := 9) (fun i hi => ?_) _ _ _ (Nat.le_refl _) (Nat.zero_le _) (by omega) (by omega)
  have hib : i < bs.length := by omega
  have hg := List.getElem?_eq_getElem hib
  rw [List.getD_eq_getElem?_getD, List.getElem?_map, hg, Option.map_some, Option.getD_some, ← hcut i _ hg]
  obtain ⟨a1, a2⟩ := bs_in hn h (List.getElem_mem hib)
  have := spell_lt4 hn a1 ht a2 hf
  cases e : ltL bs[i] t with
  | true => rw [e] at this; exact decide_eq_true (this.mpr rfl)
  | false => exact decide_eq_false fun q => by rw [this.mp q] at e; cases e
end Mine
end
section
open PySem PySem.W PyProof.Rows PySem.Calls
set_option maxRecDepth 100000
namespace Mine
def rowsK (k : List Nat) : List (List Nat) := List.zipWith (fun k c => List.replicate k 46 ++ [c]) k [97, 98, 99, 100]
theorem rows_form {ns : List Int} (hn : ns.length = 8) : ∃ a b c d : Fin 2, rowsOf ns = rowsK [a.val, b.val, c.val, d.val] := by
  have low : ∀ v : Int, ((v.fdiv 3).fmod 2).toNat < 2 := fun v => by
    have h2 := Int.fmod_lt_of_pos (v.fdiv 3) (b := 2) (by decide)
    omega
  match ns, hn with
  | [v0, v1, v2, v3, _, _, _, _], _ => exact ⟨⟨_, low v0⟩, ⟨_, low v1⟩, ⟨_, low v2⟩, ⟨_, low v3⟩, rfl⟩
theorem figs_form {t : List Int} (ht : t.length = 4) (hf : ∀ f ∈ t, f = 0 ∨ f = 1 ∨ f = 2) : ∃ a b c d : Fin 3, t = [(a.val : Int), b.val, c.val, d.val] := by
  have one : ∀ f : Int, (f = 0 ∨ f = 1 ∨ f = 2) → ∃ a : Fin 3, f = a.val := fun f h => by
    rcases h with rfl | rfl | rfl
    · exact ⟨0, rfl⟩
    · exact ⟨1, rfl⟩
    · exact ⟨2, rfl⟩
  match t, ht with
  | [p, q, r, s], _ =>
    obtain ⟨a, rfl⟩ := one p (hf _ (.head _))
    obtain ⟨b, rfl⟩ := one q (hf _ (.tail _ (.head _)))
    obtain ⟨c, rfl⟩ := one r (hf _ (.tail _ (.tail _ (.head _))))
    obtain ⟨d, rfl⟩ := one s (hf _ (.tail _ (.tail _ (.tail _ (.head _)))))
    exact ⟨a, b, c, d, rfl⟩
def quoteAll : Bool :=
  [0, 1].all fun k0 => [0, 1].all fun k1 => [0, 1].all fun k2 => [0, 1].all fun k3 => [0, 1, 2].all fun a => [0, 1, 2].all fun b => [0, 1, 2].all fun c => [0, 1, 2].all fun d =>
    dt true (nl false (spell [a, b, c, d] (rowsK [k0, k1, k2, k3]))) == ((rowsK [k0, k1, k2, k3]).map sentRow).flatten
theorem quoteAll_ok : quoteAll = true := by decide +kernel
theorem mem2 (a : Fin 2) : a.val ∈ [0, 1] := by
  match a with
  | 0 => decide
  | 1 => decide
theorem mem3 (a : Fin 3) : (a.val : Int) ∈ [(0 : Int), 1, 2] := by
  match a with
  | 0 => decide
  | 1 => decide
  | 2 => decide
theorem quote_law {ns : List Int} (hn : ns.length = 8) {t : List Int} (ht : t.length = 4) (hf : ∀ f ∈ t, f = 0 ∨ f = 1 ∨ f = 2) : quoted (spell t (rowsOf ns)) = sentOf ns := by
  rw [quoted_is]
  unfold sentOf
  obtain ⟨k0, k1, k2, k3, hr⟩ := rows_form hn
  obtain ⟨a, b, c, d, rfl⟩ := figs_form ht hf
  rw [hr]
  have h := quoteAll_ok
  unfold quoteAll at h
  simp only [List.all_eq_true] at h
  have := h _ (mem2 k0) _ (mem2 k1) _ (mem2 k2) _ (mem2 k3) _ (mem3 a) _ (mem3 b) _ (mem3 c) _ (mem3 d)
  simpa using this
end Mine
end
section
open PySem PySem.W PyProof.Rows PySem.Calls
set_option maxRecDepth 100000
namespace Mine
/-- one edit apart, or none -/
def edit1 : List Nat → List Nat → Bool
  | a :: r, b :: t => if a = b then edit1 r t else (r == t || r == b :: t || a :: r == t)
  | [], t => decide (t.length ≤ 1)
  | r, [] => decide (r.length ≤ 1)
def Diff (X Y : List Nat) : Prop := X = [] ∨ Y = [] ∨ ∃ a r b t, X = a :: r ∧ Y = b :: t ∧ a ≠ b
def DiffR (X Y : List Nat) : Prop := X = [] ∨ Y = [] ∨ ∃ r a t b, X = r ++ [a] ∧ Y = t ++ [b] ∧ a ≠ b
theorem one_app : ∀ P X Y : List Nat, edit1 (P ++ X) (P ++ Y) = edit1 X Y
  | [], _, _ => rfl
  | c :: P, X, Y => by
    rw [List.cons_append, List.cons_append, edit1, if_pos rfl]
    exact one_app P X Y
theorem cpl_split : ∀ A B : List Nat, ∃ P X Y, A = P ++ X ∧ B = P ++ Y ∧ P.length = cpl A B ∧ Diff X Y
  | [], B => ⟨[], [], B, rfl, rfl, (cpl_nil_l B).symm, .inl rfl⟩
  | a :: A, [] => ⟨[], a :: A, [], rfl, rfl, (cpl_nil_r _).symm, .inr (.inl rfl)⟩
  | a :: A, b :: B => by
    by_cases e : a = b
    · subst e
      obtain ⟨P, X, Y, h1, h2, h3, h4⟩ := cpl_split A B
      exact ⟨a :: P, X, Y, by rw [h1]; rfl, by rw [h2]; rfl, by rw [cpl, if_pos rfl, List.length_cons, h3], h4⟩
    · exact ⟨[], a :: A, b :: B, rfl, rfl, by rw [cpl, if_neg e]; rfl, .inr (.inr ⟨a, A, b, B, rfl, rfl, e⟩)⟩
theorem diff_rev {X Y : List Nat} (h : Diff X.reverse Y.reverse) : DiffR X Y := by
  rcases h with h | h | ⟨a, r, b, t, h1, h2, h3⟩
  · exact .inl (List.reverse_eq_nil_iff.mp h)
  · exact .inr (.inl (List.reverse_eq_nil_iff.mp h))
  · refine .inr (.inr ⟨r.reverse, a, t.reverse, b, ?_, ?_, h3⟩)
    · rw [← List.reverse_reverse X, h1, List.reverse_cons]
    · rw [← List.reverse_reverse Y, h2, List.reverse_cons]
theorem levF_split {A B : List Nat} {c : Int} (hne : A ≠ B) : ∃ P X Y S, A = P ++ (X ++ S) ∧ B = P ++ (Y ++ S) ∧ Diff (X ++ S) (Y ++ S) ∧ DiffR X Y ∧ levF A B c = levCore X Y c := by
  obtain ⟨P, A1, B1, h1, h2, h3, h4⟩ := cpl_split A B
  obtain ⟨Q, X, Y, g1, g2, g3, g4⟩ := cpl_split A1.reverse B1.reverse
  have e1 : A1 = X.reverse ++ Q.reverse := by rw [← List.reverse_reverse A1, g1, List.reverse_append]
  have e2 : B1 = Y.reverse ++ Q.reverse := by rw [← List.reverse_reverse B1, g2, List.reverse_append]
  refine ⟨P, X.reverse, Y.reverse, Q.reverse, by rw [← e1]; exact h1, by rw [← e2]; exact h2, by rw [← e1, ← e2]; exact h4, diff_rev (by rwa [List.reverse_reverse, List.reverse_reverse]), ?_⟩
  unfold levF
  rw [if_neg hne]
  have d1 : A.drop (cpl A B) = A1 := by rw [← h3, h1, List.drop_left]
  have d2 : B.drop (cpl A B) = B1 := by rw [← h3, h2, List.drop_left]
  rw [d1, d2]
  unfold levPost
  rw [← g3]
  have t1 : A1.take (A1.length - Q.length) = X.reverse := by
    rw [e1, List.length_append, List.length_reverse, List.length_reverse, Nat.add_sub_cancel, List.take_left' (by rw [List.length_reverse])]
  have t2 : B1.take (B1.length - Q.length) = Y.reverse := by
    rw [e2, List.length_append, List.length_reverse, List.length_reverse, Nat.add_sub_cancel, List.take_left' (by rw [List.length_reverse])]
  rw [t1, t2]

def Ge2 (row : List Int) : Prop := ∀ r ∈ row, 2 ≤ r
theorem in_low (c : Nat) : ∀ (as : List Nat) (row : List Int) (dist res mn : Int), Ge2 row → 2 ≤ dist → 0 ≤ res → Ge2 (stepIn c as row dist res mn).1
  | [], row, _, _, _, h, _, _ => by simpa [stepIn] using h
  | _ :: _, [], _, _, _, h, _, _ => by simpa [stepIn] using h
  | a :: as, r :: row, dist, res, mn, h, hd, hr => by
    have h1 := h r (.head _)
    have ih : ∀ mn', Ge2 (stepIn c as row r (if (dist + if c = a then 0 else 2) < (if r < res then r else res) + 2 then (dist + if c = a then 0 else 2) else (if r < res then r else res) + 2) mn').1 :=
      fun mn' => in_low c as row _ _ _ (fun q hq => h q (.tail _ hq)) h1 (by repeat' split <;> omega)
    intro q hq
    simp only [stepIn] at hq
    rcases List.mem_cons.mp hq with rfl | hq
    · repeat' split <;> omega
    · exact ih _ q hq
theorem in_first (c a : Nat) (as : List Nat) (row : List Int) (mn : Int) (h : Ge2 row) (hne : c ≠ a) : Ge2 (stepIn c (a :: as) row 0 0 mn).1 := by
  cases row with
  | nil => simpa [stepIn] using h
  | cons r row =>
    have h1 := h r (.head _)
    intro q hq
    simp only [stepIn, if_neg hne] at hq
    rcases List.mem_cons.mp hq with rfl | hq
    · repeat' split <;> omega
    · exact in_low c as row _ _ _ (fun q hq => h q (.tail _ hq)) h1 (by repeat' split <;> omega) q hq
theorem in_last (c a : Nat) (hne : c ≠ a) : ∀ (as : List Nat) (row : List Int) (dist res mn : Int), row.length = as.length + 1 → Ge2 row → 2 ≤ dist → 2 ≤ res → 4 ≤ (stepIn c (as ++ [a]) row dist res mn).2.1
  | [], row, dist, res, mn, hl, h, hd, hr => by
    match row, hl with
    | [r], _ =>
      have h1 := h r (.head _)
      simp only [List.nil_append, stepIn, if_neg hne]
      repeat' split <;> omega
  | b :: as, row, dist, res, mn, hl, h, hd, hr => by
    match row, hl with
    | r :: row, hl =>
      have h1 := h r (.head _)
      simp only [List.cons_append, stepIn]
      exact in_last c a hne as row _ _ _ (by simpa using hl) (fun q hq => h q (.tail _ hq)) h1 (by repeat' split <;> omega)
theorem out_big (as : List Nat) (a c : Nat) (hne : c ≠ a) : ∀ (bs : List Nat) (i : Int) (row : List Int) (res : Int), 1 ≤ i → row.length = as.length + 1 → Ge2 row → 2 < stepOut (as ++ [a]) 2 (bs ++ [c]) i row res
  | [], i, row, res, hi, hl, h => by
    simp only [List.nil_append, stepOut]
    have := in_last c a hne as row (i * 2) (i * 2) 9223372036854775807 hl h (by omega) (by omega)
    split <;> omega
  | b :: bs, i, row, res, hi, hl, h => by
    simp only [List.cons_append, stepOut]
    split
    · omega
    · refine out_big as a c hne bs (i + 1) _ _ (by omega) ?_ (in_low b _ row _ _ _ h (by omega) (by omega))
      rw [stepIn_len b (as ++ [a]) row _ _ _ (by rw [hl, List.length_append]; rfl), List.length_append]
      rfl
theorem ge2_range (n : Nat) : Ge2 (rangeInts 2 2 n) := by
  intro q hq
  obtain ⟨i, _, rfl⟩ := List.mem_map.mp hq
  omega
theorem out_first {x y : List Nat} (hx : x ≠ []) (hy : 2 ≤ y.length) (hd : Diff x y) (hr : DiffR x y) : 2 < stepOut x 2 y 0 (rangeInts 2 2 x.length) 0 := by
  rcases hr with h | h | ⟨r, a, t, c, rfl, rfl, hac⟩
  · exact absurd h hx
  · rw [h] at hy; simp at hy
  cases t with
  | nil => simp at hy
  | cons b t =>
    have hl : (rangeInts 2 2 (r ++ [a]).length).length = r.length + 1 := by rw [rangeInts_length, List.length_append]; rfl
    simp only [List.cons_append, stepOut]
    split
    · omega
    · refine out_big r a c (Ne.symm hac) t _ _ _ (by omega) ?_ ?_
      · rw [stepIn_len b (r ++ [a]) _ _ _ _ (by rw [hl, List.length_append]; rfl), List.length_append]
        rfl
      · rcases hd with h | h | ⟨a', r', b', t', h1, h2, h3⟩
        · exact absurd h hx
        · simp at h
        · rw [List.cons_append] at h2
          obtain ⟨rfl, _⟩ := List.cons.inj h2
          rw [h1]
          exact in_first _ _ _ _ _ (ge2_range _) (Ne.symm h3)
theorem Diff.symm {X Y : List Nat} (h : Diff X Y) : Diff Y X := by
  rcases h with h | h | ⟨a, r, b, t, h1, h2, h3⟩
  · exact .inr (.inl h)
  · exact .inl h
  · exact .inr (.inr ⟨b, t, a, r, h2, h1, Ne.symm h3⟩)
theorem DiffR.symm {X Y : List Nat} (h : DiffR X Y) : DiffR Y X := by
  rcases h with h | h | ⟨a, r, b, t, h1, h2, h3⟩
  · exact .inr (.inl h)
  · exact .inl h
  · exact .inr (.inr ⟨b, t, a, r, h2, h1, Ne.symm h3⟩)
theorem core_small {X Y : List Nat} (hd : Diff X Y) (hr : DiffR X Y) : levCore X Y 2 ≤ 2 ↔ X.length ≤ 1 ∧ Y.length ≤ 1 := by
  unfold levCore
  by_cases hX : X = []
  · subst hX
    rw [if_pos (.inl rfl)]
    simp only [List.length_nil]
    omega
  by_cases hY : Y = []
  · subst hY
    rw [if_pos (.inr rfl)]
    simp only [List.length_nil]
    omega
  rw [if_neg (fun h => h.elim hX hY)]
  have hX1 := List.length_pos_iff.mpr hX
  have hY1 := List.length_pos_iff.mpr hY
  by_cases hb : X.length ≤ 1 ∧ Y.length ≤ 1
  · refine ⟨fun _ => hb, fun _ => ?_⟩
    rcases hd with h | h | ⟨a, r, b, t, rfl, rfl, hab⟩
    · exact absurd h hX
    · exact absurd h hY
    · obtain rfl : r = [] := List.length_eq_zero_iff.mp (by simp only [List.length_cons] at hb; omega)
      obtain rfl : t = [] := List.length_eq_zero_iff.mp (by simp only [List.length_cons] at hb; omega)
      simp only [List.length_singleton, Nat.lt_irrefl, if_false]
      rw [show rangeInts 2 2 1 = [2] from rfl]
      simp [stepOut, stepIn, Ne.symm hab]
  · refine ⟨fun h => ?_, fun h => absurd h hb⟩
    exfalso
    by_cases hs : Y.length < X.length
    · simp only [hs, if_true] at h
      split at h
      · omega
      · have := out_first hY (by omega) hd.symm hr.symm
        omega
    · simp only [hs, if_false] at h
      split at h
      · omega
      · have := out_first hX (by omega) hd hr
        omega
theorem one_mid {X Y S : List Nat} (hd : Diff (X ++ S) (Y ++ S)) (hr : DiffR X Y) : edit1 (X ++ S) (Y ++ S) = true ↔ X.length ≤ 1 ∧ Y.length ≤ 1 := by
  rcases hd with h | h | ⟨a, r, b, t, h1, h2, hab⟩
  · obtain ⟨rfl, rfl⟩ := List.append_eq_nil_iff.mp h
    simp [edit1]
  · obtain ⟨rfl, rfl⟩ := List.append_eq_nil_iff.mp h
    cases X <;> simp [edit1]
  · rw [h1, h2, edit1, if_neg hab]
    simp only [Bool.or_eq_true, beq_iff_eq]
    constructor
    · intro h
      have cancel : ∀ {U V : List Nat}, U ++ S = V ++ S → U = V := fun q => List.append_cancel_right q
      cases X with
      | nil =>
        cases Y with
        | nil => exact ⟨Nat.zero_le _, Nat.zero_le _⟩
        | cons y Y =>
          rw [List.nil_append] at h1
          rw [List.cons_append] at h2
          obtain ⟨rfl, k2⟩ := List.cons.inj h2
          have l1 := congrArg List.length h1
          have l2 := congrArg List.length k2
          simp only [List.length_cons, List.length_append] at l1 l2
          refine ⟨Nat.zero_le _, ?_⟩
          rcases h with (h | h) | h
          · have := congrArg List.length h; simp only [List.length_cons] at this ⊢; omega
          · have := congrArg List.length h; simp only [List.length_cons] at this ⊢; omega
          · have := congrArg List.length h; simp only [List.length_cons] at this ⊢; omega
      | cons x X =>
        rw [List.cons_append] at h1
        obtain ⟨rfl, k1⟩ := List.cons.inj h1
        cases Y with
        | nil =>
          rw [List.nil_append] at h2
          have l1 := congrArg List.length k1
          have l2 := congrArg List.length h2
          simp only [List.length_cons, List.length_append] at l1 l2
          refine ⟨?_, Nat.zero_le _⟩
          rcases h with (h | h) | h
          · have := congrArg List.length h; simp only [List.length_cons] at this ⊢; omega
          · have := congrArg List.length h; simp only [List.length_cons] at this ⊢; omega
          · have := congrArg List.length h; simp only [List.length_cons] at this ⊢; omega
        | cons y Y =>
          rw [List.cons_append] at h2
          obtain ⟨rfl, k2⟩ := List.cons.inj h2
          rcases hr with q | q | ⟨u, e, v, f, q1, q2, q3⟩
          · cases q
          · cases q
          rcases h with (h | h) | h
          · rw [← k1, ← k2] at h
            have e2 := cancel h
            subst e2
            cases X with
            | nil => exact ⟨Nat.le_refl _, Nat.le_refl _⟩
            | cons z Z =>
              exfalso
              have w1 := congrArg List.getLast? q1
              have w2 := congrArg List.getLast? q2
              simp only [List.getLast?_append, List.getLast?_singleton, List.getLast?_cons_cons, Option.some_or] at w1 w2
              rw [w1] at w2
              exact q3 (Option.some.inj w2)
          · rw [← k1, ← k2] at h
            have e2 := cancel (V := y :: Y) (by rw [h]; rfl)
            subst e2
            exfalso
            have w1 := congrArg List.getLast? q1
            have w2 := congrArg List.getLast? q2
            simp only [List.getLast?_append, List.getLast?_singleton, List.getLast?_cons_cons, Option.some_or] at w1 w2
            rw [w1] at w2
            exact q3 (Option.some.inj w2)
          · rw [← k1, ← k2] at h
            have e2 := cancel (U := x :: X) (by rw [← h]; rfl)
            subst e2
            exfalso
            have w1 := congrArg List.getLast? q1
            have w2 := congrArg List.getLast? q2
            simp only [List.getLast?_append, List.getLast?_singleton, List.getLast?_cons_cons, Option.some_or] at w1 w2
            rw [w1] at w2
            exact q3 (Option.some.inj w2)
    · rintro ⟨l1, l2⟩
      match X, Y, l1, l2 with
      | [], [], _, _ =>
        rw [List.nil_append] at h1 h2
        rw [h1] at h2
        exact absurd (List.cons.inj h2).1 hab
      | [], [y], _, _ =>
        rw [List.nil_append] at h1
        rw [List.cons_append, List.nil_append] at h2
        obtain ⟨rfl, k2⟩ := List.cons.inj h2
        exact .inr (by rw [← h1, ← k2])
      | [x], [], _, _ =>
        rw [List.nil_append] at h2
        rw [List.cons_append, List.nil_append] at h1
        obtain ⟨rfl, k1⟩ := List.cons.inj h1
        exact .inl (.inr (by rw [← k1, ← h2]))
      | [x], [y], _, _ =>
        rw [List.cons_append, List.nil_append] at h1 h2
        obtain ⟨rfl, k1⟩ := List.cons.inj h1
        obtain ⟨rfl, k2⟩ := List.cons.inj h2
        exact .inl (.inl (by rw [← k1, ← k2]))
theorem one_self : ∀ A : List Nat, edit1 A A = true
  | [] => rfl
  | a :: A => by rw [edit1, if_pos rfl]; exact one_self A
theorem lev_one (A B : List Nat) : levF A B 2 ≤ 2 ↔ edit1 A B = true := by
  by_cases hne : A = B
  · subst hne
    have : levF A A 2 = 0 := by unfold levF; rw [if_pos rfl]
    rw [this, one_self]
    simp
  · obtain ⟨P, X, Y, S, e1, e2, hd, hr, hl⟩ := levF_split (c := 2) hne
    have hd2 : Diff X Y := by
      rcases hd with h | h | ⟨a, r, b, t, h1, h2, h3⟩
      · exact .inl (List.append_eq_nil_iff.mp h).1
      · exact .inr (.inl (List.append_eq_nil_iff.mp h).1)
      · cases X with
        | nil => exact .inl rfl
        | cons x X =>
          cases Y with
          | nil => exact .inr (.inl rfl)
          | cons y Y =>
            rw [List.cons_append] at h1 h2
            obtain ⟨rfl, _⟩ := List.cons.inj h1
            obtain ⟨rfl, _⟩ := List.cons.inj h2
            exact .inr (.inr ⟨_, _, _, _, rfl, rfl, h3⟩)
    rw [hl, core_small hd2 hr, e1, e2, one_app, one_mid hd hr]
end Mine
end
section
open PySem PySem.W PyProof.Rows PySem.Calls
set_option maxRecDepth 100000
namespace Mine
def diffs : List Int → List Int → Nat
  | f :: fs, g :: gs => (if f = g then 0 else 1) + diffs fs gs
  | _, _ => 0
/-- rows, their letters unlike -/
def Good : List (List Nat) → Prop
  | [] => True
  | r :: rs => (∃ l, 97 ≤ l ∧ (r = [l] ∨ r = [46, l]) ∧ ∀ q ∈ rs, ∃ c t, q = c :: t ∧ c ≠ l) ∧ Good rs
def NotL (l : Nat) (Z : List Nat) : Prop := (∀ t, Z ≠ l :: t) ∧ ∀ t, Z ≠ 10 :: l :: t
theorem diffs_zero : ∀ fs gs : List Int, fs.length = gs.length → (diffs fs gs = 0 ↔ fs = gs)
  | [], [], _ => by simp [diffs]
  | f :: fs, g :: gs, h => by
    have ih := diffs_zero fs gs (by simpa using h)
    unfold diffs
    by_cases e : f = g
    · subst e
      rw [if_pos rfl, Nat.zero_add, ih]
      simp
    · rw [if_neg e]
      simp [e]
theorem spell_inj {rs : List (List Nat)} {fs gs : List Int} (hr : ∀ r ∈ rs, HighRow r) (h1 : fs.length = rs.length) (h2 : gs.length = rs.length) (h3 : Figs fs) (h4 : Figs gs) (h : spell fs rs = spell gs rs) : fs = gs := by
  have a1 := spell_lt rs fs gs hr h1 h2 h3 h4
  have a2 := spell_lt rs gs fs hr h2 h1 h4 h3
  rw [h] at a1 a2
  refine ltL_eq fs gs ?_ ?_
  · cases e : ltL fs gs with
    | false => rfl
    | true => exact absurd (a1.mpr e) (List.lt_irrefl _)
  · cases e : ltL gs fs with
    | false => rfl
    | true => exact absurd (a2.mpr e) (List.lt_irrefl _)
theorem good_high : ∀ {rs : List (List Nat)}, Good rs → ∀ r ∈ rs, HighRow r
  | [], _, _, h => nomatch h
  | r :: rs, ⟨⟨l, hl, hr, _⟩, hg⟩, q, h => by
    rcases List.mem_cons.mp h with rfl | h
    · rcases hr with rfl | rfl
      · exact ⟨l, [], rfl, by omega⟩
      · exact ⟨46, [l], rfl, by omega⟩
    · exact good_high hg q h
theorem notL_spell {l : Nat} (hl : 97 ≤ l) : ∀ (rs : List (List Nat)) (fs : List Int), (∀ q ∈ rs, ∃ c t, q = c :: t ∧ c ≠ l) → Figs fs → NotL l (spell fs rs)
  | [], fs, _, _ => by
    have : spell fs [] = [] := by unfold spell; simp
    rw [this]
    constructor <;> (intro t h; cases h)
  | r :: rs, [], _, _ => by
    have : spell [] (r :: rs) = [] := rfl
    rw [this]
    constructor <;> (intro t h; cases h)
  | r :: rs, f :: fs, hq, hf => by
    obtain ⟨c, t, rfl, hc⟩ := hq r (.head _)
    rw [spell_cons]
    have a1 : (10 : Nat) ≠ l := by omega
    have a2 : (13 : Nat) ≠ l := by omega
    rcases hf f (.head _) with rfl | rfl | rfl
    · exact ⟨fun t h => a1 (List.cons.inj h).1, fun t h => hc (List.cons.inj (List.cons.inj h).2).1⟩
    · exact ⟨fun t h => a2 (List.cons.inj h).1, fun t h => absurd (List.cons.inj h).1 (by decide)⟩
    · exact ⟨fun t h => a2 (List.cons.inj h).1, fun t h => absurd (List.cons.inj h).1 (by decide)⟩
theorem edit_ends {f g : Int} {r X Y : List Nat} {l : Nat} (hl : 97 ≤ l) (hr : r = [l] ∨ r = [46, l]) (hX : NotL l X) (hY : NotL l Y) (hf : f = 0 ∨ f = 1 ∨ f = 2) (hg : g = 0 ∨ g = 1 ∨ g = 2) (hne : f ≠ g) :
    edit1 (endOf3 f ++ (r ++ X)) (endOf3 g ++ (r ++ Y)) = true ↔ X = Y := by
  have a1 : l ≠ 10 := by omega
  have a2 : l ≠ 13 := by omega
  have a3 : l ≠ 46 := by omega
  have x1 : ∀ t, ¬ l :: t = X := fun t h => hX.1 t h.symm
  have y1 : ∀ t, ¬ l :: t = Y := fun t h => hY.1 t h.symm
  have x2 : ∀ t, ¬ X = l :: t := hX.1
  have y2 : ∀ t, ¬ Y = l :: t := hY.1
  have x3 : ∀ t, ¬ 10 :: l :: t = X := fun t h => hX.2 t h.symm
  have y3 : ∀ t, ¬ 10 :: l :: t = Y := fun t h => hY.2 t h.symm
  have x4 : ∀ t, ¬ X = 10 :: l :: t := hX.2
  have y4 : ∀ t, ¬ Y = 10 :: l :: t := hY.2
  rcases hr with rfl | rfl <;> rcases hf with rfl | rfl | rfl <;> rcases hg with rfl | rfl | rfl <;> first | exact absurd rfl hne | simp [endOf3, edit1, a1, a2, a3, Ne.symm a1, Ne.symm a2, Ne.symm a3, x1, x2, x3, x4, y1, y2, y3, y4]
theorem edit_spell : ∀ (rs : List (List Nat)) (fs gs : List Int), Good rs → fs.length = rs.length → gs.length = rs.length → Figs fs → Figs gs → (edit1 (spell fs rs) (spell gs rs) = true ↔ diffs fs gs ≤ 1)
  | [], fs, gs, _, h1, h2, _, _ => by
    obtain rfl : fs = [] := List.length_eq_zero_iff.mp h1
    obtain rfl : gs = [] := List.length_eq_zero_iff.mp h2
    simp [spell, edit1, diffs]
  | r :: rs, fs, gs, hg, h1, h2, h3, h4 => by
    match fs, gs, h1, h2 with
    | f :: fs, g :: gs, h1, h2 =>
      obtain ⟨⟨l, hl, hr, hq⟩, hg'⟩ := hg
      have q1 : fs.length = rs.length := by simpa using h1
      have q2 : gs.length = rs.length := by simpa using h2
      have q3 : Figs fs := fun q hq => h3 q (.tail _ hq)
      have q4 : Figs gs := fun q hq => h4 q (.tail _ hq)
      rw [spell_cons, spell_cons]
      unfold diffs
      by_cases e : f = g
      · subst e
        rw [if_pos rfl, Nat.zero_add, one_app, one_app]
        exact edit_spell rs fs gs hg' q1 q2 q3 q4
      · rw [if_neg e, edit_ends hl hr (notL_spell hl rs fs hq q3) (notL_spell hl rs gs hq q4) (h3 f (.head _)) (h4 g (.head _)) e]
        have := diffs_zero fs gs (by omega)
        constructor
        · intro h
          have := this.mpr (spell_inj (good_high hg') q1 q2 q3 q4 h)
          omega
        · intro h
          rw [this.mp (by omega)]
theorem good_rows {ns : List Int} (hn : ns.length = 8) : Good (rowsOf ns) := by
  obtain ⟨a, b, c, d, h⟩ := rows_form hn
  rw [h]
  have one : ∀ (k : Fin 2) (l : Nat), (List.replicate k.val 46 ++ [l] = [l] ∨ List.replicate k.val 46 ++ [l] = [46, l]) := fun k l => by
    match k with
    | 0 => exact .inl rfl
    | 1 => exact .inr rfl
  have hd : ∀ (k : Fin 2) (l l' : Nat), l' ≠ l → 46 ≠ l → ∃ c t, List.replicate k.val 46 ++ [l'] = c :: t ∧ c ≠ l := fun k l l' h1 h2 => by
    match k with
    | 0 => exact ⟨l', [], rfl, h1⟩
    | 1 => exact ⟨46, [l'], rfl, h2⟩
  refine ⟨⟨97, by decide, one a 97, ?_⟩, ⟨98, by decide, one b 98, ?_⟩, ⟨99, by decide, one c 99, ?_⟩, ⟨100, by decide, one d 100, ?_⟩, trivial⟩
  · intro q hq
    change q ∈ [List.replicate b.val 46 ++ [98], List.replicate c.val 46 ++ [99], List.replicate d.val 46 ++ [100]] at hq
    simp only [List.mem_cons, List.not_mem_nil, or_false] at hq
    rcases hq with rfl | rfl | rfl
    · exact hd b _ _ (by decide) (by decide)
    · exact hd c _ _ (by decide) (by decide)
    · exact hd d _ _ (by decide) (by decide)
  · intro q hq
    change q ∈ [List.replicate c.val 46 ++ [99], List.replicate d.val 46 ++ [100]] at hq
    simp only [List.mem_cons, List.not_mem_nil, or_false] at hq
    rcases hq with rfl | rfl
    · exact hd c _ _ (by decide) (by decide)
    · exact hd d _ _ (by decide) (by decide)
  · intro q hq
    change q ∈ [List.replicate d.val 46 ++ [100]] at hq
    rw [List.mem_singleton.mp hq]
    exact hd d _ _ (by decide) (by decide)
  · intro q hq
    cases hq
theorem agree_diffs {f g : List Int} (hf : f.length = 4) (hg : g.length = 4) : agree f g 4 + diffs f g = 4 := by
  match f, g, hf, hg with
  | [a, b, c, d], [a', b', c', d'], _, _ =>
    unfold agree
    rw [show List.range 4 = [0, 1, 2, 3] from rfl]
    simp only [List.filter_cons, List.filter_nil, List.getD_cons_zero, List.getD_cons_succ, beq_iff_eq, diffs]
    repeat' split
    all_goals simp
/-- the code's words, the places lessened by the bets' own shifts -/
def wordsC : List (List Int) := [[0, 0, 0, 0], [0, 1, 1, 2], [0, 2, 2, 1], [1, 0, 1, 1], [1, 1, 2, 0], [1, 2, 0, 2], [2, 0, 2, 2], [2, 1, 0, 1], [2, 2, 1, 0]]
def coverAll : Bool := [0, 1, 2].all fun a => [0, 1, 2].all fun b => [0, 1, 2].all fun c => [0, 1, 2].all fun d => (wordsC.filter fun w => decide (3 ≤ agree w [a, b, c, d] 4)).length == 1
theorem coverAll_ok : coverAll = true := by decide +kernel
theorem fmod_shift (c v t : Int) (ht : t = 0 ∨ t = 1 ∨ t = 2) : ((c + v).fmod 3 = t) ↔ (c.fmod 3 = (t - v).fmod 3) := by
  rw [Int.fmod_eq_emod_of_nonneg _ (by decide), Int.fmod_eq_emod_of_nonneg _ (by decide), Int.fmod_eq_emod_of_nonneg _ (by decide)]
  omega
theorem agree_shift {x y a b c d e f g h : Int} (he : e = 0 ∨ e = 1 ∨ e = 2) (hf : f = 0 ∨ f = 1 ∨ f = 2) (hg : g = 0 ∨ g = 1 ∨ g = 2) (hh : h = 0 ∨ h = 1 ∨ h = 2) (ns : List Int) :
    agree (betRow (a :: b :: c :: d :: ns) x y) [e, f, g, h] 4 = agree [x.fmod 3, y.fmod 3, (x + y).fmod 3, (x + 2 * y).fmod 3] [(e - a).fmod 3, (f - b).fmod 3, (g - c).fmod 3, (h - d).fmod 3] 4 := by
  unfold agree
  rw [show List.range 4 = [0, 1, 2, 3] from rfl]
  have k1 := fmod_shift x a e he
  have k2 := fmod_shift y b f hf
  have k3 := fmod_shift (x + y) c g hg
  have k4 := fmod_shift (x + 2 * y) d h hh
  simp only [betRow, List.zipWith_cons_cons, List.filter_cons, List.filter_nil, List.getD_cons_zero, List.getD_cons_succ, beq_iff_eq, k1, k2, k3, k4]
theorem cover_ok {ns t : List Int} (hn : ns.length = 8) (ht : t.length = 4) (hf : Figs t) : ((betsOf ns).filter fun b => decide (3 ≤ agree b t 4)).length = 1 := by
  match ns, hn, t, ht with
  | [a, b, c, d, p, q, r, s], _, [e, f, g, h], _ =>
    have he := hf e (.head _)
    have hf' := hf f (.tail _ (.head _))
    have hg := hf g (.tail _ (.tail _ (.head _)))
    have hh := hf h (.tail _ (.tail _ (.tail _ (.head _))))
    have mem : ∀ z : Int, z.fmod 3 ∈ [(0 : Int), 1, 2] := fun z => by
      rcases fmod3 z with h | h | h <;> rw [h] <;> decide
    have hc := coverAll_ok
    unfold coverAll at hc
    simp only [List.all_eq_true] at hc
    have := hc _ (mem (e - a)) _ (mem (f - b)) _ (mem (g - c)) _ (mem (h - d))
    rw [beq_iff_eq] at this
    rw [← this]
    have flen : ∀ (l : List (List Int)) (p : List Int → Bool), (l.filter p).length = ((l.map p).filter id).length := fun l p => by
      rw [List.filter_map, List.length_map]
      rfl
    rw [flen, flen wordsC]
    congr 2
    simp only [betsOf, wordsC, List.map_cons, List.map_nil, agree_shift he hf' hg hh]
    rfl
theorem near_ok {ns : List Int} {bs : List (List Int)} (hn : ns.length = 8) (h : IsSort (betsOf ns) bs) : nearOf ns bs = (meantOf ns bs).map (fun f => spell f (rowsOf ns)) ∧ (meantOf ns bs).length = 1 := by
  obtain ⟨t1, t2⟩ := tenth_ok ns hn
  refine ⟨?_, ?_⟩
  · unfold nearOf meantOf
    rw [List.filter_map]
    congr 1
    refine List.filter_congr fun b hb => ?_
    obtain ⟨b1, b2⟩ := bs_in hn h hb
    dsimp only [Function.comp]
    have e1 := edit_spell (rowsOf ns) (tenthOf ns) b (good_rows hn) (by rw [rows_len hn, t2]) (by rw [rows_len hn, b1]) t1 b2
    have e2 := lev_one (spell (tenthOf ns) (rowsOf ns)) (spell b (rowsOf ns))
    have e3 := agree_diffs b1 t2
    have e4 : diffs b (tenthOf ns) = diffs (tenthOf ns) b := by
      have sym : ∀ x y : List Int, diffs x y = diffs y x := fun x => by
        induction x with
        | nil => intro y; cases y <;> rfl
        | cons u x ih =>
          intro y
          cases y with
          | nil => rfl
          | cons v y =>
            unfold diffs
            rw [ih y]
            by_cases e : u = v
            · rw [if_pos e, if_pos e.symm]
            · rw [if_neg e, if_neg (Ne.symm e)]
      exact sym _ _
    rw [decide_eq_decide, e2, e1]
    omega
  · unfold meantOf
    rw [(h.1.filter _).length_eq]
    exact cover_ok hn t2 t1
end Mine
end
section
open PySem PySem.W PyProof.Rows PySem.Calls
namespace Mine
set_option maxRecDepth 100000
set_option maxHeartbeats 8000000
local macro_rules | `(tactic| walk_at "no key 0") => `(tactic| skip)
local macro_rules | `(tactic| walk_at "no key 1") => `(tactic| skip)
local macro_rules | `(tactic| walk_at "no key 2") => `(tactic| skip)
local macro_rules | `(tactic| walk_at "no key 3") => `(tactic| skip)
local macro_rules | `(tactic| walk_at "no key 4") => `(tactic| skip)
local macro_rules | `(tactic| walk_at "no key 5") => `(tactic| skip)
local macro_rules | `(tactic| walk_at "no key 6") => `(tactic| skip)
local macro_rules | `(tactic| walk_at "no key 7") => `(tactic| skip)
local macro_rules | `(tactic| walk_at "no key 8") => `(tactic| skip)
local macro_rules | `(tactic| walk_at "no key 9") => `(tactic| skip)
local macro_rules | `(tactic| walk_at "no key 10") => `(tactic| skip)
local macro_rules | `(tactic| walk_at "eval Name") => `(tactic| ((try dsimp only); first | (refine cmpName (by assumption) rfl rfl ?_ rfl rfl; (try dsimp only)) | (refine cmpCell (by assumption) rfl rfl ?_ rfl rfl; (try dsimp only))))

theorem t : PySem.Challenge.rw_pg0173_01.Holds := hd (by
  k_go0
  all_goals try k_fold
  rename_i w s₀ s₁ mg mb G Y fa o pm doc ho hg KX X V GL T B TE TW w14 w13 M w12 w11 hcd ks hs hlay0 hL1 hr1 hl2 w9 w8 l vs w5 hL ra w1 r0 hI hr0 hcond hcond2 K0 hD h₁ tk₁ F o5 o4 o3 o2 o1 d5 d4 d3 d2 d1 N0 X0
  have c5 : o5.data = .cell none := d5
  have c4 : o4.data = .cell none := d4
  have c3 : o3.data = .cell none := d3
  have c2 : o2.data = .cell none := d2
  have c1 : o1.data = .cell none := d1
  obtain ⟨m0, F0, q0⟩ : ∃ m, Fr s₁.heap s₁.heap.objs.size h₁ m ∧ has [(Str.ofString "script", .ref l)] m := ⟨_, F, has.cons rfl has.nil⟩
  refine wpAny_mono (E := fun _ _ => False) (Q := fun fl s' => fl = .ret (.bool true) ∧ ∃ h' tk m', s' = { s₁ with heap := h', toks := tk } ∧ Fr s₁.heap s₁.heap.objs.size h' m') ?_ ?_ ?_
  · clear d5 d4 d3 d2 d1 X0 F K0 hcd hD G Y B TE TW M GL qk ek hs hlay0 hL1 hr1 hl2 ra w1 r0 hr0 hcond2 X V hg ho
    refine seqN1 (s := s₁) (g := s₁.heap) (L := s₁.heap.objs.size) (fun m nx => ∃ D k us, has [(Str.ofString "script", .ref l), (Str.ofString "numbers", .ref D)] m ∧ nx = (D, W.listOf us.toArray k) :: [(s₁.heap.objs.size + 1 + 1 + 1 + 1 + 1, o5), (s₁.heap.objs.size + 1 + 1 + 1 + 1, o4), (s₁.heap.objs.size + 1 + 1 + 1, o3), (s₁.heap.objs.size + 1 + 1, o2), (s₁.heap.objs.size + 1, o1)] ∧ s₁.heap.objs.size + 5 < D ∧ IntsAre us (nums ks)) ?_ ?_
    · have F1 := has.fr F0 q0
      clear F0 q0
      iterate 42 (first | (k_unfold; (try dsimp only)) | walk1 | (dsimp only; walk1) | (leave1; (try dsimp only)) | skip)
      refine rest_of (s := Shared.mk _ _ _ _ _) (n := ks.length) (ns := [3, 1, 2, 0, 1, 1, 0, 2]) (by assumption) (by assumption) ⟨_, (by assumption : News _ _ _ (_ :: _ :: _)).get (.head _), rfl, _, rfl⟩ (by repeat constructor) ?_ rfl (by show (8 : Nat) ≤ 1000; decide)
      intro D2 ws2 h2 F2 N2 l2 i2
      dsimp only at F2 N2 l2 ⊢
      iterate 4 (first | (k_unfold; (try dsimp only)) | walk1 | (dsimp only; walk1) | (leave1; (try dsimp only)) | skip)
      rename_i D3 ws3 _ i3 l3 h3 F3 N3
      exact CutN.go F3 (skip1 (skip1 (skip1 N3))) ⟨D3, 0, ws3, has.cons rfl (has.cons rfl has.nil), rfl, l3.2.2.2.1, i3⟩
    rintro ha tka ma _ Fa Na ⟨D3, k3, us, q3, rfl, b3, i3⟩
    clear F0 q0 N0 hI hL hcond
    refine seqN1 (s := s₁) (g := s₁.heap) (L := s₁.heap.objs.size) (fun m nx => ∃ R rv kr o1', has [(Str.ofString "script", .ref l), (Str.ofString "numbers", .ref D3)] m ∧ o1'.data = .cell (some (.ref R)) ∧ nx = (R, W.listOf rv.toArray kr) :: (D3, W.listOf us.toArray k3) :: [(s₁.heap.objs.size + 1 + 1 + 1 + 1 + 1, o5), (s₁.heap.objs.size + 1 + 1 + 1 + 1, o4), (s₁.heap.objs.size + 1 + 1 + 1, o3), (s₁.heap.objs.size + 1 + 1, o2), (s₁.heap.objs.size + 1, o1')] ∧ ((∀ i : Nat, 1 ≤ i → i ≤ 5 → R ≠ s₁.heap.objs.size + i) ∧ R ≠ D3) ∧ StrsAt rv (rowsOf (nums ks))) ?_ ?_
    · have F1 := has.fr Fa q3
      clear Fa q3
      have hl3 : ha.IsList D3 us.toArray := ⟨_, Na.get (.head _), rfl, _, rfl⟩
      have hus : us.length = 8 := by rw [ints_len i3, nums_len]
      refine one ?_
      refine wpAny_Assign_Name ?_ (by rfl)
      refine compR (s := Shared.mk _ _ _ _ _) (cl := []) (names := [Str.ofString "v", Str.ofString "letter"]) (n := 4) (P' := fun i vals => ∃ v c tk, vals = [v, .str ⟨#[c]⟩ tk] ∧ us.toArray[i]? = some v ∧ (Str.ofString "abcd").cps[i]? = some c) (by rfl) (by decide) (by rfl) (by decide) (by decide) (by decide)
        (fun i ys made => made = [] ∧ StrsAt ys ((rowsOf (nums ks)).take i)) ⟨rfl, .nil⟩ ?it ?turn ?done
      case it =>
        iterate 8 (first | (k_unfold; (try dsimp only)) | walk1 | (dsimp only; walk1) | (leave1; (try dsimp only)) | skip)
        exact srcZs (s := Shared.mk _ _ _ _ _) rfl (by show (([97, 98, 99, 100] : List Nat).toArray.all (· < 128)) = true; simp) (by show 4 < us.length; omega) (fun _ _ e => e) (Nat.le_refl _) hl3
      case turn =>
        intro i ys made C h2 tk2 m2 own vals hin hJ hln hP F2 N2
        dsimp only at F2 N2
        rw [List.forIn_nil]
        refine wpAny_pure ?_
        rw [if_pos rfl]
        obtain ⟨v, c, ctk, rfl, hv, hc⟩ := hP
        rw [List.getElem?_toArray] at hv
        obtain ⟨x, xt, rfl, hx⟩ := ints_at i3 hv
        have F3 := has.fr F2 (ps := [(Str.ofString "v", .int x xt), (Str.ofString "letter", .str ⟨#[c]⟩ ctk)]) (has.cons rfl (has.cons rfl has.nil))
        clear F2
        have step : (rowsOf (nums ks)).take (i + 1) = (rowsOf (nums ks)).take i ++ [List.replicate ((x.fdiv 3).fmod 2).toNat 46 ++ [c]] := by
          have hc' : [97, 98, 99, 100][i]? = some c := by
            have h : (([97, 98, 99, 100] : List Nat).toArray)[i]? = some c := hc
            rwa [List.getElem?_toArray] at h
          unfold rowsOf
          rw [List.take_add_one, List.getElem?_zipWith, hx, hc']
          rfl
        iterate 13 (first | (k_unfold; (try dsimp only)) | walk1 | (dsimp only; walk1) | (leave1; (try dsimp only)) | skip)
        refine add_use ?_ fun t' k' => ?_
        · have := mul_dot_len x
          show _ + 1 ≤ _
          omega
        refine EltEnd.mk (by assumption) (by assumption) ⟨hJ.1, ?_⟩
        rw [mul_dot, step]
        exact hJ.2.snoc _ _
      case done =>
        refine compLed F1 Na fun D ys k made h' tk hJ F N hne => ?_
        obtain ⟨rfl, hys⟩ := hJ
        have hlt : ∀ q ∈ [(s₁.heap.objs.size + 1 + 1 + 1 + 1 + 1, o5), (s₁.heap.objs.size + 1 + 1 + 1 + 1, o4), (s₁.heap.objs.size + 1 + 1 + 1, o3), (s₁.heap.objs.size + 1 + 1, o2), (s₁.heap.objs.size + 1, o1)], D ≠ q.1 := fun q hq => hne _ (.head _) q (.tail _ hq)
        have hD3 : D ≠ D3 := hne _ (.head _) _ (.head _)
        refine stCN (own := [(D, _), (D3, _), (s₁.heap.objs.size + 1 + 1 + 1 + 1 + 1, o5), (s₁.heap.objs.size + 1 + 1 + 1 + 1, o4), (s₁.heap.objs.size + 1 + 1 + 1, o3), (s₁.heap.objs.size + 1 + 1, o2)]) (c := s₁.heap.objs.size + 1) (o := o1) (rest := []) F N rfl c1 ?_ (fun _ hp => nomatch hp) (fun h'' o' F' N' hd' => ?_)
        · intro p hp
          simp only [List.mem_cons, List.not_mem_nil, or_false] at hp
          rcases hp with rfl | rfl | rfl | rfl | rfl | rfl
          · exact hlt (s₁.heap.objs.size + 1, o1) (.tail _ (.tail _ (.tail _ (.tail _ (.head _)))))
          · exact cgt (i := 1) b3 (by decide)
          · exact cne _ 5 1 (by decide)
          · exact cne _ 4 1 (by decide)
          · exact cne _ 3 1 (by decide)
          · exact cne _ 2 1 (by decide)
        · refine CutN.go F' N' ⟨D, ys, k, o', has.cons rfl (has.cons rfl has.nil), hd', rfl, ⟨fun i hi1 hi5 => ?_, hD3⟩, ?_⟩
          · obtain rfl | rfl | rfl | rfl | rfl : i = 1 ∨ i = 2 ∨ i = 3 ∨ i = 4 ∨ i = 5 := by omega
            · exact hlt (s₁.heap.objs.size + 1, o1) (.tail _ (.tail _ (.tail _ (.tail _ (.head _)))))
            · exact hlt (s₁.heap.objs.size + 2, o2) (.tail _ (.tail _ (.tail _ (.head _))))
            · exact hlt (s₁.heap.objs.size + 3, o3) (.tail _ (.tail _ (.head _)))
            · exact hlt (s₁.heap.objs.size + 4, o4) (.tail _ (.head _))
            · exact hlt (s₁.heap.objs.size + 5, o5) (.head _)
          · rwa [List.take_of_length_le (by unfold rowsOf; rw [List.length_zipWith, nums_len]; decide)] at hys
    rintro hb tkb mb' _ Fb Nb ⟨R, rv, kr, o1', q4, c1', rfl, b4, i4⟩
    clear Fa Na q3 b3 c1
    refine seqN1 (s := s₁) (g := s₁.heap) (L := s₁.heap.objs.size) (fun m nx => ∃ B kB, has [(Str.ofString "script", .ref l), (Str.ofString "numbers", .ref D3), (Str.ofString "bets", .ref B)] m ∧ nx = (B, W.listOf ([] : List Value).toArray kB) :: (R, W.listOf rv.toArray kr) :: (D3, W.listOf us.toArray k3) :: [(s₁.heap.objs.size + 1 + 1 + 1 + 1 + 1, o5), (s₁.heap.objs.size + 1 + 1 + 1 + 1, o4), (s₁.heap.objs.size + 1 + 1 + 1, o3), (s₁.heap.objs.size + 1 + 1, o2), (s₁.heap.objs.size + 1, o1')] ∧ (∀ q ∈ (R, W.listOf rv.toArray kr) :: (D3, W.listOf us.toArray k3) :: [(s₁.heap.objs.size + 1 + 1 + 1 + 1 + 1, o5), (s₁.heap.objs.size + 1 + 1 + 1 + 1, o4), (s₁.heap.objs.size + 1 + 1 + 1, o3), (s₁.heap.objs.size + 1 + 1, o2), (s₁.heap.objs.size + 1, o1')], B ≠ q.1)) ?_ ?_
    · have F1 := has.fr Fb q4
      clear Fb q4
      iterate 7 (first | (k_unfold; (try dsimp only)) | walk1 | (dsimp only; walk1) | (leave1; (try dsimp only)) | skip)
      refine wpAny_execs_nil ?_
      rename_i B _ l3 h3 F3 N3
      refine CutN.go F3 N3 ?_
      exact ⟨B, 0, has.cons rfl (has.cons rfl (has.cons rfl has.nil)), rfl, fun q hq => by
        simp only [List.mem_cons, List.not_mem_nil, or_false] at hq
        obtain ⟨a1, a2, a3, a4, a5, a6, a7⟩ := l3
        rcases hq with rfl | rfl | rfl | rfl | rfl | rfl | rfl
        · exact Nat.ne_of_gt a1
        · exact Nat.ne_of_gt a2
        · exact Nat.ne_of_gt a3
        · exact Nat.ne_of_gt a4
        · exact Nat.ne_of_gt a5
        · exact Nat.ne_of_gt a6
        · exact Nat.ne_of_gt a7⟩
    rintro hc tkc mc _ Fc Nc ⟨B, kB, q5, rfl, b5⟩
    clear Fb Nb q4 b4
    refine seqN1 (s := s₁) (g := s₁.heap) (L := s₁.heap.objs.size) (fun m nx => ∃ rs ls kB, has [(Str.ofString "script", .ref l), (Str.ofString "numbers", .ref D3), (Str.ofString "bets", .ref B)] m ∧ nx = ls ++ (B, W.listOf rs.toArray kB) :: (R, W.listOf rv.toArray kr) :: (D3, W.listOf us.toArray k3) :: [(s₁.heap.objs.size + 1 + 1 + 1 + 1 + 1, o5), (s₁.heap.objs.size + 1 + 1 + 1 + 1, o4), (s₁.heap.objs.size + 1 + 1 + 1, o3), (s₁.heap.objs.size + 1 + 1, o2), (s₁.heap.objs.size + 1, o1')] ∧ ListsAt rs ls (betsOf (nums ks)) ∧ (∀ p ∈ ls, ∀ q ∈ (B, W.listOf rs.toArray kB) :: (R, W.listOf rv.toArray kr) :: (D3, W.listOf us.toArray k3) :: [(s₁.heap.objs.size + 1 + 1 + 1 + 1 + 1, o5), (s₁.heap.objs.size + 1 + 1 + 1 + 1, o4), (s₁.heap.objs.size + 1 + 1 + 1, o3), (s₁.heap.objs.size + 1 + 1, o2), (s₁.heap.objs.size + 1, o1')], p.1 ≠ q.1)) ?_ ?_
    · have F1 := has.fr Fc q5
      clear Fc q5
      refine one ?_
      refine forG (s := s₁) (n := 3) (P' := fun i v => ∃ t, v = .int (i : Int) t) [B] (fun i m nx => ∃ rs ls kB, has [(Str.ofString "script", .ref l), (Str.ofString "numbers", .ref D3), (Str.ofString "bets", .ref B)] m ∧ nx = ls ++ (B, W.listOf rs.toArray kB) :: (R, W.listOf rv.toArray kr) :: (D3, W.listOf us.toArray k3) :: [(s₁.heap.objs.size + 1 + 1 + 1 + 1 + 1, o5), (s₁.heap.objs.size + 1 + 1 + 1 + 1, o4), (s₁.heap.objs.size + 1 + 1 + 1, o3), (s₁.heap.objs.size + 1 + 1, o2), (s₁.heap.objs.size + 1, o1')] ∧ ListsAt rs ls ((betsOf (nums ks)).take (3 * i)) ∧ (∀ p ∈ ls, ∀ q ∈ (B, W.listOf rs.toArray kB) :: (R, W.listOf rv.toArray kr) :: (D3, W.listOf us.toArray k3) :: [(s₁.heap.objs.size + 1 + 1 + 1 + 1 + 1, o5), (s₁.heap.objs.size + 1 + 1 + 1 + 1, o4), (s₁.heap.objs.size + 1 + 1 + 1, o3), (s₁.heap.objs.size + 1 + 1, o2), (s₁.heap.objs.size + 1, o1')], p.1 ≠ q.1)) rfl rfl rfl ?it ?turn ?done
      case it =>
        iterate 7 (first | (k_unfold; (try dsimp only)) | walk1 | (dsimp only; walk1) | (leave1; (try dsimp only)) | skip)
        rename_i h5 t5 u5 v5 r5 F5 N5 K5
        exact srcRangeG (s := s₁) (n := 3) rfl F5 N5 (fun a ha => by rw [List.mem_singleton.mp ha]; exact ⟨_, (N5 _ (.head _)).1⟩) r5 (by decide) ⟨[], [], kB, has.cons rfl (has.cons rfl (has.cons rfl has.nil)), rfl, .nil, fun _ hp => nomatch hp⟩
      case turn =>
        rintro i _ m₁ _ h tk own hi ⟨ti, rfl⟩ ⟨rs0, ls0, kB0, q6, rfl, la0, off0⟩ hown F6 N6
        have q7 : has [(Str.ofString "script", .ref l), (Str.ofString "numbers", .ref D3), (Str.ofString "bets", .ref B), (Str.ofString "x", .int (i : Int) ti)] (fun y => if y = Str.ofString "x" then some (Value.int (i : Int) ti) else m₁ y) :=
          has.cons (q6 _ (.head _)) (has.cons (q6 _ (.tail _ (.head _))) (has.cons (q6 _ (.tail _ (.tail _ (.head _)))) (has.cons rfl has.nil)))
        have F7 := has.fr F6 q7
        clear F6 q7
        have hownB : ∀ q ∈ own, q.1 ≠ B := fun q hq => hown q hq B (.head _)
        refine wpAny_mono (Q := CutN (fun fl s' => fl = .ret (.bool true) ∧ ∃ h' tk m', s' = { s₁ with heap := h', toks := tk } ∧ Fr s₁.heap s₁.heap.objs.size h' m') s₁.heap s₁.heap.objs.size s₁ (fun m nx => ∃ rs ls kB, has [(Str.ofString "script", .ref l), (Str.ofString "numbers", .ref D3), (Str.ofString "bets", .ref B), (Str.ofString "x", .int (i : Int) ti)] m ∧ nx = (ls ++ (B, W.listOf rs.toArray kB) :: (R, W.listOf rv.toArray kr) :: (D3, W.listOf us.toArray k3) :: [(s₁.heap.objs.size + 1 + 1 + 1 + 1 + 1, o5), (s₁.heap.objs.size + 1 + 1 + 1 + 1, o4), (s₁.heap.objs.size + 1 + 1 + 1, o3), (s₁.heap.objs.size + 1 + 1, o2), (s₁.heap.objs.size + 1, o1')]) ++ own ∧ ListsAt rs ls ((betsOf (nums ks)).take (3 * (i + 1))) ∧ (∀ p ∈ ls, ∀ q ∈ (B, W.listOf rs.toArray kB) :: (R, W.listOf rv.toArray kr) :: (D3, W.listOf us.toArray k3) :: [(s₁.heap.objs.size + 1 + 1 + 1 + 1 + 1, o5), (s₁.heap.objs.size + 1 + 1 + 1 + 1, o4), (s₁.heap.objs.size + 1 + 1 + 1, o3), (s₁.heap.objs.size + 1 + 1, o2), (s₁.heap.objs.size + 1, o1')], p.1 ≠ q.1) ∧ (∀ p ∈ ls, p ∈ ls0 ∨ ∀ q ∈ own, p.1 ≠ q.1))) (one ?_) (fun fl s' hc => ?_) (fun _ _ h => h)
        · refine forG (s := s₁) (n := 3) (P' := fun i v => ∃ t, v = .int (i : Int) t) [B] (fun j m nx => ∃ rs ls kB, has [(Str.ofString "script", .ref l), (Str.ofString "numbers", .ref D3), (Str.ofString "bets", .ref B), (Str.ofString "x", .int (i : Int) ti)] m ∧ nx = (ls ++ (B, W.listOf rs.toArray kB) :: (R, W.listOf rv.toArray kr) :: (D3, W.listOf us.toArray k3) :: [(s₁.heap.objs.size + 1 + 1 + 1 + 1 + 1, o5), (s₁.heap.objs.size + 1 + 1 + 1 + 1, o4), (s₁.heap.objs.size + 1 + 1 + 1, o3), (s₁.heap.objs.size + 1 + 1, o2), (s₁.heap.objs.size + 1, o1')]) ++ own ∧ ListsAt rs ls ((betsOf (nums ks)).take (3 * i + j)) ∧ (∀ p ∈ ls, ∀ q ∈ (B, W.listOf rs.toArray kB) :: (R, W.listOf rv.toArray kr) :: (D3, W.listOf us.toArray k3) :: [(s₁.heap.objs.size + 1 + 1 + 1 + 1 + 1, o5), (s₁.heap.objs.size + 1 + 1 + 1 + 1, o4), (s₁.heap.objs.size + 1 + 1 + 1, o3), (s₁.heap.objs.size + 1 + 1, o2), (s₁.heap.objs.size + 1, o1')], p.1 ≠ q.1) ∧ (∀ p ∈ ls, p ∈ ls0 ∨ ∀ q ∈ own, p.1 ≠ q.1)) rfl rfl rfl ?it2 ?turn2 ?done2
          case it2 =>
            iterate 7 (first | (k_unfold; (try dsimp only)) | walk1 | (dsimp only; walk1) | (leave1; (try dsimp only)) | skip)
            rename_i h5 t5 u5 v5 r5 F5 N5 K5
            exact srcRangeG (s := s₁) (n := 3) rfl F5 N5 (fun a ha => by rw [List.mem_singleton.mp ha]; exact ⟨_, (N5 _ (List.mem_append_left _ (List.mem_append_right _ (.head _)))).1⟩) r5 (by decide) ⟨rs0, ls0, kB0, has.cons rfl (has.cons rfl (has.cons rfl (has.cons rfl has.nil))), rfl, la0, off0, fun p hp => .inl hp⟩
          case turn2 =>
            rintro j _ m₂ _ hj1 tkj own2 hj ⟨tj, rfl⟩ ⟨rs, ls, kB1, q8, rfl, la, off, frs⟩ hown2 F8 N8
            have q9 : has [(Str.ofString "script", .ref l), (Str.ofString "numbers", .ref D3), (Str.ofString "bets", .ref B), (Str.ofString "x", .int (i : Int) ti), (Str.ofString "y", .int (j : Int) tj)] (fun y => if y = Str.ofString "y" then some (Value.int (j : Int) tj) else m₂ y) :=
              has.cons (q8 _ (.head _)) (has.cons (q8 _ (.tail _ (.head _))) (has.cons (q8 _ (.tail _ (.tail _ (.head _)))) (has.cons (q8 _ (.tail _ (.tail _ (.tail _ (.head _))))) (has.cons rfl has.nil))))
            have F9 := has.fr F8 q9
            clear F8 q9
            have hownB2 : ∀ q ∈ own2, q.1 ≠ B := fun q hq => hown2 q hq B (.head _)
            have mB : (B, W.listOf rs.toArray kB1) ∈ ((ls ++ (B, W.listOf rs.toArray kB1) :: (R, W.listOf rv.toArray kr) :: (D3, W.listOf us.toArray k3) :: [(s₁.heap.objs.size + 1 + 1 + 1 + 1 + 1, o5), (s₁.heap.objs.size + 1 + 1 + 1 + 1, o4), (s₁.heap.objs.size + 1 + 1 + 1, o3), (s₁.heap.objs.size + 1 + 1, o2), (s₁.heap.objs.size + 1, o1')]) ++ own) ++ own2 := List.mem_append_left _ (List.mem_append_left _ (List.mem_append_right _ (.head _)))
            have mD3 : (D3, W.listOf us.toArray k3) ∈ ((ls ++ (B, W.listOf rs.toArray kB1) :: (R, W.listOf rv.toArray kr) :: (D3, W.listOf us.toArray k3) :: [(s₁.heap.objs.size + 1 + 1 + 1 + 1 + 1, o5), (s₁.heap.objs.size + 1 + 1 + 1 + 1, o4), (s₁.heap.objs.size + 1 + 1 + 1, o3), (s₁.heap.objs.size + 1 + 1, o2), (s₁.heap.objs.size + 1, o1')]) ++ own) ++ own2 := List.mem_append_left _ (List.mem_append_left _ (List.mem_append_right _ (.tail _ (.tail _ (.head _)))))
            refine one ?_
            iterate 3 (first | (k_unfold; (try dsimp only)) | walk1 | (dsimp only; walk1) | (leave1; (try dsimp only)) | skip)
            refine getMethod_list_append (o := W.listOf rs.toArray kB1) (N8 _ mB).1 rfl rfl ?_
            iterate 2 (first | (k_unfold; (try dsimp only)) | walk1 | (dsimp only; walk1) | (leave1; (try dsimp only)) | skip)
            refine compR (s := Shared.mk _ _ _ _ _) (cl := []) (names := [Str.ofString "figure", Str.ofString "v"]) (n := 4) (P' := fun a vals => ∃ fv v f, vals = [fv, v] ∧ (∃ t, fv = .int f t) ∧ [(i : Int), j, i + j, i + 2 * j][a]? = some f ∧ us.toArray[a]? = some v) (by rfl) (by decide) (by rfl) (by decide) (by decide) (by decide)
              (fun a ys made => made = [] ∧ IntsAre ys ((betRow (nums ks) i j).take a)) ⟨rfl, .nil⟩ ?it3 ?turn3 ?done3
            case it3 =>
              iterate 23 (first | (k_unfold; (try dsimp only)) | walk1 | (dsimp only; walk1) | (leave1; (try dsimp only)) | skip)
              refine newList_use F9 (by show (4 : Nat) ≤ 1000; decide) fun h6 D6 F10 K6 z6 l6 => ?_
              dsimp only at F10 K6 z6 l6 ⊢
              iterate 3 (first | (k_unfold; (try dsimp only)) | walk1 | (dsimp only; walk1) | (leave1; (try dsimp only)) | skip)
              have l7 : h6.IsList D3 us.toArray := ⟨_, K6 _ _ (N8 _ mD3).1, rfl, _, rfl⟩
              have hus : us.length = 8 := by rw [ints_len i3, nums_len]
              refine srcZipN (s := Shared.mk _ _ _ _ _) rfl K6 z6 l6 l7 (by show min 4 us.length = 4; omega) (fun a fv v hf hv => ?_)
              have ha : a < 4 := (Array.getElem?_eq_some_iff.mp hf).1
              rw [List.getElem?_toArray] at hf
              obtain rfl | rfl | rfl | rfl : a = 0 ∨ a = 1 ∨ a = 2 ∨ a = 3 := by omega
              · exact ⟨fv, v, _, rfl, ⟨_, (Option.some.inj hf).symm⟩, rfl, hv⟩
              · exact ⟨fv, v, _, rfl, ⟨_, (Option.some.inj hf).symm⟩, rfl, hv⟩
              · exact ⟨fv, v, _, rfl, ⟨_, (Option.some.inj hf).symm⟩, rfl, hv⟩
              · exact ⟨fv, v, _, rfl, ⟨_, (Option.some.inj hf).symm⟩, rfl, hv⟩
            case turn3 =>
              intro a ys made C h2 tk2 m2 own vals hin hJ hln hP F2 N2
              dsimp only at F2 N2
              rw [List.forIn_nil]
              refine wpAny_pure ?_
              rw [if_pos rfl]
              obtain ⟨_, v, f, rfl, ⟨ft, rfl⟩, hf, hv⟩ := hP
              rw [List.getElem?_toArray] at hv
              obtain ⟨x, xt, rfl, hx⟩ := ints_at i3 hv
              have F3 := has.fr F2 (ps := [(Str.ofString "figure", .int f ft), (Str.ofString "v", .int x xt)]) (has.cons rfl (has.cons rfl has.nil))
              clear F2
              have step : (betRow (nums ks) i j).take (a + 1) = (betRow (nums ks) i j).take a ++ [(f + x).fmod 3] := by
                unfold betRow
                rw [List.take_add_one, List.getElem?_zipWith, hx, hf]
                rfl
              iterate 8 (first | (k_unfold; (try dsimp only)) | walk1 | (dsimp only; walk1) | (leave1; (try dsimp only)) | skip)
              refine EltEnd.mk (by assumption) (by assumption) ⟨hJ.1, ?_⟩
              rw [step]
              exact hJ.2.append (.cons _ _ .nil)
            case done3 =>
              refine compLed F9 N8 fun D ys k made h' tk hJ F N hne => ?_
              obtain ⟨rfl, hys⟩ := hJ
              have hDB : D ≠ B := hne _ (.head _) _ mB
              rw [List.take_of_length_le (by unfold betRow; rw [List.length_zipWith, nums_len]; exact Nat.min_le_left 4 8)] at hys
              have N' : News s₁.heap s₁.heap.objs.size h' (((D, W.listOf ys.toArray k) :: ls) ++ (B, W.listOf rs.toArray kB1) :: ((R, W.listOf rv.toArray kr) :: (D3, W.listOf us.toArray k3) :: [(s₁.heap.objs.size + 1 + 1 + 1 + 1 + 1, o5), (s₁.heap.objs.size + 1 + 1 + 1 + 1, o4), (s₁.heap.objs.size + 1 + 1 + 1, o3), (s₁.heap.objs.size + 1 + 1, o2), (s₁.heap.objs.size + 1, o1')] ++ own ++ own2)) := by simpa using N
              iterate 1 (first | (k_unfold; (try dsimp only)) | walk1 | (dsimp only; walk1) | (leave1; (try dsimp only)) | skip)
              refine append_use F N' (fun p hp => ?_) (fun p hp => ?_) (by rw [la.len.1]; exact Nat.le_trans (List.length_take_le' _ _) (by rw [betsOf_len]; decide)) fun h7 k7 F7 N7 => ?_
              · rcases List.mem_cons.mp hp with rfl | hp
                · exact hDB
                · exact off p hp _ (.head _)
              · rcases List.mem_append.mp hp with hp | hp
                · rcases List.mem_append.mp hp with hp | hp
                  · exact (b5 p hp).symm
                  · exact hownB p hp
                · exact hownB2 p hp
              · refine TurnG.go F7 (nx := ((ls ++ [(D, W.listOf ys.toArray k)]) ++ (B, W.listOf (rs ++ [Value.ref D]).toArray k7) :: (R, W.listOf rv.toArray kr) :: (D3, W.listOf us.toArray k3) :: [(s₁.heap.objs.size + 1 + 1 + 1 + 1 + 1, o5), (s₁.heap.objs.size + 1 + 1 + 1 + 1, o4), (s₁.heap.objs.size + 1 + 1 + 1, o3), (s₁.heap.objs.size + 1 + 1, o2), (s₁.heap.objs.size + 1, o1')]) ++ own) (fun p hp => N7 p ?_) (fun p hp => ?_) ⟨rs ++ [.ref D], ls ++ [(D, W.listOf ys.toArray k)], k7, has.cons rfl (has.cons rfl (has.cons rfl (has.cons rfl has.nil))), rfl, ?_, ?_, ?_⟩
                · simp only [List.mem_append, List.mem_cons, List.not_mem_nil, or_false] at hp ⊢
                  grind
                · rcases List.mem_append.mp hp with hp | hp
                  · rcases List.mem_append.mp hp with hp | hp
                    · rcases List.mem_append.mp hp with hp | hp
                      · exact .inl (List.mem_map.mpr ⟨p, List.mem_append_left _ (List.mem_append_left _ hp), rfl⟩)
                      · rw [List.mem_singleton.mp hp]
                        exact .inr fun q hq => hne _ (.head _) q (List.mem_append_right _ hq)
                    · rcases List.mem_cons.mp hp with rfl | hp
                      · exact .inl (List.mem_map.mpr ⟨(B, W.listOf rs.toArray kB1), List.mem_append_left _ (List.mem_append_right _ (.head _)), rfl⟩)
                      · exact .inl (List.mem_map.mpr ⟨p, List.mem_append_left _ (List.mem_append_right _ (.tail _ hp)), rfl⟩)
                  · exact .inl (List.mem_map.mpr ⟨p, List.mem_append_right _ hp, rfl⟩)
                · rw [show 3 * i + (j + 1) = (3 * i + j) + 1 by omega, bets_step (nums ks) hi hj]
                  exact la.snoc D ys k _ hys
                · intro p hp q hq
                  rcases List.mem_append.mp hp with hp | hp
                  · rcases List.mem_cons.mp hq with rfl | hq
                    · exact off p hp (B, W.listOf rs.toArray kB1) (.head _)
                    · exact off p hp q (.tail _ hq)
                  · rw [List.mem_singleton.mp hp]
                    rcases List.mem_cons.mp hq with rfl | hq
                    · exact hDB
                    · exact hne _ (.head _) q (List.mem_append_left _ (List.mem_append_left _ (List.mem_append_right _ (.tail _ hq))))
                · intro p hp
                  rcases List.mem_append.mp hp with hp | hp
                  · exact frs p hp
                  · rw [List.mem_singleton.mp hp]
                    exact .inr fun q hq => hne _ (.head _) q (List.mem_append_left _ (List.mem_append_right _ hq))
          case done2 =>
            rintro m nx ⟨rs, ls, kB, a, b, c, d⟩
            exact ⟨rs, ls, kB, a, b, c, d⟩
        · rcases hc with ⟨rfl, h', tk', m', nx, rfl, F', N', rs, ls, kB', a, rfl, c, d, e⟩ | ⟨⟨v, rfl⟩, hq⟩
          · refine TurnG.go F' N' (fun p hp => ?_) ⟨rs, ls, kB', has.cons (a _ (.head _)) (has.cons (a _ (.tail _ (.head _))) (has.cons (a _ (.tail _ (.tail _ (.head _)))) has.nil)), rfl, c, d⟩
            rcases List.mem_append.mp hp with hp | hp
            · rcases e p hp with h1 | h1
              · exact .inl (List.mem_map.mpr ⟨p, List.mem_append_left _ h1, rfl⟩)
              · exact .inr h1
            · rcases List.mem_cons.mp hp with rfl | hp
              · exact .inl (List.mem_map.mpr ⟨(B, W.listOf rs0.toArray kB0), List.mem_append_right _ (.head _), rfl⟩)
              · exact .inl (List.mem_map.mpr ⟨p, List.mem_append_right _ (.tail _ hp), rfl⟩)
          · exact .inr ⟨⟨v, rfl⟩, hq⟩
      case done =>
        rintro m nx ⟨rs, ls, kB, a, b, c, d⟩
        exact ⟨rs, ls, kB, a, b, by rwa [List.take_of_length_le (by rw [betsOf_len]; decide)] at c, d⟩
    rintro hd1 tkd md _ Fd Nd ⟨rs, ls, kB2, q10, rfl, la, off⟩
    clear Fc Nc q5
    refine seqN1 (s := s₁) (g := s₁.heap) (L := s₁.heap.objs.size) (fun m nx => ∃ S kS, has [(Str.ofString "script", .ref l), (Str.ofString "numbers", .ref D3), (Str.ofString "bets", .ref B), (Str.ofString "shelf", .ref S)] m ∧ nx = (S, W.listOf ([] : List Value).toArray kS) :: (ls ++ (B, W.listOf rs.toArray kB2) :: (R, W.listOf rv.toArray kr) :: (D3, W.listOf us.toArray k3) :: [(s₁.heap.objs.size + 1 + 1 + 1 + 1 + 1, o5), (s₁.heap.objs.size + 1 + 1 + 1 + 1, o4), (s₁.heap.objs.size + 1 + 1 + 1, o3), (s₁.heap.objs.size + 1 + 1, o2), (s₁.heap.objs.size + 1, o1')]) ∧ (∀ q ∈ ls ++ (B, W.listOf rs.toArray kB2) :: (R, W.listOf rv.toArray kr) :: (D3, W.listOf us.toArray k3) :: [(s₁.heap.objs.size + 1 + 1 + 1 + 1 + 1, o5), (s₁.heap.objs.size + 1 + 1 + 1 + 1, o4), (s₁.heap.objs.size + 1 + 1 + 1, o3), (s₁.heap.objs.size + 1 + 1, o2), (s₁.heap.objs.size + 1, o1')], S ≠ q.1)) ?_ ?_
    · have F1 := has.fr Fd q10
      clear Fd q10
      refine one ?_
      refine wpAny_Assign_Name ?_ (by rfl)
      iterate 2 (first | (k_unfold; (try dsimp only)) | walk1 | (dsimp only; walk1) | (leave1; (try dsimp only)) | skip)
      refine newListN F1 Nd (by decide) fun h8 S F8 N8 hne => ?_
      refine stLocN F8 N8 fun h9 F9 N9 => ?_
      exact CutN.go F9 N9 ⟨S, 0, has.cons rfl (has.cons rfl (has.cons rfl (has.cons rfl has.nil))), rfl, hne⟩
    rintro he tke me _ Fe Ne ⟨S, kS, q11, rfl, offS⟩
    clear Fd Nd q10
    refine seqN1 (s := s₁) (g := s₁.heap) (L := s₁.heap.objs.size) (fun m nx => ∃ sv, has [(Str.ofString "script", .ref l), (Str.ofString "numbers", .ref D3), (Str.ofString "bets", .ref B), (Str.ofString "shelf", .ref S)] m ∧ LAt nx D3 us ∧ LAt nx R rv ∧ LAt nx S sv ∧ LAt nx B rs ∧ RowsAt nx rs (betsOf (nums ks)) ∧ CAt nx (s₁.heap.objs.size + 1) (some (.ref R)) ∧ CAt nx (s₁.heap.objs.size + 1 + 1) none ∧ CAt nx (s₁.heap.objs.size + 1 + 1 + 1) none ∧ CAt nx (s₁.heap.objs.size + 1 + 1 + 1 + 1) none ∧ CAt nx (s₁.heap.objs.size + 1 + 1 + 1 + 1 + 1) none ∧ StrsAt sv (((betsOf (nums ks)).map fun f => spell f (rowsOf (nums ks))).foldl insL [])) ?_ ?_
    · have F1 := has.fr Fe q11
      clear Fe q11
      have hSB : S ≠ B := offS (B, W.listOf rs.toArray kB2) (List.mem_append_right _ (.head _))
      have mB : (B, W.listOf rs.toArray kB2) ∈ (S, W.listOf ([] : List Value).toArray kS) :: (ls ++ (B, W.listOf rs.toArray kB2) :: (R, W.listOf rv.toArray kr) :: (D3, W.listOf us.toArray k3) :: [(s₁.heap.objs.size + 1 + 1 + 1 + 1 + 1, o5), (s₁.heap.objs.size + 1 + 1 + 1 + 1, o4), (s₁.heap.objs.size + 1 + 1 + 1, o3), (s₁.heap.objs.size + 1 + 1, o2), (s₁.heap.objs.size + 1, o1')]) := .tail _ (List.mem_append_right _ (.head _))
      refine one ?_
      refine forG (s := s₁) (n := 9) (P' := fun i v => rs[i]? = some v) [S] (fun i m nx => ∃ sv kS, has [(Str.ofString "script", .ref l), (Str.ofString "numbers", .ref D3), (Str.ofString "bets", .ref B), (Str.ofString "shelf", .ref S)] m ∧ nx = (S, W.listOf sv.toArray kS) :: (ls ++ (B, W.listOf rs.toArray kB2) :: (R, W.listOf rv.toArray kr) :: (D3, W.listOf us.toArray k3) :: [(s₁.heap.objs.size + 1 + 1 + 1 + 1 + 1, o5), (s₁.heap.objs.size + 1 + 1 + 1 + 1, o4), (s₁.heap.objs.size + 1 + 1 + 1, o3), (s₁.heap.objs.size + 1 + 1, o2), (s₁.heap.objs.size + 1, o1')]) ∧ StrsAt sv ((((betsOf (nums ks)).map fun f => spell f (rowsOf (nums ks))).take i).foldl insL [])) rfl rfl rfl ?it ?turn ?done
      case it =>
        iterate 1 (first | (k_unfold; (try dsimp only)) | walk1 | (dsimp only; walk1) | (leave1; (try dsimp only)) | skip)
        have hlB : he.IsList B rs.toArray := ⟨_, Ne.get mB, rfl, _, rfl⟩
        exact srcListN (s := s₁) rfl F1 Ne hlB (Ne _ mB).2.1 (fun a ha => by rw [List.mem_singleton.mp ha]; exact ⟨hSB, _, (Ne _ (.head _)).1⟩) (by rw [la.len.1]; rfl) ⟨[], kS, has.cons rfl (has.cons rfl (has.cons rfl (has.cons rfl has.nil))), rfl, .nil⟩
      case turn =>
        rintro i v m₁ _ h tk own hi hv ⟨sv, kS1, q12, rfl, hsv⟩ hown F N
        obtain ⟨D, vsD, kD, ns, rfl, memD, hID, hns⟩ := la.at hv
        have q13 : has [(Str.ofString "script", .ref l), (Str.ofString "numbers", .ref D3), (Str.ofString "bets", .ref B), (Str.ofString "shelf", .ref S), (Str.ofString "bet", .ref D)] (fun y => if y = Str.ofString "bet" then some (Value.ref D) else m₁ y) :=
          has.cons (q12 _ (.head _)) (has.cons (q12 _ (.tail _ (.head _))) (has.cons (q12 _ (.tail _ (.tail _ (.head _)))) (has.cons (q12 _ (.tail _ (.tail _ (.tail _ (.head _))))) (has.cons rfl has.nil))))
        have F1 := has.fr F q13
        clear F q13
        refine one ?_
        iterate 13 (first | (k_unfold; (try dsimp only)) | walk1 | (dsimp only; walk1) | (leave1; (try dsimp only)) | skip)
        refine ldCN N rfl (List.mem_append_left _ (.tail _ (List.mem_append_right _ (.tail _ (.tail _ (.tail _ (.tail _ (.tail _ (.tail _ (.tail _ (.head _)))))))))))  c1' ?_
        iterate 1 (first | (k_unfold; (try dsimp only)) | walk1 | (dsimp only; walk1) | (leave1; (try dsimp only)) | skip)
        refine ⟨fun a o e => F1.keep _ _ (KX a o e), ?_⟩
        have hmem := List.mem_of_getElem? hns
        have lD : LAt ((S, W.listOf sv.toArray kS1) :: (ls ++ (B, W.listOf rs.toArray kB2) :: (R, W.listOf rv.toArray kr) :: (D3, W.listOf us.toArray k3) :: [(s₁.heap.objs.size + 1 + 1 + 1 + 1 + 1, o5), (s₁.heap.objs.size + 1 + 1 + 1 + 1, o4), (s₁.heap.objs.size + 1 + 1 + 1, o3), (s₁.heap.objs.size + 1 + 1, o2), (s₁.heap.objs.size + 1, o1')]) ++ own) D vsD := ⟨kD, List.mem_append_left _ (.tail _ (List.mem_append_left _ memD))⟩
        have lR : LAt ((S, W.listOf sv.toArray kS1) :: (ls ++ (B, W.listOf rs.toArray kB2) :: (R, W.listOf rv.toArray kr) :: (D3, W.listOf us.toArray k3) :: [(s₁.heap.objs.size + 1 + 1 + 1 + 1 + 1, o5), (s₁.heap.objs.size + 1 + 1 + 1 + 1, o4), (s₁.heap.objs.size + 1 + 1 + 1, o3), (s₁.heap.objs.size + 1 + 1, o2), (s₁.heap.objs.size + 1, o1')]) ++ own) R rv := ⟨kr, List.mem_append_left _ (.tail _ (List.mem_append_right _ (.tail _ (.head _))))⟩
        refine spelled_use (s := Shared.mk _ _ _ _ _) F1 N KX T rfl (by dsimp only [Around.deeper]; decide) (by dsimp only [Around.deeper]; decide) (lD.list N) (lR.list N) hID i4 (bets_ok hmem).1 (Nat.le_trans (bets_ok hmem).2 (by decide)) (fun r hr => Nat.le_trans (rows_ok hr) (by decide)) fun t' h' tk' F2 N2 => ?_
        have hlen : sv.length = i := by rw [hsv.len, insL_fold_len, List.length_take, List.length_map, betsOf_len]; simp; omega
        have hrest : ∀ p ∈ (ls ++ (B, W.listOf rs.toArray kB2) :: (R, W.listOf rv.toArray kr) :: (D3, W.listOf us.toArray k3) :: [(s₁.heap.objs.size + 1 + 1 + 1 + 1 + 1, o5), (s₁.heap.objs.size + 1 + 1 + 1 + 1, o4), (s₁.heap.objs.size + 1 + 1 + 1, o3), (s₁.heap.objs.size + 1 + 1, o2), (s₁.heap.objs.size + 1, o1')]) ++ own, p.1 ≠ S := fun p hp => by
          rcases List.mem_append.mp hp with hp | hp
          · exact (offS p hp).symm
          · exact hown p hp S (.head _)
        dsimp only at F2 N2 ⊢
        iterate 2 (first | (k_unfold; (try dsimp only)) | walk1 | (dsimp only; walk1) | (leave1; (try dsimp only)) | skip)
        refine insort_use (s := Shared.mk _ _ _ _ _) (lt := fun j => decide (spell ns (rowsOf (nums ks)) < ((((betsOf (nums ks)).map fun f => spell f (rowsOf (nums ks))).take i).foldl insL []).getD j [])) F2 N2 hrest KX T rfl (by dsimp only [Around.deeper]; decide) (by dsimp only [Around.deeper]; decide) (by omega) (fun j v hv => ?_) fun h3 tk3 F3 N3 => ?_
        · obtain ⟨y, ty, rfl, hy⟩ := hsv.at hv
          dsimp only
          rw [List.getD_eq_getElem?_getD, hy, Option.getD_some]
          exact ltOk_str _ _ _ _ _ _ _
        dsimp only at F3 N3 ⊢
        refine TurnG.go F3 (nx := (S, W.listOf _ (kS1 + 1)) :: (ls ++ (B, W.listOf rs.toArray kB2) :: (R, W.listOf rv.toArray kr) :: (D3, W.listOf us.toArray k3) :: [(s₁.heap.objs.size + 1 + 1 + 1 + 1 + 1, o5), (s₁.heap.objs.size + 1 + 1 + 1 + 1, o4), (s₁.heap.objs.size + 1 + 1 + 1, o3), (s₁.heap.objs.size + 1 + 1, o2), (s₁.heap.objs.size + 1, o1')])) N3 (fun p hp => .inl ?_) ⟨_, _, has.cons rfl (has.cons rfl (has.cons rfl (has.cons rfl has.nil))), rfl, ?_⟩
        · rcases List.mem_cons.mp hp with rfl | hp
          · exact .head _
          · exact .tail _ (List.mem_map.mpr ⟨p, hp, rfl⟩)
        · have hstep : (((betsOf (nums ks)).map fun f => spell f (rowsOf (nums ks))).take (i + 1)) = (((betsOf (nums ks)).map fun f => spell f (rowsOf (nums ks))).take i) ++ [spell ns (rowsOf (nums ks))] := by
            rw [List.take_add_one, List.getElem?_map, hns]
            rfl
          rw [hstep, List.foldl_append]
          have h9 := hsv.ins (spell ns (rowsOf (nums ks))) t' (bisR (fun j => decide (spell ns (rowsOf (nums ks)) < ((((betsOf (nums ks)).map fun f => spell f (rowsOf (nums ks))).take i).foldl insL []).getD j [])) sv.length 0 sv.length)
          rw [List.foldl_cons, List.foldl_nil]
          conv => rhs; unfold insL
          dsimp only
          rw [hsv.len] at h9 ⊢
          exact h9
      case done =>
        rintro m nx ⟨sv, kS, a, rfl, c⟩
        refine ⟨sv, a, ⟨k3, ?_⟩, ⟨kr, ?_⟩, ⟨kS, ?_⟩, ⟨kB2, ?_⟩, la.rows fun p hp => .tail _ (List.mem_append_left _ hp), ⟨o1', ?_, c1'⟩, ⟨o2, ?_, c2⟩, ⟨o3, ?_, c3⟩, ⟨o4, ?_, c4⟩, ⟨o5, ?_, c5⟩, by rwa [List.take_of_length_le (by rw [List.length_map, betsOf_len]; decide)] at c⟩
        all_goals simp
    rintro hf tkf mf nf Ff Nf ⟨sv, q14, lD3, lR, lS, lB, rB, cR, cT, cX, cM, cS, hsv⟩
    clear Fe Ne q11 la off offS b5 c1' c2 c3 c4 c5
    refine seqN1 (s := s₁) (g := s₁.heap) (L := s₁.heap.objs.size) (fun m nx => ∃ B rs bs, has [(Str.ofString "script", .ref l), (Str.ofString "numbers", .ref D3), (Str.ofString "bets", .ref B), (Str.ofString "shelf", .ref S)] m ∧ LAt nx D3 us ∧ LAt nx R rv ∧ LAt nx S sv ∧ LAt nx B rs ∧ RowsAt nx rs bs ∧ CAt nx (s₁.heap.objs.size + 1) (some (.ref R)) ∧ CAt nx (s₁.heap.objs.size + 1 + 1) none ∧ CAt nx (s₁.heap.objs.size + 1 + 1 + 1) none ∧ CAt nx (s₁.heap.objs.size + 1 + 1 + 1 + 1) none ∧ CAt nx (s₁.heap.objs.size + 1 + 1 + 1 + 1 + 1) none ∧ IsSort (betsOf (nums ks)) bs) ?_ ?_
    · have F1 := has.fr Ff q14
      clear Ff q14
      refine one ?_
      refine wpAny_Assign_Name ?_ (by rfl)
      iterate 6 (first | (k_unfold; (try dsimp only)) | walk1 | (dsimp only; walk1) | (leave1; (try dsimp only)) | skip)
      refine sorted_rows (s := Shared.mk _ _ _ _ _) F1 Nf lB rB (by rw [betsOf_len]; decide) (by rw [betsOf_len]; decide) (by dsimp only [Around.deeper, Around.in1]; decide) fun D ys bs h' nx' F2 N2 hup l2 r2 hs => ?_
      dsimp only at F2 N2 ⊢
      refine stLocN F2 N2 fun h3 F3 N3 => ?_
      exact CutN.go F3 N3 ⟨D, ys, bs, has.cons rfl (has.cons rfl (has.cons rfl (has.cons rfl has.nil))), lD3.mono hup, lR.mono hup, lS.mono hup, l2, r2, cR.mono hup, cT.mono hup, cX.mono hup, cM.mono hup, cS.mono hup, hs⟩
    clear lB rB lD3 lR lS cR cT cX cM cS Ff Nf q14
    rintro hg7 tkg mg7 ng Fg Ng ⟨B', rs', bs, q15, lD3, lR, lS, lB, rB, cR, cT, cX, cM, cS, hbs⟩
    refine seqN1 (s := s₁) (g := s₁.heap) (L := s₁.heap.objs.size) (fun m nx => has [(Str.ofString "script", .ref l), (Str.ofString "numbers", .ref D3), (Str.ofString "bets", .ref B'), (Str.ofString "shelf", .ref S)] m ∧ LAt nx D3 us ∧ LAt nx R rv ∧ LAt nx S sv ∧ LAt nx B' rs' ∧ RowsAt nx rs' bs ∧ CAt nx (s₁.heap.objs.size + 1) (some (.ref R)) ∧ CAt nx (s₁.heap.objs.size + 1 + 1) none ∧ CAt nx (s₁.heap.objs.size + 1 + 1 + 1) none ∧ CAt nx (s₁.heap.objs.size + 1 + 1 + 1 + 1) none ∧ CAt nx (s₁.heap.objs.size + 1 + 1 + 1 + 1 + 1) none) ?_ ?_
    · have F1 := has.fr Fg q15
      clear Fg q15
      refine one ?_
      refine ifSkip ?_
      iterate 2 (first | (k_unfold; (try dsimp only)) | walk1 | (dsimp only; walk1) | (leave1; (try dsimp only)) | skip)
      have X7 := KX.keeps F1.keep
      have T7 := T.keeps F1.keep
      have hlb : bs.length = 9 := by rw [hbs.1.length_eq, betsOf_len]
      refine compR (s := Shared.mk _ _ _ _ _) (cl := [(Str.ofString "rows", s₁.heap.objs.size + 1)]) (names := [Str.ofString "bet"]) (n := 9) (P' := fun i vals => ∃ v, vals = [v] ∧ rs'[i]? = some v) (by rfl) (by decide) (by rfl) (by decide) (by decide) (by decide)
        (fun i ys made => made = [] ∧ StrsAt ys ((bs.take i).map fun f => spell f (rowsOf (nums ks)))) ⟨rfl, .nil⟩ ?it ?turn ?done
      case it =>
        iterate 1 (first | (k_unfold; (try dsimp only)) | walk1 | (dsimp only; walk1) | (leave1; (try dsimp only)) | skip)
        have hl9 : hg7.IsList B' rs'.toArray := lB.list Ng
        exact srcListS (s := Shared.mk _ _ _ _ _) rfl (fun _ _ e => e) (Nat.le_refl _) hl9 (by rw [rB.len, hlb])
      case turn =>
        intro i ys made C h2 tk2 m2 own vals hin hJ hln hP F2 N2
        dsimp only at F2 N2
        rw [List.forIn_nil]
        refine wpAny_pure ?_
        rw [if_pos rfl]
        obtain ⟨v, rfl, hv⟩ := hP
        obtain ⟨D, vsD, ns, rfl, lD, hI, hns⟩ := rB.at hv
        have F3 := has.fr F2 (ps := [(Str.ofString "bet", .ref D)]) (has.cons rfl has.nil)
        have hcell : h2.IsCell (s₁.heap.objs.size + 1) (some (.ref R)) := cell_kept F2.keep (cR.cell Ng)
        clear F2
        iterate 10 (first | (k_unfold; (try dsimp only)) | walk1 | (dsimp only; walk1) | (leave1; (try dsimp only)) | skip)
        have hok := bets_ok (hbs.1.mem_iff.mp (List.mem_of_getElem? hns))
        refine spelled_use (s := Shared.mk _ _ _ _ _) F3 N2 X7 T7 rfl (by dsimp only [Around.deeper]; decide) (by dsimp only [Around.deeper]; decide) (list_kept F3.keep (lD.list Ng)) (list_kept F3.keep (lR.list Ng)) hI i4 hok.1 (Nat.le_trans hok.2 (by decide)) (fun r hr => Nat.le_trans (rows_ok hr) (by decide)) fun t' h' tk' F4 N4 => ?_
        refine EltEnd.mk F4 N4 ⟨hJ.1, ?_⟩
        have hst : (bs.take (i + 1)).map (fun f => spell f (rowsOf (nums ks))) = (bs.take i).map (fun f => spell f (rowsOf (nums ks))) ++ [spell ns (rowsOf (nums ks))] := by
          rw [List.take_add_one, hns, List.map_append]
          rfl
        rw [hst]
        exact hJ.2.snoc _ _
      case done =>
        refine compLed F1 Ng fun D ys k made h' tk hJ F N hne => ?_
        obtain ⟨rfl, hys⟩ := hJ
        rw [List.take_of_length_le (by omega)] at hys
        dsimp only at F N ⊢
        have hup : ∀ p ∈ ng, p ∈ (D, W.listOf ys.toArray k) :: ([] ++ ng) := fun p hp => .tail _ hp
        refine ne_strs (s := Shared.mk _ _ _ _ _) ((lS.mono hup).list N) (LAt.list ⟨k, .head _⟩ N) hsv (by rw [shelf_ok (nums_len ks) hbs]; exact hys) (by dsimp only [Around.deeper, Around.in1]; decide) ?_
        iterate 3 (first | (k_unfold; (try dsimp only)) | walk1 | (dsimp only; walk1) | (leave1; (try dsimp only)) | skip)
        exact CutN.go F N ⟨has.cons rfl (has.cons rfl (has.cons rfl (has.cons rfl has.nil))), lD3.mono hup, lR.mono hup, lS.mono hup, lB.mono hup, rB.up (fun a vs l => l.mono hup), cR.mono hup, cT.mono hup, cX.mono hup, cM.mono hup, cS.mono hup⟩
    rw [shelf_ok (nums_len ks) hbs] at hsv
    clear lB rB lD3 lR lS cR cT cX cM cS Fg Ng q15
    rintro hg8 tkg8 mg8 nh Fh Nh ⟨q16, lD3, lR, lS, lB, rB, cR, cT, cX, cM, cS⟩
    refine seqN1 (s := s₁) (g := s₁.heap) (L := s₁.heap.objs.size) (fun m nx => ∃ E ts, has [(Str.ofString "script", .ref l), (Str.ofString "numbers", .ref D3), (Str.ofString "bets", .ref B'), (Str.ofString "shelf", .ref S)] m ∧ LAt nx R rv ∧ LAt nx S sv ∧ LAt nx B' rs' ∧ RowsAt nx rs' bs ∧ CAt nx (s₁.heap.objs.size + 1) (some (.ref R)) ∧ LAt nx E ts ∧ IntsAre ts (tenthOf (nums ks)) ∧ CAt nx (s₁.heap.objs.size + 1 + 1) (some (.ref E)) ∧ CAt nx (s₁.heap.objs.size + 1 + 1 + 1) none ∧ CAt nx (s₁.heap.objs.size + 1 + 1 + 1 + 1) none ∧ CAt nx (s₁.heap.objs.size + 1 + 1 + 1 + 1 + 1) none) ?_ ?_
    · have F1 := has.fr Fh q16
      clear Fh q16
      refine one ?_
      refine wpAny_Assign_Name ?_ (by rfl)
      have hus : us.length = 8 := by rw [ints_len i3, nums_len]
      refine compR (s := Shared.mk _ _ _ _ _) (cl := []) (names := [Str.ofString "v"]) (n := 4) (P' := fun i vals => ∃ x t, vals = [.int x t] ∧ ((nums ks).drop 4)[i]? = some x) (by rfl) (by decide) (by rfl) (by decide) (by decide) (by decide)
        (fun i ys made => made = [] ∧ IntsAre ys ((tenthOf (nums ks)).take i)) ⟨rfl, .nil⟩ ?it ?turn ?done
      case it =>
        iterate 7 (first | (k_unfold; (try dsimp only)) | walk1 | (dsimp only; walk1) | (leave1; (try dsimp only)) | skip)
        refine rest_kept (s := Shared.mk _ _ _ _ _) (n := 4) (lD3.list Nh) i3 (fun D ws h' hk hz hl hi => ?_) rfl (fun _ => rfl) (by omega)
        exact srcInts (s := Shared.mk _ _ _ _ _) rfl hk hz hl hi (by rw [List.length_drop, nums_len])
      case turn =>
        intro i ys made C h2 tk2 m2 own vals hin hJ hln hP F2 N2
        dsimp only at F2 N2
        rw [List.forIn_nil]
        refine wpAny_pure ?_
        rw [if_pos rfl]
        obtain ⟨x, xt, rfl, hx⟩ := hP
        have F3 := has.fr F2 (ps := [(Str.ofString "v", .int x xt)]) (has.cons rfl has.nil)
        clear F2
        iterate 5 (first | (k_unfold; (try dsimp only)) | walk1 | (dsimp only; walk1) | (leave1; (try dsimp only)) | skip)
        refine EltEnd.mk F3 N2 ⟨hJ.1, ?_⟩
        have hst : (tenthOf (nums ks)).take (i + 1) = (tenthOf (nums ks)).take i ++ [x.fmod 3] := by
          unfold tenthOf
          rw [List.take_add_one, List.getElem?_map, hx]
          rfl
        rw [hst]
        exact hJ.2.append (.cons _ _ .nil)
      case done =>
        refine compLed F1 Nh fun D ys k made h' tk hJ F N hne => ?_
        obtain ⟨rfl, hys⟩ := hJ
        have hup : ∀ p ∈ nh, p ∈ (D, W.listOf ys.toArray k) :: ([] ++ nh) := fun p hp => .tail _ hp
        rw [List.take_of_length_le (by unfold tenthOf; rw [List.length_map, List.length_drop, nums_len]; decide)] at hys
        refine stCell F N rfl (cT.mono hup) fun h9 nx F9 N9 hl9 hc9 hT => ?_
        exact CutN.go F9 N9 ⟨D, ys, has.cons rfl (has.cons rfl (has.cons rfl (has.cons rfl has.nil))), hl9 _ _ (lR.mono hup), hl9 _ _ (lS.mono hup), hl9 _ _ (lB.mono hup), rB.up (fun a vs l => hl9 _ _ (l.mono hup)), hc9 _ _ (cne _ 1 2 (by decide)) (cR.mono hup), hl9 _ _ ⟨k, .head _⟩, hys, hT, hc9 _ _ (cne _ 3 2 (by decide)) (cX.mono hup), hc9 _ _ (cne _ 4 2 (by decide)) (cM.mono hup), hc9 _ _ (cne _ 5 2 (by decide)) (cS.mono hup)⟩
    clear lB rB lD3 lR lS cR cT cX cM cS Fh Nh q16
    rintro hg9 tkg9 mg9 ni Fi Ni ⟨Et, ts, q17, lR, lS, lB, rB, cR, lT, iT, cT, cX, cM, cS⟩
    refine seqN1 (s := s₁) (g := s₁.heap) (L := s₁.heap.objs.size) (fun m nx => ∃ tt, has [(Str.ofString "script", .ref l), (Str.ofString "numbers", .ref D3), (Str.ofString "bets", .ref B'), (Str.ofString "shelf", .ref S)] m ∧ LAt nx R rv ∧ LAt nx S sv ∧ LAt nx B' rs' ∧ RowsAt nx rs' bs ∧ CAt nx (s₁.heap.objs.size + 1) (some (.ref R)) ∧ LAt nx Et ts ∧ CAt nx (s₁.heap.objs.size + 1 + 1) (some (.ref Et)) ∧ CAt nx (s₁.heap.objs.size + 1 + 1 + 1) (some (.str (ofL (spell (tenthOf (nums ks)) (rowsOf (nums ks)))) tt)) ∧ CAt nx (s₁.heap.objs.size + 1 + 1 + 1 + 1) none ∧ CAt nx (s₁.heap.objs.size + 1 + 1 + 1 + 1 + 1) none) ?_ ?_
    · have F1 := has.fr Fi q17
      clear Fi q17
      refine one ?_
      refine wpAny_Assign_Name ?_ (by rfl)
      have hok := tenth_ok (nums ks) (nums_len ks)
      iterate 4 (first | (k_unfold; (try dsimp only)) | walk1 | (dsimp only; walk1) | (leave1; (try dsimp only)) | skip)
      refine ldCell Ni rfl cT ?_
      iterate 1 (first | (k_unfold; (try dsimp only)) | walk1 | (dsimp only; walk1) | (leave1; (try dsimp only)) | skip)
      refine ldCell Ni rfl cR ?_
      iterate 2 (first | (k_unfold; (try dsimp only)) | walk1 | (dsimp only; walk1) | (leave1; (try dsimp only)) | skip)
      refine spelled_use (s := Shared.mk _ _ _ _ _) F1 Ni KX T rfl (by dsimp only [Around.deeper]; decide) (by dsimp only [Around.deeper]; decide) (lT.list Ni) (lR.list Ni) iT i4 hok.1 (by omega) (fun r hr => Nat.le_trans (rows_ok hr) (by decide)) fun t' h' tk' F4 N4 => ?_
      refine stCell F4 N4 rfl cX fun h9 nx F9 N9 hl9 hc9 hX => ?_
      exact CutN.go F9 N9 ⟨t', has.cons rfl (has.cons rfl (has.cons rfl (has.cons rfl has.nil))), hl9 _ _ lR, hl9 _ _ lS, hl9 _ _ lB, rB.up (fun a vs l => hl9 _ _ l), hc9 _ _ (cne _ 1 3 (by decide)) cR, hl9 _ _ lT, hc9 _ _ (cne _ 2 3 (by decide)) cT, hX, hc9 _ _ (cne _ 4 3 (by decide)) cM, hc9 _ _ (cne _ 5 3 (by decide)) cS⟩
    clear lB rB lR lS lT cR cT cX cM cS Fi Ni q17
    rintro hg10 tkg10 mg10 nj Fj Nj ⟨tt, q18, lR, lS, lB, rB, cR, lT, cT, cX, cM, cS⟩
    refine seqN1 (s := s₁) (g := s₁.heap) (L := s₁.heap.objs.size) (fun m nx => ∃ Nr nv, has [(Str.ofString "script", .ref l), (Str.ofString "numbers", .ref D3), (Str.ofString "bets", .ref B'), (Str.ofString "shelf", .ref S), (Str.ofString "near", .ref Nr)] m ∧ LAt nx Nr nv ∧ StrsAt nv (nearOf (nums ks) bs) ∧ LAt nx R rv ∧ LAt nx S sv ∧ LAt nx B' rs' ∧ RowsAt nx rs' bs ∧ CAt nx (s₁.heap.objs.size + 1) (some (.ref R)) ∧ LAt nx Et ts ∧ CAt nx (s₁.heap.objs.size + 1 + 1) (some (.ref Et)) ∧ CAt nx (s₁.heap.objs.size + 1 + 1 + 1) (some (.str (ofL (spell (tenthOf (nums ks)) (rowsOf (nums ks)))) tt)) ∧ CAt nx (s₁.heap.objs.size + 1 + 1 + 1 + 1) none ∧ CAt nx (s₁.heap.objs.size + 1 + 1 + 1 + 1 + 1) none) ?_ ?_
    · have F1 := has.fr Fj q18
      clear Fj q18
      refine one ?_
      refine putComp (by rfl) ?_
      have X7 := KX.keeps F1.keep
      have T7 := T.keeps F1.keep
      have hlb : bs.length = 9 := by rw [hbs.1.length_eq, betsOf_len]
      refine compCore (s := Shared.mk _ _ _ _ _) (cl := [(Str.ofString "text", s₁.heap.objs.size + 1 + 1 + 1)]) (names := [Str.ofString "one"]) (n := 9) (P' := fun i vals => ∃ x t, vals = [.str (ofL x) t] ∧ (bs.map fun f => spell f (rowsOf (nums ks)))[i]? = some x) (by rfl) (by decide) (by rfl) (by decide) (by decide) (by decide)
        (fun i ys made => made = [] ∧ StrsAt ys (((bs.map fun f => spell f (rowsOf (nums ks))).take i).filter fun one => decide (levF (spell (tenthOf (nums ks)) (rowsOf (nums ks))) one 2 ≤ 2))) ⟨rfl, .nil⟩ ?it ?turn ?done
      case it =>
        iterate 1 (first | (k_unfold; (try dsimp only)) | walk1 | (dsimp only; walk1) | (leave1; (try dsimp only)) | skip)
        exact srcStrs (s := Shared.mk _ _ _ _ _) rfl (fun _ _ e => e) (Nat.le_refl _) (lS.list Nj) hsv (by rw [List.length_map, hlb])
      case turn =>
        intro i ys made C h2 tk2 m2 own vals hin hJ hln hP F2 N2
        dsimp only at F2 N2
        obtain ⟨x, xt, rfl, hx⟩ := hP
        have F3 := has.fr F2 (ps := [(Str.ofString "one", .str (ofL x) xt)]) (has.cons rfl has.nil)
        have hcell : h2.IsCell (s₁.heap.objs.size + 1 + 1 + 1) (some (.str (ofL (spell (tenthOf (nums ks)) (rowsOf (nums ks)))) tt)) := cell_kept F2.keep (cX.cell Nj)
        clear F2
        obtain ⟨b, hb, rfl⟩ : ∃ b ∈ bs, spell b (rowsOf (nums ks)) = x := by simpa using List.mem_map.mp (List.mem_of_getElem? hx)
        have hok := bets_ok (hbs.1.mem_iff.mp hb)
        refine oneTest ?_
        iterate 13 (first | (k_unfold; (try dsimp only)) | walk1 | (dsimp only; walk1) | (leave1; (try dsimp only)) | skip)
        refine lev_use (s := Shared.mk _ _ _ _ _) F3 N2 X7 T7 rfl (by dsimp only [Around.deeper]; decide) (by dsimp only [Around.deeper]; decide) (fun x hx => low_ok (hx.elim spell_in spell_in)) (spell_short (by rw [(tenth_ok (nums ks) (nums_len ks)).2]; exact Nat.le_refl _)) (spell_short hok.2) fun t' h' tk' F4 N4 => ?_
        dsimp only at F4 N4 ⊢
        have hst := List.take_add_one (l := bs.map fun f => spell f (rowsOf (nums ks))) (i := i)
        rw [hx] at hst
        by_cases hle : levF (spell (tenthOf (nums ks)) (rowsOf (nums ks))) (spell b (rowsOf (nums ks))) 2 ≤ 2
        · iterate 6 (first | (k_unfold; (try dsimp only)) | walk1 | (dsimp only; walk1) | (leave1; (try dsimp only)) | skip)
          refine EltEnd.mk F4 N4 ⟨hJ.1, ?_⟩
          rw [hst, List.filter_append]
          simp only [Option.toList_some, List.filter_cons, decide_eq_true hle, if_true, List.filter_nil]
          exact hJ.2.snoc _ _
        · iterate 5 (first | (k_unfold; (try dsimp only)) | walk1 | (dsimp only; walk1) | (leave1; (try dsimp only)) | skip)
          refine SkipEnd.mk F4 N4 ⟨hJ.1, ?_⟩
          rw [hst, List.filter_append]
          simp only [Option.toList_some, List.filter_cons, decide_eq_false hle, Bool.false_eq_true, if_false, List.filter_nil, List.append_nil]
          exact hJ.2
      case done =>
        refine compFinUse (by rfl) (by rfl) rfl F1 Nj fun D ys k made h' tk hJ F N _ => ?_
        obtain ⟨rfl, hys⟩ := hJ
        have hup : ∀ p ∈ nj, p ∈ (D, W.listOf ys.toArray k) :: ([] ++ nj) := fun p hp => .tail _ hp
        rw [List.take_of_length_le (by rw [List.length_map]; omega)] at hys
        exact CutN.go F N ⟨D, ys, has.cons rfl (has.cons rfl (has.cons rfl (has.cons rfl (has.cons rfl has.nil)))), ⟨k, .head _⟩, hys, lR.mono hup, lS.mono hup, lB.mono hup, rB.up (fun a vs l => l.mono hup), cR.mono hup, lT.mono hup, cT.mono hup, cX.mono hup, cM.mono hup, cS.mono hup⟩
    clear lB rB lR lS lT cR cT cX cM cS Fj Nj q18
    rintro hg11 tkg11 mg11 nk Fk Nk ⟨Nr, nv, q19, lN, hnv, lR, lS, lB, rB, cR, lT, cT, cX, cM, cS⟩
    refine seqN1 (s := s₁) (g := s₁.heap) (L := s₁.heap.objs.size) (fun m nx => ∃ M mv, has [(Str.ofString "script", .ref l), (Str.ofString "numbers", .ref D3), (Str.ofString "bets", .ref B'), (Str.ofString "shelf", .ref S), (Str.ofString "near", .ref Nr)] m ∧ LAt nx M mv ∧ RowsAt nx mv (meantOf (nums ks) bs) ∧ CAt nx (s₁.heap.objs.size + 1 + 1 + 1 + 1) (some (.ref M)) ∧ LAt nx Nr nv ∧ LAt nx R rv ∧ LAt nx S sv ∧ LAt nx B' rs' ∧ RowsAt nx rs' bs ∧ CAt nx (s₁.heap.objs.size + 1) (some (.ref R)) ∧ LAt nx Et ts ∧ CAt nx (s₁.heap.objs.size + 1 + 1) (some (.ref Et)) ∧ CAt nx (s₁.heap.objs.size + 1 + 1 + 1) (some (.str (ofL (spell (tenthOf (nums ks)) (rowsOf (nums ks)))) tt)) ∧ CAt nx (s₁.heap.objs.size + 1 + 1 + 1 + 1 + 1) none) ?_ ?_
    · have F1 := has.fr Fk q19
      clear Fk q19
      refine one ?_
      refine wpAny_Assign_Name ?_ (by rfl)
      have X7 := KX.keeps F1.keep
      have T7 := T.keeps F1.keep
      have hlb : bs.length = 9 := by rw [hbs.1.length_eq, betsOf_len]
      refine compRC (s := Shared.mk _ _ _ _ _) (cl := [(Str.ofString "tenth", s₁.heap.objs.size + 1 + 1)]) (x := Str.ofString "bet") (n := 9) (P' := fun i v => ∃ D vs r, v = .ref D ∧ LAt nk D vs ∧ IntsAre vs r ∧ bs[i]? = some r) (by rfl) (by intro _; rfl) (by intro _; rfl) (by rfl) (by decide) (by rfl) (by decide)
        (fun i ys made => made = [] ∧ RowsAt nk ys ((bs.take i).filter fun b => decide (3 ≤ agree b (tenthOf (nums ks)) 4))) ⟨rfl, .nil⟩ ?it ?turn ?done
      case it =>
        iterate 1 (first | (k_unfold; (try dsimp only)) | walk1 | (dsimp only; walk1) | (leave1; (try dsimp only)) | skip)
        exact srcRowsC (s := Shared.mk _ _ _ _ _) rfl (fun _ _ e => e) (Nat.le_refl _) (lB.list Nk) rB hlb
      case turn =>
        intro i ys made C h2 tk2 m2 own v o2 hin hJ hln hP ho2 F2 N2
        dsimp only at F2 N2
        obtain ⟨D, vsD, r, rfl, lD, iD, hr⟩ := hP
        have hcell : h2.IsCell (s₁.heap.objs.size + 1 + 1) (some (.ref Et)) := cell_kept F2.keep (cT.cell Nk)
        have hcell2 : h2.IsCell (C + 1) (some (.ref D)) := ⟨o2, (N2 _ (.head _)).1, ho2⟩
        have hb4 := bets_four (nums_len ks) (hbs.1.mem_iff.mp (List.mem_of_getElem? hr))
        refine oneTest ?_
        iterate 6 (first | (k_unfold; (try dsimp only)) | walk1 | (dsimp only; walk1) | (leave1; (try dsimp only)) | skip)
        refine compR (s := Shared.mk _ _ _ _ _) (cl := [(Str.ofString "tenth", s₁.heap.objs.size + 1 + 1), (Str.ofString "bet", C + 1)]) (names := [Str.ofString "k"]) (n := 4) (P' := fun i vals => ∃ v, vals = [v] ∧ ∃ t, v = .int (i : Int) t) (by rfl) (by decide) (by rfl) (by decide) (by decide) (by decide)
          (fun i ys made => made = [] ∧ ys.length = agree r (tenthOf (nums ks)) i) ⟨rfl, rfl⟩ ?it2 ?turn2 ?done2
        case it2 =>
          iterate 7 (first | (k_unfold; (try dsimp only)) | walk1 | (dsimp only; walk1) | (leave1; (try dsimp only)) | skip)
          rename_i h5 tk5 t5 u5 v5 r5 F5 N5 K5
          exact srcRangeS (s := Shared.mk _ _ _ _ _) (n := 4) rfl K5 (Nat.le_of_lt (Heap.lt_size r5)) r5 (by decide)
        case turn2 =>
          intro i3 ys3 made3 C3 h3 tk3 m3 own3 vals3 hin3 hJ3 hln3 hP3 F3 N3
          dsimp only at F3 N3
          obtain ⟨_, rfl, t3, rfl⟩ := hP3
          have hc1 : h3.IsCell (s₁.heap.objs.size + 1 + 1) (some (.ref Et)) := cell_kept F3.keep hcell
          have hc2 : h3.IsCell (C + 1) (some (.ref D)) := cell_kept F3.keep hcell2
          have F4 := has.fr F3 (ps := [(Str.ofString "k", .int (i3 : Int) t3)]) (has.cons rfl has.nil)
          clear F3
          refine oneTest ?_
          obtain ⟨x, tx, ex1, ex2⟩ := ints_get iD (i := i3) (by omega)
          obtain ⟨y, ty, ey1, ey2⟩ := ints_get iT (i := i3) (by rw [(tenth_ok (nums ks) (nums_len ks)).2]; omega)
          have hlD3 : h3.IsList D vsD.toArray := list_kept F4.keep (list_kept F2.keep (lD.list Nk))
          have hlT3 : h3.IsList Et ts.toArray := list_kept F4.keep (list_kept F2.keep (lT.list Nk))
          iterate 5 (first | (k_unfold; (try dsimp only)) | walk1 | (dsimp only; walk1) | (leave1; (try dsimp only)) | skip)
          refine item_use (s := Shared.mk _ _ _ _ _) hlD3 (by rw [ints_len iD, hb4]; decide) ex1 ?_
          iterate 3 (first | (k_unfold; (try dsimp only)) | walk1 | (dsimp only; walk1) | (leave1; (try dsimp only)) | skip)
          refine item_use (s := Shared.mk _ _ _ _ _) hlT3 (by rw [ints_len iT, (tenth_ok (nums ks) (nums_len ks)).2]; decide) ey1 ?_
          iterate 1 (first | (k_unfold; (try dsimp only)) | walk1 | (dsimp only; walk1) | (leave1; (try dsimp only)) | skip)
          cases hb : x == y
          · iterate 3 (first | (k_unfold; (try dsimp only)) | walk1 | (dsimp only; walk1) | (leave1; (try dsimp only)) | skip)
            refine SkipEnd.mk F4 N3 ⟨hJ3.1, ?_⟩
            rw [agree_no ex2 ey2 (by simpa using hb)]
            exact hJ3.2
          · iterate 4 (first | (k_unfold; (try dsimp only)) | walk1 | (dsimp only; walk1) | (leave1; (try dsimp only)) | skip)
            refine EltEnd.mk F4 N3 ⟨hJ3.1, ?_⟩
            obtain rfl : x = y := by simpa using hb
            rw [agree_yes ex2 ey2, List.length_append, hJ3.2]
            rfl
        case done2 =>
          refine compLed F2 N2 fun D5 ys5 k5 h5' h5 tk5 hJ5 F5 N5 hne5 => ?_
          obtain ⟨rfl, hlen5⟩ := hJ5
          dsimp only at F5 N5 ⊢
          have hle := agree_le r (tenthOf (nums ks)) 4
          iterate 1 (first | (k_unfold; (try dsimp only)) | walk1 | (dsimp only; walk1) | (leave1; (try dsimp only)) | skip)
          refine len_use (s := Shared.mk _ _ _ _ _) (LAt.list ⟨k5, .head _⟩ N5) (by omega) ?_
          rw [hlen5]
          by_cases hge : 3 ≤ agree r (tenthOf (nums ks)) 4
          · iterate 6 (first | (k_unfold; (try dsimp only)) | walk1 | (dsimp only; walk1) | (leave1; (try dsimp only)) | skip)
            refine EltEnd.mk F5 (fun p hp => N5 p (.tail _ hp)) ⟨hJ.1, ?_⟩
            rw [List.take_add_one, hr, List.filter_append]
            simp only [Option.toList_some, List.filter_cons, decide_eq_true hge, if_true, List.filter_nil]
            exact hJ.2.snoc lD iD
          · iterate 5 (first | (k_unfold; (try dsimp only)) | walk1 | (dsimp only; walk1) | (leave1; (try dsimp only)) | skip)
            refine SkipEnd.mk F5 (fun p hp => N5 p (.tail _ hp)) ⟨hJ.1, ?_⟩
            rw [List.take_add_one, hr, List.filter_append]
            simp only [Option.toList_some, List.filter_cons, decide_eq_false hge, Bool.false_eq_true, if_false, List.filter_nil, List.append_nil]
            exact hJ.2
      case done =>
        refine compLed F1 Nk fun D ys k made h' tk hJ F N hne => ?_
        obtain ⟨rfl, hys⟩ := hJ
        have hup : ∀ p ∈ nk, p ∈ (D, W.listOf ys.toArray k) :: ([] ++ nk) := fun p hp => .tail _ hp
        rw [List.take_of_length_le (by omega)] at hys
        refine stCell F N rfl (cM.mono hup) fun h9 nx F9 N9 hl9 hc9 hM => ?_
        exact CutN.go F9 N9 ⟨D, ys, has.cons rfl (has.cons rfl (has.cons rfl (has.cons rfl (has.cons rfl has.nil)))), hl9 _ _ ⟨k, .head _⟩, hys.up (fun a vs l => hl9 _ _ (l.mono hup)), hM, hl9 _ _ (lN.mono hup), hl9 _ _ (lR.mono hup), hl9 _ _ (lS.mono hup), hl9 _ _ (lB.mono hup), rB.up (fun a vs l => hl9 _ _ (l.mono hup)), hc9 _ _ (cne _ 1 4 (by decide)) (cR.mono hup), hl9 _ _ (lT.mono hup), hc9 _ _ (cne _ 2 4 (by decide)) (cT.mono hup), hc9 _ _ (cne _ 3 4 (by decide)) (cX.mono hup), hc9 _ _ (cne _ 5 4 (by decide)) (cS.mono hup)⟩
    clear lB rB lR lS lT lN cR cT cX cM cS Fk Nk q19
    rintro hg12 tkg12 mg12 nl Fl Nl ⟨Mt, mv, q20, lM, rM, cM, lN, lR, lS, lB, rB, cR, lT, cT, cX, cS⟩
    refine seqN1 (s := s₁) (g := s₁.heap) (L := s₁.heap.objs.size) (fun m nx => has [(Str.ofString "script", .ref l), (Str.ofString "numbers", .ref D3), (Str.ofString "bets", .ref B'), (Str.ofString "shelf", .ref S), (Str.ofString "near", .ref Nr)] m ∧ LAt nx Mt mv ∧ RowsAt nx mv (meantOf (nums ks) bs) ∧ CAt nx (s₁.heap.objs.size + 1 + 1 + 1 + 1) (some (.ref Mt)) ∧ LAt nx Nr nv ∧ LAt nx R rv ∧ LAt nx S sv ∧ LAt nx B' rs' ∧ RowsAt nx rs' bs ∧ CAt nx (s₁.heap.objs.size + 1) (some (.ref R)) ∧ LAt nx Et ts ∧ CAt nx (s₁.heap.objs.size + 1 + 1) (some (.ref Et)) ∧ CAt nx (s₁.heap.objs.size + 1 + 1 + 1) (some (.str (ofL (spell (tenthOf (nums ks)) (rowsOf (nums ks)))) tt)) ∧ CAt nx (s₁.heap.objs.size + 1 + 1 + 1 + 1 + 1) none) ?_ ?_
    · have F1 := has.fr Fl q20
      clear Fl q20
      refine one ?_
      refine ifSkip ?_
      have X7 := KX.keeps F1.keep
      have T7 := T.keeps F1.keep
      obtain ⟨hn1, hm1⟩ := near_ok (nums_len ks) hbs
      have hnl : nv.length = 1 := by rw [hnv.len, hn1, List.length_map, hm1]
      iterate 8 (first | (k_unfold; (try dsimp only)) | walk1 | (dsimp only; walk1) | (leave1; (try dsimp only)) | skip)
      refine len_use (s := Shared.mk _ _ _ _ _) (lN.list Nl) (by omega) ?_
      rw [hnl]
      iterate 7 (first | (k_unfold; (try dsimp only)) | walk1 | (dsimp only; walk1) | (leave1; (try dsimp only)) | skip)
      refine compR (s := Shared.mk _ _ _ _ _) (cl := [(Str.ofString "rows", s₁.heap.objs.size + 1)]) (names := [Str.ofString "bet"]) (n := 1) (P' := fun i vals => ∃ D vs r, vals = [.ref D] ∧ LAt nl D vs ∧ IntsAre vs r ∧ (meantOf (nums ks) bs)[i]? = some r) (by rfl) (by decide) (by rfl) (by decide) (by decide) (by decide)
        (fun i ys made => made = [] ∧ StrsAt ys (((meantOf (nums ks) bs).take i).map fun f => spell f (rowsOf (nums ks)))) ⟨rfl, .nil⟩ ?it ?turn ?done
      case it =>
        refine ldCell (s := Shared.mk _ _ _ _ _) Nl rfl cM ?_
        exact srcRows (s := Shared.mk _ _ _ _ _) rfl (fun _ _ e => e) (Nat.le_refl _) (lM.list Nl) rM hm1
      case turn =>
        intro i ys made C h2 tk2 m2 own vals hin hJ hln hP F2 N2
        dsimp only at F2 N2
        rw [List.forIn_nil]
        refine wpAny_pure ?_
        rw [if_pos rfl]
        obtain ⟨D, vsD, r, rfl, lD, hI, hr⟩ := hP
        have F3 := has.fr F2 (ps := [(Str.ofString "bet", .ref D)]) (has.cons rfl has.nil)
        have hcell : h2.IsCell (s₁.heap.objs.size + 1) (some (.ref R)) := cell_kept F2.keep (cR.cell Nl)
        clear F2
        iterate 10 (first | (k_unfold; (try dsimp only)) | walk1 | (dsimp only; walk1) | (leave1; (try dsimp only)) | skip)
        have hok := bets_ok (hbs.1.mem_iff.mp (List.mem_filter.mp (List.mem_of_getElem? hr)).1)
        refine spelled_use (s := Shared.mk _ _ _ _ _) F3 N2 X7 T7 rfl (by dsimp only [Around.deeper]; decide) (by dsimp only [Around.deeper]; decide) (list_kept F3.keep (lD.list Nl)) (list_kept F3.keep (lR.list Nl)) hI i4 hok.1 (Nat.le_trans hok.2 (by decide)) (fun r hr => Nat.le_trans (rows_ok hr) (by decide)) fun t' h' tk' F4 N4 => ?_
        refine EltEnd.mk F4 N4 ⟨hJ.1, ?_⟩
        rw [List.take_add_one, hr, List.map_append]
        exact hJ.2.snoc _ _
      case done =>
        refine compLed F1 Nl fun D ys k made h' tk hJ F N hne => ?_
        obtain ⟨rfl, hys⟩ := hJ
        rw [List.take_of_length_le (by omega), ← hn1] at hys
        dsimp only at F N ⊢
        have hup : ∀ p ∈ nl, p ∈ (D, W.listOf ys.toArray k) :: ([] ++ nl) := fun p hp => .tail _ hp
        refine ne_strs (s := Shared.mk _ _ _ _ _) ((lN.mono hup).list N) (LAt.list ⟨k, .head _⟩ N) hnv hys (by dsimp only [Around.deeper, Around.in1]; decide) ?_
        iterate 3 (first | (k_unfold; (try dsimp only)) | walk1 | (dsimp only; walk1) | (leave1; (try dsimp only)) | skip)
        refine ⟨rfl, ?_⟩
        exact CutN.go F N ⟨has.cons rfl (has.cons rfl (has.cons rfl (has.cons rfl (has.cons rfl has.nil)))), lM.mono hup, rM.up (fun a vs l => l.mono hup), cM.mono hup, lN.mono hup, lR.mono hup, lS.mono hup, lB.mono hup, rB.up (fun a vs l => l.mono hup), cR.mono hup, lT.mono hup, cT.mono hup, cX.mono hup, cS.mono hup⟩
    clear lB rB lR lS lT lN lM rM cR cT cX cM cS Fl Nl q20
    rintro hg13 tkg13 mg13 no Fo No ⟨q21, lM, rM, cM, lN, lR, lS, lB, rB, cR, lT, cT, cX, cS⟩
    refine seqN1 (s := s₁) (g := s₁.heap) (L := s₁.heap.objs.size) (fun m nx => has [(Str.ofString "script", .ref l), (Str.ofString "numbers", .ref D3), (Str.ofString "bets", .ref B'), (Str.ofString "shelf", .ref S), (Str.ofString "near", .ref Nr)] m ∧ LAt nx Mt mv ∧ RowsAt nx mv (meantOf (nums ks) bs) ∧ CAt nx (s₁.heap.objs.size + 1 + 1 + 1 + 1) (some (.ref Mt)) ∧ LAt nx Nr nv ∧ LAt nx R rv ∧ LAt nx S sv ∧ LAt nx B' rs' ∧ RowsAt nx rs' bs ∧ CAt nx (s₁.heap.objs.size + 1) (some (.ref R)) ∧ LAt nx Et ts ∧ CAt nx (s₁.heap.objs.size + 1 + 1) (some (.ref Et)) ∧ CAt nx (s₁.heap.objs.size + 1 + 1 + 1) (some (.str (ofL (spell (tenthOf (nums ks)) (rowsOf (nums ks)))) tt)) ∧ CAt nx (s₁.heap.objs.size + 1 + 1 + 1 + 1 + 1) none) ?_ ?_
    · have F1 := has.fr Fo q21
      clear Fo q21
      refine one ?_
      refine ifSkip ?_
      have hlb : bs.length = 9 := by rw [hbs.1.length_eq, betsOf_len]
      have hsl : sv.length = 9 := by rw [hsv.len, List.length_map, hlb]
      have htk := tenth_ok (nums ks) (nums_len ks)
      iterate 7 (first | (k_unfold; (try dsimp only)) | walk1 | (dsimp only; walk1) | (leave1; (try dsimp only)) | skip)
      refine ldCell (s := Shared.mk _ _ _ _ _) No rfl cX ?_
      iterate 2 (first | (k_unfold; (try dsimp only)) | walk1 | (dsimp only; walk1) | (leave1; (try dsimp only)) | skip)
      refine bisL_use (s := Shared.mk _ _ _ _ _) (lt := fun i => decide ((bs.map fun f => spell f (rowsOf (nums ks))).getD i [] < spell (tenthOf (nums ks)) (rowsOf (nums ks)))) F1 No KX T rfl (by dsimp only [Around.deeper]; decide) (by dsimp only [Around.deeper]; decide) (lS.list No) (by omega) (fun i v hv => ?_) fun t' h' tk' F2 N2 => ?_
      · obtain ⟨y, ty, rfl, hy⟩ := hsv.at hv
        dsimp only
        rw [List.getD_eq_getElem?_getD, hy, Option.getD_some]
        exact ltOk_str _ _ _ _ _ _ _
      rw [hsl, cut_ok (nums_len ks) hbs htk.2 htk.1]
      dsimp only at F2 N2 ⊢
      iterate 4 (first | (k_unfold; (try dsimp only)) | walk1 | (dsimp only; walk1) | (leave1; (try dsimp only)) | skip)
      refine compR (s := Shared.mk _ _ _ _ _) (cl := [(Str.ofString "tenth", s₁.heap.objs.size + 1 + 1)]) (names := [Str.ofString "bet"]) (n := 9) (P' := fun i vals => ∃ D vs r, vals = [.ref D] ∧ LAt no D vs ∧ IntsAre vs r ∧ bs[i]? = some r) (by rfl) (by decide) (by rfl) (by decide) (by decide) (by decide)
        (fun i ys made => made = [] ∧ ys.length = ((bs.take i).filter fun b => ltL b (tenthOf (nums ks))).length) ⟨rfl, rfl⟩ ?it ?turn ?done
      case it =>
        iterate 1 (first | (k_unfold; (try dsimp only)) | walk1 | (dsimp only; walk1) | (leave1; (try dsimp only)) | skip)
        exact srcRows (s := Shared.mk _ _ _ _ _) rfl (fun _ _ e => e) (Nat.le_refl _) (lB.list N2) rB hlb
      case turn =>
        intro i ys made C h2 tk2 m2 own vals hin hJ hln hP F3 N3
        dsimp only at F3 N3
        obtain ⟨D, vsD, r, rfl, lD, hI, hr⟩ := hP
        have F4 := has.fr F3 (ps := [(Str.ofString "bet", .ref D)]) (has.cons rfl has.nil)
        have hcell : h2.IsCell (s₁.heap.objs.size + 1 + 1) (some (.ref Et)) := cell_kept F3.keep (cT.cell N2)
        clear F3
        refine oneTest ?_
        iterate 3 (first | (k_unfold; (try dsimp only)) | walk1 | (dsimp only; walk1) | (leave1; (try dsimp only)) | skip)
        refine lt_lists (s := Shared.mk _ _ _ _ _) (list_kept F4.keep (lD.list N2)) (list_kept F4.keep (lT.list N2)) hI iT (by dsimp only [Around.deeper, Around.in1]; decide) ?_
        rw [List.take_add_one, hr, List.filter_append]
        cases hb : ltL r (tenthOf (nums ks))
        · iterate 3 (first | (k_unfold; (try dsimp only)) | walk1 | (dsimp only; walk1) | (leave1; (try dsimp only)) | skip)
          refine SkipEnd.mk F4 N3 ⟨hJ.1, ?_⟩
          simp only [Option.toList_some, List.filter_cons, hb, Bool.false_eq_true, if_false, List.filter_nil, List.append_nil]
          exact hJ.2
        · iterate 4 (first | (k_unfold; (try dsimp only)) | walk1 | (dsimp only; walk1) | (leave1; (try dsimp only)) | skip)
          refine EltEnd.mk F4 N3 ⟨hJ.1, ?_⟩
          simp only [Option.toList_some, List.filter_cons, hb, if_true, List.filter_nil, List.length_append, hJ.2]
          rfl
      case done =>
        refine compLed F2 N2 fun D ys k made h' tk hJ F N hne => ?_
        obtain ⟨rfl, hlen⟩ := hJ
        rw [List.take_of_length_le (by omega)] at hlen
        have hle9 := List.length_filter_le (fun b => ltL b (tenthOf (nums ks))) bs
        dsimp only at F N ⊢
        have hup : ∀ p ∈ no, p ∈ (D, W.listOf ys.toArray k) :: ([] ++ no) := fun p hp => .tail _ hp
        iterate 1 (first | (k_unfold; (try dsimp only)) | walk1 | (dsimp only; walk1) | (leave1; (try dsimp only)) | skip)
        refine len_use (s := Shared.mk _ _ _ _ _) (LAt.list ⟨k, .head _⟩ N) (by omega) ?_
        rw [hlen]
        iterate 2 (first | (k_unfold; (try dsimp only)) | walk1 | (dsimp only; walk1) | (leave1; (try dsimp only)) | skip)
        refine ⟨by simp, ?_⟩
        exact CutN.go F N ⟨has.cons rfl (has.cons rfl (has.cons rfl (has.cons rfl (has.cons rfl has.nil)))), lM.mono hup, rM.up (fun a vs l => l.mono hup), cM.mono hup, lN.mono hup, lR.mono hup, lS.mono hup, lB.mono hup, rB.up (fun a vs l => l.mono hup), cR.mono hup, lT.mono hup, cT.mono hup, cX.mono hup, cS.mono hup⟩
    clear lB rB lR lS lT lN lM rM cR cT cX cM cS Fo No q21
    rintro hg14 tkg14 mg14 np Fp Np ⟨q22, lM, rM, cM, lN, lR, lS, lB, rB, cR, lT, cT, cX, cS⟩
    refine seqN1 (s := s₁) (g := s₁.heap) (L := s₁.heap.objs.size) (fun m nx => has [(Str.ofString "script", .ref l), (Str.ofString "numbers", .ref D3), (Str.ofString "bets", .ref B'), (Str.ofString "shelf", .ref S), (Str.ofString "near", .ref Nr)] m ∧ LAt nx R rv ∧ LAt nx S sv ∧ CAt nx (s₁.heap.objs.size + 1) (some (.ref R)) ∧ CAt nx (s₁.heap.objs.size + 1 + 1 + 1) (some (.str (ofL (spell (tenthOf (nums ks)) (rowsOf (nums ks)))) tt)) ∧ CAt nx (s₁.heap.objs.size + 1 + 1 + 1 + 1 + 1) none) ?_ ?_
    · have F1 := has.fr Fp q22
      clear Fp q22
      refine one ?_
      refine ifSkip ?_
      have hlb : bs.length = 9 := by rw [hbs.1.length_eq, betsOf_len]
      have hsl : sv.length = 9 := by rw [hsv.len, List.length_map, hlb]
      obtain ⟨hn1, hm1⟩ := near_ok (nums_len ks) hbs
      obtain ⟨m0, hm0⟩ := List.length_eq_one_iff.mp hm1
      have hm0b : m0 ∈ betsOf (nums ks) := hbs.1.mem_iff.mp (List.mem_filter.mp (show m0 ∈ meantOf (nums ks) bs by rw [hm0]; exact .head _)).1
      rw [hn1, hm0] at hnv
      rw [hm0] at rM
      obtain ⟨v0, hv0⟩ : ∃ v, nv[0]? = some v := ⟨_, List.getElem?_eq_getElem (by rw [hnv.len]; exact Nat.zero_lt_one)⟩
      obtain ⟨y0, ty0, rfl, hy0⟩ := hnv.at hv0
      obtain rfl : spell m0 (rowsOf (nums ks)) = y0 := by simpa using hy0
      obtain ⟨u0, hu0⟩ : ∃ v, mv[0]? = some v := ⟨_, List.getElem?_eq_getElem (by rw [rM.len]; exact Nat.zero_lt_one)⟩
      obtain ⟨Dm, vm, m0', rfl, lDm, iDm, hm1'⟩ := rM.at hu0
      obtain rfl : m0 = m0' := by simpa using hm1'
      iterate 10 (first | (k_unfold; (try dsimp only)) | walk1 | (dsimp only; walk1) | (leave1; (try dsimp only)) | skip)
      refine item_use (j := 0) (s := Shared.mk _ _ _ _ _) (lN.list Np) (by rw [hnv.len]; show 1 < 2 ^ 60; decide) hv0 ?_
      iterate 2 (first | (k_unfold; (try dsimp only)) | walk1 | (dsimp only; walk1) | (leave1; (try dsimp only)) | skip)
      refine bisL_use (s := Shared.mk _ _ _ _ _) (lt := fun i => decide ((bs.map fun f => spell f (rowsOf (nums ks))).getD i [] < spell m0 (rowsOf (nums ks)))) F1 Np KX T rfl (by dsimp only [Around.deeper]; decide) (by dsimp only [Around.deeper]; decide) (lS.list Np) (by omega) (fun i v hv => ?_) fun t' h' tk' F2 N2 => ?_
      · obtain ⟨y, ty, rfl, hy⟩ := hsv.at hv
        dsimp only
        rw [List.getD_eq_getElem?_getD, hy, Option.getD_some]
        exact ltOk_str _ _ _ _ _ _ _
      rw [hsl, cut_ok (nums_len ks) hbs (bets_four (nums_len ks) hm0b) (bets_ok hm0b).1]
      dsimp only at F2 N2 ⊢
      iterate 4 (first | (k_unfold; (try dsimp only)) | walk1 | (dsimp only; walk1) | (leave1; (try dsimp only)) | skip)
      refine compR (s := Shared.mk _ _ _ _ _) (cl := [(Str.ofString "meant", s₁.heap.objs.size + 1 + 1 + 1 + 1)]) (names := [Str.ofString "bet"]) (n := 9) (P' := fun i vals => ∃ D vs r, vals = [.ref D] ∧ LAt np D vs ∧ IntsAre vs r ∧ bs[i]? = some r) (by rfl) (by decide) (by rfl) (by decide) (by decide) (by decide)
        (fun i ys made => made = [] ∧ ys.length = ((bs.take i).filter fun b => ltL b m0).length) ⟨rfl, rfl⟩ ?it ?turn ?done
      case it =>
        iterate 1 (first | (k_unfold; (try dsimp only)) | walk1 | (dsimp only; walk1) | (leave1; (try dsimp only)) | skip)
        exact srcRows (s := Shared.mk _ _ _ _ _) rfl (fun _ _ e => e) (Nat.le_refl _) (lB.list N2) rB hlb
      case turn =>
        intro i ys made C h2 tk2 m2 own vals hin hJ hln hP F3 N3
        dsimp only at F3 N3
        obtain ⟨D, vsD, r, rfl, lD, hI, hr⟩ := hP
        have F4 := has.fr F3 (ps := [(Str.ofString "bet", .ref D)]) (has.cons rfl has.nil)
        have hcell : h2.IsCell (s₁.heap.objs.size + 1 + 1 + 1 + 1) (some (.ref Mt)) := cell_kept F3.keep (cM.cell N2)
        clear F3
        refine oneTest ?_
        iterate 5 (first | (k_unfold; (try dsimp only)) | walk1 | (dsimp only; walk1) | (leave1; (try dsimp only)) | skip)
        refine item_use (j := 0) (s := Shared.mk _ _ _ _ _) (list_kept F4.keep (lM.list N2)) (by rw [rM.len]; show 1 < 2 ^ 60; decide) hu0 ?_
        refine lt_lists (s := Shared.mk _ _ _ _ _) (list_kept F4.keep (lD.list N2)) (list_kept F4.keep (lDm.list N2)) hI iDm (by dsimp only [Around.deeper, Around.in1]; decide) ?_
        rw [List.take_add_one, hr, List.filter_append]
        cases hb : ltL r m0
        · iterate 2 (first | (k_unfold; (try dsimp only)) | walk1 | (dsimp only; walk1) | (leave1; (try dsimp only)) | skip)
          refine SkipEnd.mk F4 N3 ⟨hJ.1, ?_⟩
          simp only [Option.toList_some, List.filter_cons, hb, Bool.false_eq_true, if_false, List.filter_nil, List.append_nil]
          exact hJ.2
        · iterate 3 (first | (k_unfold; (try dsimp only)) | walk1 | (dsimp only; walk1) | (leave1; (try dsimp only)) | skip)
          refine EltEnd.mk F4 N3 ⟨hJ.1, ?_⟩
          simp only [Option.toList_some, List.filter_cons, hb, if_true, List.filter_nil, List.length_append, hJ.2]
          rfl
      case done =>
        refine compLed F2 N2 fun D ys k made h' tk hJ F N hne => ?_
        obtain ⟨rfl, hlen⟩ := hJ
        rw [List.take_of_length_le (by omega)] at hlen
        have hle9 := List.length_filter_le (fun b => ltL b m0) bs
        dsimp only at F N ⊢
        have hup : ∀ p ∈ np, p ∈ (D, W.listOf ys.toArray k) :: ([] ++ np) := fun p hp => .tail _ hp
        iterate 1 (first | (k_unfold; (try dsimp only)) | walk1 | (dsimp only; walk1) | (leave1; (try dsimp only)) | skip)
        refine len_use (s := Shared.mk _ _ _ _ _) (LAt.list ⟨k, .head _⟩ N) (by omega) ?_
        rw [hlen]
        iterate 2 (first | (k_unfold; (try dsimp only)) | walk1 | (dsimp only; walk1) | (leave1; (try dsimp only)) | skip)
        refine ⟨by simp, ?_⟩
        exact CutN.go F N ⟨has.cons rfl (has.cons rfl (has.cons rfl (has.cons rfl (has.cons rfl has.nil)))), lR.mono hup, lS.mono hup, cR.mono hup, cX.mono hup, cS.mono hup⟩
    clear lB rB lR lS lT lN lM rM cR cT cX cM cS Fp Np q22
    rintro hg15 tkg15 mg15 nq Fq Nq ⟨q23, lR, lS, cR, cX, cS⟩
    refine seqN1 (s := s₁) (g := s₁.heap) (L := s₁.heap.objs.size) (fun m nx => ∃ tS, has [(Str.ofString "shelf", .ref S)] m ∧ LAt nx S sv ∧ CAt nx (s₁.heap.objs.size + 1 + 1 + 1) (some (.str (ofL (spell (tenthOf (nums ks)) (rowsOf (nums ks)))) tt)) ∧ CAt nx (s₁.heap.objs.size + 1 + 1 + 1 + 1 + 1) (some (.str (ofL (sentOf (nums ks))) tS))) ?_ ?_
    · have F1 := has.fr Fq q23
      clear Fq q23
      refine one ?_
      refine wpAny_Assign_Name ?_ (by rfl)
      iterate 5 (first | (k_unfold; (try dsimp only)) | walk1 | (dsimp only; walk1) | (leave1; (try dsimp only)) | skip)
      refine compR (s := Shared.mk _ _ _ _ _) (cl := []) (names := [Str.ofString "row"]) (n := 4) (P' := fun i vals => ∃ x t, vals = [.str (ofL x) t] ∧ (rowsOf (nums ks))[i]? = some x) (by rfl) (by decide) (by rfl) (by decide) (by decide) (by decide)
        (fun i ys made => made = [] ∧ StrsAt ys (((rowsOf (nums ks)).take i).map sentRow)) ⟨rfl, .nil⟩ ?it ?turn ?done
      case it =>
        refine ldCell (s := Shared.mk _ _ _ _ _) Nq rfl cR ?_
        exact srcStrs (s := Shared.mk _ _ _ _ _) rfl (fun _ _ e => e) (Nat.le_refl _) (lR.list Nq) i4 (rows_len (nums_len ks))
      case turn =>
        intro i ys made C h2 tk2 m2 own vals hin hJ hln hP F2 N2
        dsimp only at F2 N2
        rw [List.forIn_nil]
        refine wpAny_pure ?_
        rw [if_pos rfl]
        obtain ⟨r, rt, rfl, hr⟩ := hP
        have hrl := rows_ok (List.mem_of_getElem? hr)
        have hrp := rows_pos (List.mem_of_getElem? hr)
        have F3 := has.fr F2 (ps := [(Str.ofString "row", .str (ofL r) rt)]) (has.cons rfl has.nil)
        clear F2
        iterate 8 (first | (k_unfold; (try dsimp only)) | walk1 | (dsimp only; walk1) | (leave1; (try dsimp only)) | skip)
        refine my_item (j := 0) (s := Shared.mk _ _ _ _ _) (by omega) hrp ?_
        iterate 2 (first | (k_unfold; (try dsimp only)) | walk1 | (dsimp only; walk1) | (leave1; (try dsimp only)) | skip)
        rw [dot_beq]
        by_cases hc : r.getD 0 0 = 46
        · rw [decide_eq_true hc]
          iterate 5 (first | (k_unfold; (try dsimp only)) | walk1 | (dsimp only; walk1) | (leave1; (try dsimp only)) | skip)
          refine add_use (by rw [show (Str.ofString ".").length = 1 from rfl, ofL_len]; omega) fun t1 k1 => ?_
          refine add_use (by rw [show (Str.ofString "\r\n").length = 2 from rfl, ofL_len, List.length_append, ofL_cps, show (Str.ofString ".").cps.toList.length = 1 from rfl]; omega) fun t2 k2 => ?_
          refine EltEnd.mk F3 N2 ⟨hJ.1, ?_⟩
          have e : (Str.ofString "\r\n").cps.toList ++ (ofL ((Str.ofString ".").cps.toList ++ (ofL r).cps.toList)).cps.toList = sentRow r := by
            unfold sentRow
            rw [if_pos hc]
            rfl
          rw [List.take_add_one, hr, List.map_append, e]
          exact hJ.2.snoc _ _
        · rw [decide_eq_false hc]
          iterate 3 (first | (k_unfold; (try dsimp only)) | walk1 | (dsimp only; walk1) | (leave1; (try dsimp only)) | skip)
          refine add_use (by rw [show (Str.ofString "\r\n").length = 2 from rfl, ofL_len]; omega) fun t2 k2 => ?_
          refine EltEnd.mk F3 N2 ⟨hJ.1, ?_⟩
          have e : (Str.ofString "\r\n").cps.toList ++ (ofL r).cps.toList = sentRow r := by
            unfold sentRow
            rw [if_neg hc]
            rfl
          rw [List.take_add_one, hr, List.map_append, e]
          exact hJ.2.snoc _ _
      case done =>
        refine compLed F1 Nq fun D ys k made h' tk hJ F N hne => ?_
        obtain ⟨rfl, hys⟩ := hJ
        rw [List.take_of_length_le (by rw [rows_len (nums_len ks)]; decide)] at hys
        dsimp only at F N ⊢
        have hup : ∀ p ∈ nq, p ∈ (D, W.listOf ys.toArray k) :: ([] ++ nq) := fun p hp => .tail _ hp
        iterate 1 (first | (k_unfold; (try dsimp only)) | walk1 | (dsimp only; walk1) | (leave1; (try dsimp only)) | skip)
        refine join_use (LAt.list ⟨k, .head _⟩ N) hys (Nat.le_trans (sent_short (nums_len ks)) (by decide)) fun t' k' => ?_
        refine stCell (s := Shared.mk _ _ _ _ _) F N rfl (cS.mono hup) fun h9 nx F9 N9 hl9 hc9 hS => ?_
        exact CutN.go F9 N9 ⟨t', has.cons rfl has.nil, hl9 _ _ (lS.mono hup), hc9 _ _ (cne _ 3 5 (by decide)) (cX.mono hup), hS⟩
    clear lR lS cR cX cS Fq Nq q23
    rintro hg16 tkg16 mg16 nr Fr' Nr' ⟨tS, q24, lS, cX, cS⟩
    refine one ?_
    · have F1 := has.fr Fr' q24
      clear Fr' q24
      have X7 := KX.keeps F1.keep
      have T7 := T.keeps F1.keep
      have hlb : bs.length = 9 := by rw [hbs.1.length_eq, betsOf_len]
      have htk := tenth_ok (nums ks) (nums_len ks)
      iterate 5 (first | (k_unfold; (try dsimp only)) | walk1 | (dsimp only; walk1) | (leave1; (try dsimp only)) | skip)
      refine compR (s := Shared.mk _ _ _ _ _) (cl := [(Str.ofString "sent", s₁.heap.objs.size + 1 + 1 + 1 + 1 + 1)]) (names := [Str.ofString "one"]) (n := 10) (P' := fun i vals => ∃ x t, vals = [.str (ofL x) t] ∧ ((bs.map fun f => spell f (rowsOf (nums ks))) ++ [spell (tenthOf (nums ks)) (rowsOf (nums ks))])[i]? = some x) (by rfl) (by decide) (by rfl) (by decide) (by decide) (by decide)
        (fun i ys made => made = [] ∧ LSm.BoolsAre ys (List.replicate i true)) ⟨rfl, .nil⟩ ?it ?turn ?done
      case it =>
        iterate 4 (first | (k_unfold; (try dsimp only)) | walk1 | (dsimp only; walk1) | (leave1; (try dsimp only)) | skip)
        refine ldCell (s := Shared.mk _ _ _ _ _) Nr' rfl cX ?_
        iterate 1 (first | (k_unfold; (try dsimp only)) | walk1 | (dsimp only; walk1) | (leave1; (try dsimp only)) | skip)
        refine newList_kept (s := Shared.mk _ _ _ _ _) (by show 1 ≤ 1000; decide) fun h5 D5 K5 z5 l5 => ?_
        dsimp only at K5 z5 l5 ⊢
        refine add_kept (s := Shared.mk _ _ _ _ _) (list_kept K5 (lS.list Nr')) l5 (by rw [hsv.len, List.length_map, hlb]; show 10 ≤ 1000; decide) fun h6 D6 K6 z6 l6 => ?_
        dsimp only at K6 z6 l6 ⊢
        exact srcStrs (s := Shared.mk _ _ _ _ _) rfl (K5.trans K6) (Nat.le_trans z5 z6) l6 (hsv.snoc _ _) (by rw [List.length_append, List.length_map, hlb]; rfl)
      case turn =>
        intro i ys made C h2 tk2 m2 own vals hin hJ hln hP F2 N2
        dsimp only at F2 N2
        rw [List.forIn_nil]
        refine wpAny_pure ?_
        rw [if_pos rfl]
        obtain ⟨x, xt, rfl, hx⟩ := hP
        have F3 := has.fr F2 (ps := [(Str.ofString "one", .str (ofL x) xt)]) (has.cons rfl has.nil)
        have hcell : h2.IsCell (s₁.heap.objs.size + 1 + 1 + 1 + 1 + 1) (some (.str (ofL (sentOf (nums ks))) tS)) := cell_kept F2.keep (cS.cell Nr')
        clear F2
        have hxo : quoted x = sentOf (nums ks) ∧ x.length ≤ 1000 := by
          rcases List.mem_append.mp (List.mem_of_getElem? hx) with hm | hm
          · obtain ⟨b, hb, rfl⟩ := List.mem_map.mp hm
            have hbb := hbs.1.mem_iff.mp hb
            exact ⟨quote_law (nums_len ks) (bets_four (nums_len ks) hbb) (bets_ok hbb).1, Nat.le_trans (spell_short (bets_ok hbb).2) (by decide)⟩
          · rw [List.mem_singleton.mp hm]
            exact ⟨quote_law (nums_len ks) htk.2 htk.1, Nat.le_trans (spell_short (by rw [htk.2]; exact Nat.le_refl _)) (by decide)⟩
        iterate 9 (first | (k_unfold; (try dsimp only)) | walk1 | (dsimp only; walk1) | (leave1; (try dsimp only)) | skip)
        refine quote_use (s := Shared.mk _ _ _ _ _) F3 N2 X7 T7 rfl (by dsimp only [Around.deeper]; decide) (by dsimp only [Around.deeper]; decide) hxo.2 fun t' h' tk' F4 N4 => ?_
        rw [hxo.1]
        dsimp only at F4 N4 ⊢
        have hcell4 : h'.IsCell (s₁.heap.objs.size + 1 + 1 + 1 + 1 + 1) (some (.str (ofL (sentOf (nums ks))) tS)) := cell_kept F4.keep (cS.cell Nr')
        iterate 2 (first | (k_unfold; (try dsimp only)) | walk1 | (dsimp only; walk1) | (leave1; (try dsimp only)) | skip)
        rw [beq_self_eq_true]
        refine EltEnd.mk F4 N4 ⟨hJ.1, ?_⟩
        rw [List.replicate_succ']
        exact bools_snoc hJ.2 true
      case done =>
        refine compLed F1 Nr' fun D ys k made h' tk hJ F N hne => ?_
        obtain ⟨rfl, hys⟩ := hJ
        dsimp only at F N ⊢
        iterate 1 (first | (k_unfold; (try dsimp only)) | walk1 | (dsimp only; walk1) | (leave1; (try dsimp only)) | skip)
        refine LSm.all_bools (s := Shared.mk _ _ _ _ _) F N rfl (LAt.list ⟨k, .head _⟩ N) hys fun h3 tk3 F3 N3 => ?_
        have e : (List.replicate 10 true).all id = true := by decide
        rw [e]
        dsimp only at F3 ⊢
        exact ⟨rfl, h3, tk3, _, rfl, F3⟩
  · rintro fl s' ⟨rfl, h', tk, m', rfl, F'⟩
    refine goodW_bool F' hg (raisesW_false ?_) ?_
    · wrow_none_raised
    · wrow_post


  · exact fun _ _ h => h.elim)
end Mine
end
set_option maxRecDepth 100000 in
set_option maxHeartbeats 8000000 in
theorem PySem.Challenge.cw_pg0173_01_holds : PySem.Challenge.rw_pg0173_01.Holds :=
  Mine.t
