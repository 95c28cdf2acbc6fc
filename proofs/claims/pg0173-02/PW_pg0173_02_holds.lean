import PyProof.Rows.All
import Wide.All
import OpenK.AllK
import Wide.FinOn
import PySem.Challenge.RW_pg0173_02
set_option Elab.async false
set_option rowWalk.seconds 0
section
open PySem PySem.W PyProof.Rows
namespace Mine
set_option maxRecDepth 100000
set_option maxHeartbeats 8000000
open_top hd for PySem.Challenge.rw_pg0173_02
end Mine
end
section
open PySem PySem.W PyProof.Rows PySem.Calls
set_option maxRecDepth 100000
namespace Mine

/-- everything that stood still stands -/
def Kept (h h' : Heap) : Prop := ∀ b o, h.get? b = some o → h'.get? b = some o
theorem Kept.refl (h : Heap) : Kept h h := fun _ _ e => e
theorem Kept.trans {a b c : Heap} (x : Kept a b) (y : Kept b c) : Kept a c := fun i o e => y i o (x i o e)

def flowVal : Flow → Value
  | .ret v => v
  | _ => .none

section
variable {prog : Program} {w : World} {A : Around} {s : Shared} {K : Frag} {p : Program} {loose : List Str} {mean : ExcName → Option Value} {mg mb : Str → Option Value}
  {name qual : Str} {params : Arguments} {body : List Stmt} {scope : Scope} {dV kV doc pm cdv ct oc : Value} {an od : Option Addr} {osl : Array (Option Value)} {f : Addr} {binds : List (Str × Value)} {Q E : Value → Shared → Prop}
  {pos : List Value} {kw : List (Str × Value)}

theorem enter (X : K.In s.heap) (T : Top p loose mean mg mb s.heap) (hroom : A.depth < recursionLimit)
    (ho : K.lookup f = some ⟨oc, od, .func (fnOf name qual params body scope dV kV doc pm an cdv ct), osl⟩) (hcd : codeIn K cdv qual = true)
    (hbind : BindsTo s (fnOf name qual params body scope dV kV doc pm an cdv ct) ⟨pos, kw⟩ binds) (hloc : ∀ y ∈ binds, scope.names.lookup y.1 = some .local)
    (hco : scope.isCoroutine = false) (hgen : scope.isGenerator = false) (hk : scope.kind = .function) (hcell : ∀ x ∈ scope.names, x.2 ≠ .cell)
    (h : ∀ L h₁ tk, Fr s.heap L h₁ (fun y => binds.reverse.lookup y) → News s.heap L h₁ [] →
      wpAny (model prog w) (A.deeper (envOf qual scope L f cdv)) (execs body (envOf qual scope L f cdv)) (fun fl s' => Q (flowVal fl) s') (fun _ _ => False) { s with heap := h₁, toks := tk }) :
    wpAny (model prog w) A (call (.ref f) pos kw) Q E s := by
  refine wpAny_call ?_
  refine codeAny_call_def (fd := fnOf name qual params body scope dV kV doc pm an cdv ct) (body := body) (binds := binds) hroom (X _ _ ho) rfl T.nolimit (codeRec_of X hcd) rfl hbind hcell hloc (fun h₁ hns hk₁ => ?_) hco hgen hk
  refine wpAny_mono (h s.heap.objs.size h₁ _ ⟨hns, fun b o e => hk₁ b o e, Nat.le_refl _⟩ News.nil) (fun fl s' hq => ?_) fun _ _ x => x.elim
  cases fl <;> exact hq
end

section
variable {prog : Program} {w : World} {A : Around} {s : Shared} {K : Frag} {p : Program} {loose : List Str} {mean : ExcName → Option Value} {mg mb : Str → Option Value}
  {name qual : Str} {params : Arguments} {body : List Stmt} {scope : Scope} {dV kV doc pm cdv ct oc : Value} {an od : Option Addr} {osl : Array (Option Value)} {f : Addr} {binds : List (Str × Value)} {Q E : Value → Shared → Prop}
  {pos : List Value} {kw : List (Str × Value)} {la : Addr} {o : Obj}
/-- a call that may change the one object at la -/
theorem enterM (hla : s.heap.get? la = some o) (X : K.In s.heap) (T : Top p loose mean mg mb s.heap) (hroom : A.depth < recursionLimit)
    (ho : K.lookup f = some ⟨oc, od, .func (fnOf name qual params body scope dV kV doc pm an cdv ct), osl⟩) (hcd : codeIn K cdv qual = true)
    (hbind : BindsTo s (fnOf name qual params body scope dV kV doc pm an cdv ct) ⟨pos, kw⟩ binds) (hloc : ∀ y ∈ binds, scope.names.lookup y.1 = some .local)
    (hco : scope.isCoroutine = false) (hgen : scope.isGenerator = false) (hk : scope.kind = .function) (hcell : ∀ x ∈ scope.names, x.2 ≠ .cell)
    (h : ∀ L h₁ tk, Fr (s.heap.hide la) L h₁ (fun y => binds.reverse.lookup y) → News (s.heap.hide la) L h₁ [(la, o)] →
      wpAny (model prog w) (A.deeper (envOf qual scope L f cdv)) (execs body (envOf qual scope L f cdv)) (fun fl s' => Q (flowVal fl) s') (fun _ _ => False) { s with heap := h₁, toks := tk }) :
    wpAny (model prog w) A (call (.ref f) pos kw) Q E s := by
  refine wpAny_call ?_
  refine codeAny_call_def (fd := fnOf name qual params body scope dV kV doc pm an cdv ct) (body := body) (binds := binds) hroom (X _ _ ho) rfl T.nolimit (codeRec_of X hcd) rfl hbind hcell hloc (fun h₁ hns hk₁ => ?_) hco hgen hk
  refine wpAny_mono (h s.heap.objs.size h₁ _ ⟨hns, fun b o e => hk₁ b o (Heap.of_hide e), Nat.le_of_eq (Heap.hide_size _ _)⟩ (fun p hp => ?_)) (fun fl s' hq => ?_) fun _ _ x => x.elim
  · rw [List.mem_singleton.mp hp]
    exact ⟨hk₁ _ _ hla, Nat.ne_of_lt (Heap.lt_size hla), Heap.hide_self _ _⟩
  · cases fl <;> exact hq
theorem hide_stays {g h : Heap} {L : Addr} {m : Str → Option Value} {rest : List (Addr × Obj)} (F : Fr g L h m) (N : News g L h ((la, o) :: rest)) : ∀ b x, g.get? b = some x → (h.hide la).get? b = some x := fun b x e => by
  have hne : b ≠ la := fun q => by
    have := (N _ (.head _)).2.2
    rw [← q, e] at this
    cases this
  rw [Heap.hide_ne _ hne]
  exact F.keep b x e
/-- back from such a call -/
theorem backM {g h h' : Heap} {L L' : Addr} {m m' : Str → Option Value} {o' : Obj} {rest : List (Addr × Obj)} (F : Fr g L h m) (N : News g L h ((la, o) :: rest)) (hr : ∀ p ∈ rest, p.1 ≠ la) (F' : Fr (h.hide la) L' h' m') (N' : News (h.hide la) L' h' [(la, o')]) :
    Fr g L h' m ∧ News g L h' ((la, o') :: rest) := by
  have st := hide_stays F N
  have hL : L ≠ la := fun q => (N _ (.head _)).2.1 q.symm
  obtain ⟨oL, es, ep, hL1, r⟩ := F.ns
  refine ⟨⟨⟨oL, es, ep, F'.keep _ _ ((Heap.hide_ne _ hL).trans hL1), r⟩, fun b x e => F'.keep b x (st b x e), F.above⟩, fun p hp => ?_⟩
  rcases List.mem_cons.mp hp with rfl | hp
  · exact ⟨(N' _ (.head _)).1, (N _ (.head _)).2⟩
  · have P := N p (.tail _ hp)
    exact ⟨F'.keep _ _ ((Heap.hide_ne _ (hr p hp)).trans P.1), P.2⟩
end

end Mine
namespace Mine
/-- a frame's map, its named places written out -/
def has (ps : List (Str × Value)) (m : Str → Option Value) : Prop := ∀ p ∈ ps, m p.1 = some p.2
theorem has.eq {ps : List (Str × Value)} {m : Str → Option Value} (h : has ps m) : kstB m ps = m := funext fun _ => kstB_eq h fun _ => rfl
theorem has.fr {g h : Heap} {L : Addr} {ps : List (Str × Value)} {m : Str → Option Value} (F : Fr g L h m) (hm : has ps m) : Fr g L h (kstB m ps) := by rw [hm.eq]; exact F
theorem has.nil {m : Str → Option Value} : has [] m := fun _ hp => nomatch hp
theorem has.cons {x : Str} {v : Value} {ps : List (Str × Value)} {m : Str → Option Value} (h : m x = some v) (r : has ps m) : has ((x, v) :: ps) m := fun p hp => by
  rcases List.mem_cons.mp hp with rfl | hp
  · exact h
  · exact r p hp
end Mine

namespace Mine
/-- behind a piece of a body: the frame, the ledger, what is said of the map and the heap -/
def Aft (g : Heap) (L : Addr) (s : Shared) (news : List (Addr × Obj)) (R : (Str → Option Value) → Heap → Prop) (s' : Shared) : Prop :=
  ∃ h' tk m', s' = { s with heap := h', toks := tk } ∧ Fr g L h' m' ∧ News g L h' news ∧ R m' h'
theorem Aft.mk {g : Heap} {L : Addr} {s : Shared} {news : List (Addr × Obj)} {R : (Str → Option Value) → Heap → Prop} {h' : Heap} {tk : Tok} {m' : Str → Option Value} (F : Fr g L h' m') (N : News g L h' news) (r : R m' h') :
    Aft g L s news R { s with heap := h', toks := tk } := ⟨h', tk, m', rfl, F, N, r⟩
end Mine
namespace Mine
/-- how a piece of a body ends: it goes on (the frame, the ledger, R), or it returns and the whole's Q holds -/
def Cut (Q : Flow → Shared → Prop) (g : Heap) (L : Addr) (s : Shared) (news : List (Addr × Obj)) (R : (Str → Option Value) → Heap → Prop) (fl : Flow) (s' : Shared) : Prop :=
  (fl = .next ∧ Aft g L s news R s') ∨ ((∃ v, fl = .ret v) ∧ Q fl s')
section
variable {Q : Flow → Shared → Prop} {g : Heap} {L : Addr} {s : Shared} {news : List (Addr × Obj)} {R : (Str → Option Value) → Heap → Prop}
theorem Cut.go {h' : Heap} {tk : Tok} {m' : Str → Option Value} (F : Fr g L h' m') (N : News g L h' news) (r : R m' h') : Cut Q g L s news R .next { s with heap := h', toks := tk } :=
  .inl ⟨rfl, h', tk, m', rfl, F, N, r⟩
theorem Cut.back {v : Value} {s' : Shared} (h : Q (.ret v) s') : Cut Q g L s news R (.ret v) s' := .inr ⟨⟨v, rfl⟩, h⟩

variable {prog : Program} {w : World} {A : Around} {E : Value → Shared → Prop} {env : Env} {h₀ : Heap} {tk₀ : Tok}
theorem execs_app (xs ys : List Stmt) : execs (xs ++ ys) env = (do match ← execs xs env with | .next => execs ys env | f => pure f) := by
  induction xs with
  | nil =>
    show execs ys env = _
    have e : execs [] env = (pure Flow.next : Sem Flow) := by rw [execs]
    rw [e, pure_bind]
  | cons x xs ih =>
    have e1 : ∀ zs, execs (x :: zs) env = (do match ← exec x env with | .next => execs zs env | f => pure f) := fun zs => by rw [execs]; rfl
    rw [List.cons_append, e1, e1, bind_assoc]
    congr 1
    funext fl
    cases fl <;> first | exact ih | rw [pure_bind]

theorem seqn (xs : List Stmt) {ys : List Stmt} (R : (Str → Option Value) → Heap → Prop) (h1 : wpAny (model prog w) A (execs xs env) (Cut Q g L s news R) E { s with heap := h₀, toks := tk₀ })
    (h2 : ∀ h' tk m', Fr g L h' m' → News g L h' news → R m' h' → wpAny (model prog w) A (execs ys env) Q E { s with heap := h', toks := tk }) :
    wpAny (model prog w) A (execs (xs ++ ys) env) Q E { s with heap := h₀, toks := tk₀ } := by
  rw [execs_app]
  refine wpAny_bind (wpAny_mono h1 (fun fl s' hc => ?_) fun _ _ x => x)
  rcases hc with ⟨rfl, h', tk, m', rfl, F, N, r⟩ | ⟨⟨v, rfl⟩, hq⟩
  · exact h2 h' tk m' F N r
  · exact wpAny_pure hq
theorem seq1 {a : Stmt} {ys : List Stmt} (R : (Str → Option Value) → Heap → Prop) (h1 : wpAny (model prog w) A (execs [a] env) (Cut Q g L s news R) E { s with heap := h₀, toks := tk₀ })
    (h2 : ∀ h' tk m', Fr g L h' m' → News g L h' news → R m' h' → wpAny (model prog w) A (execs ys env) Q E { s with heap := h', toks := tk }) :
    wpAny (model prog w) A (execs (a :: ys) env) Q E { s with heap := h₀, toks := tk₀ } := seqn [a] R h1 h2
theorem seq2 {a b : Stmt} {ys : List Stmt} (R : (Str → Option Value) → Heap → Prop) (h1 : wpAny (model prog w) A (execs [a, b] env) (Cut Q g L s news R) E { s with heap := h₀, toks := tk₀ })
    (h2 : ∀ h' tk m', Fr g L h' m' → News g L h' news → R m' h' → wpAny (model prog w) A (execs ys env) Q E { s with heap := h', toks := tk }) :
    wpAny (model prog w) A (execs (a :: b :: ys) env) Q E { s with heap := h₀, toks := tk₀ } := seqn [a, b] R h1 h2
theorem seq3 {a b c : Stmt} {ys : List Stmt} (R : (Str → Option Value) → Heap → Prop) (h1 : wpAny (model prog w) A (execs [a, b, c] env) (Cut Q g L s news R) E { s with heap := h₀, toks := tk₀ })
    (h2 : ∀ h' tk m', Fr g L h' m' → News g L h' news → R m' h' → wpAny (model prog w) A (execs ys env) Q E { s with heap := h', toks := tk }) :
    wpAny (model prog w) A (execs (a :: b :: c :: ys) env) Q E { s with heap := h₀, toks := tk₀ } := seqn [a, b, c] R h1 h2

/-- one statement, alone: its end -/
theorem one {a : Stmt} (h : wpAny (model prog w) A (exec a env) Q E s) : wpAny (model prog w) A (execs [a] env) Q E s := by
  have e1 : execs [a] env = (do match ← exec a env with | .next => execs [] env | f => pure f) := by rw [execs]; rfl
  rw [e1]
  refine wpAny_bind (wpAny_mono h (fun fl s' hq => ?_) fun _ _ x => x)
  cases fl <;> first | exact wpAny_pure hq | (rw [execs]; exact wpAny_pure hq)
end
end Mine

namespace Mine
section
variable {Q : Flow → Shared → Prop} {g : Heap} {L : Addr} {s : Shared} {news : List (Addr × Obj)} {R : (Str → Option Value) → Heap → Prop}
  {prog : Program} {w : World} {A : Around} {E : Value → Shared → Prop} {env : Env} {h₀ : Heap} {tk₀ : Tok}
theorem whileR {test : Expr} {body : List Stmt} {pos : Pos} {m₀ : Str → Option Value} {n₀ : Nat} (I : Nat → (Str → Option Value) → Prop) (F : Fr g L h₀ m₀) (N : News g L h₀ news) (h0 : I n₀ m₀)
    (turn : ∀ n m h tk, Fr g L h m → News g L h news → I n m → wpAny (model prog w) A (isTrue test env (eval test env)) (fun b s₂ =>
      if b = true then wpAny (model prog w) A (execs body env) (Cut (fun _ _ => False) g L s news (fun m' _ => ∃ n', n' < n ∧ I n' m')) E s₂ else Aft g L s news R s₂) E { s with heap := h, toks := tk })
    (hE : PassesOwn (model prog w) A env E := by passes_own) :
    wpAny (model prog w) A (exec (.While test body [] pos) env) (Cut Q g L s news R) E { s with heap := h₀, toks := tk₀ } := by
  refine While_inv2 (s := { s with heap := h₀, toks := tk₀ }) (fun n m nx => nx = news ∧ I n m) F N ⟨rfl, h0⟩ ?_ hE
  rintro n m nx h tk F1 N1 ⟨rfl, hI⟩
  refine wpAny_mono (turn n m h tk F1 N1 hI) (fun b s₂ q => ?_) fun _ _ x => x
  cases b with
  | false =>
    simp only [Bool.false_eq_true, if_false] at q ⊢
    exact .inl ⟨rfl, q⟩
  | true =>
    simp only [if_true] at q ⊢
    refine wpAny_mono q (fun fl s₃ c => ?_) fun _ _ x => x
    rcases c with ⟨rfl, h', tk', m', rfl, F', N', n', hn, hI'⟩ | ⟨_, hF⟩
    · exact ⟨h', tk', m', _, n', rfl, F', N', hn, rfl, hI'⟩
    · exact hF.elim
end
end Mine

theorem Mine.has.append {ps qs : List (Str × Value)} {m : Str → Option Value} (h : Mine.has ps m) (k : Mine.has qs m) : Mine.has (ps ++ qs) m := fun p hp => (List.mem_append.mp hp).elim (h p) (k p)
end
section
open PySem PySem.W PyProof.Rows PySem.Calls
namespace Mine

def ofL (l : List Nat) : Str := ⟨l.toArray⟩
theorem ofL_inj {a b : List Nat} : ofL a = ofL b ↔ a = b := by
  constructor
  · intro h
    have := congrArg (fun x => x.cps.toList) h
    simpa [ofL] using this
  · rintro rfl; rfl
theorem ofL_len (l : List Nat) : (ofL l).length = l.length := by simp [ofL, Str.length]
theorem ofL_cps (l : List Nat) : (ofL l).cps.toList = l := by simp [ofL]
theorem ofL_beq (a b : List Nat) : (ofL a == ofL b) = decide (a = b) := by
  rw [Bool.eq_iff_iff, beq_iff_eq, ofL_inj, decide_eq_true_iff]

theorem slice_from (l : List Nat) {k : Int} (h0 : 0 ≤ k) (h1 : k ≤ l.length) : Txt.slice (ofL l) (some k) none = ofL (l.drop k.toNat) := by
  rw [slice_from_eq (b := ((ofL l).length : Int)) h0 (by rw [ofL_len]; exact h1) rfl, ofL_cps, ofL_len]
  unfold ofL
  congr 2
  rw [List.take_of_length_le]
  rw [List.length_drop]
  omega
theorem slice_to (l : List Nat) {j : Int} (h0 : j < 0) (h1 : -(l.length : Int) ≤ j) : Txt.slice (ofL l) none (some j) = ofL (l.take (l.length + j).toNat) := by
  have := slice_closes_to_neg (x := ofL l) (j := j) (k := j + (ofL l).length) h0 (by rw [ofL_len]; exact h1) rfl
  rw [beq_iff_eq.mp this, ofL_cps, ofL_len]
  unfold ofL
  congr 2
  simp only [Int.toNat_zero, List.drop_zero]
  congr 1
  omega
theorem slice_all (x : Str) : Txt.slice x none none = x := by
  have e : (Builtin.Str.strSliceIndices none none 1 x.length).length = x.length := by
    have h := sliceRange_one 0 x.length
    simp [Builtin.Str.strSliceIndices]
    have h2 : sliceRange 0 (x.length : Int) 1 = (List.range (x.length - 0)).map (0 + ·) := h
    rw [h2]
    simp
  unfold Txt.slice
  rw [e]
  simp
theorem item_at (l : List Nat) {k : Int} (h0 : 0 ≤ k) (h1 : k < l.length) : Txt.item (ofL l) k = ofL [l.getD k.toNat 0] := by
  have := item_closes (x := ofL l) (i := k) ⟨h0, by rw [ofL_len]; exact h1⟩
  rw [beq_iff_eq.mp this]
  simp [ofL]
theorem item_neg (l : List Nat) {k : Int} (h0 : k < 0) (h1 : -(l.length : Int) ≤ k) : Txt.item (ofL l) k = ofL [l.getD (l.length + k).toNat 0] := by
  have := item_closes_neg (x := ofL l) (i := k) h0 (by rw [ofL_len]; exact h1) rfl
  rw [beq_iff_eq.mp this, ofL_len]
  have e : (k + (l.length : Int)).toNat = (l.length + k).toNat := by congr 1; omega
  rw [e]
  simp [ofL]

def cpl : List Nat → List Nat → Nat
  | x :: xs, y :: ys => if x = y then cpl xs ys + 1 else 0
  | _, _ => 0
theorem cpl_nil_l (b : List Nat) : cpl [] b = 0 := by cases b <;> rfl
theorem cpl_nil_r (a : List Nat) : cpl a [] = 0 := by cases a <;> rfl
theorem cpl_le_l : ∀ a b : List Nat, cpl a b ≤ a.length
  | [], b => by simp [cpl_nil_l]
  | x :: xs, [] => by simp [cpl_nil_r]
  | x :: xs, y :: ys => by
    have := cpl_le_l xs ys
    simp only [cpl, List.length_cons]
    split <;> omega
theorem cpl_comm : ∀ a b : List Nat, cpl a b = cpl b a
  | [], b => by simp [cpl_nil_l, cpl_nil_r]
  | x :: xs, [] => by simp [cpl_nil_l, cpl_nil_r]
  | x :: xs, y :: ys => by
    simp only [cpl]
    rw [cpl_comm xs ys]
    by_cases h : x = y
    · subst h; rfl
    · rw [if_neg h, if_neg (Ne.symm h)]
theorem cpl_le_r (a b : List Nat) : cpl a b ≤ b.length := by rw [cpl_comm]; exact cpl_le_l b a
theorem drop_cons (l : List Nat) (k : Nat) (h : k < l.length) : l.drop k = l.getD k 0 :: l.drop (k + 1) := by
  rw [List.drop_eq_getElem_cons h]
  congr 1
  simp [List.getD_eq_getElem?_getD, List.getElem?_eq_getElem h]

section
variable {la lb : List Nat} {k : Int} {N : Nat}
theorem pre_go (h0 : 0 ≤ k) (hka : k ≤ la.length) (hkb : k ≤ lb.length) (hc : k + cpl (la.drop k.toNat) (lb.drop k.toNat) = (N : Int))
    (ha : ((Txt.slice (ofL la) (some k) none).length : Int) ≠ 0) (hb : ((Txt.slice (ofL lb) (some k) none).length : Int) ≠ 0) (he : (Txt.item (ofL la) k == Txt.item (ofL lb) k) = true) :
    k + 1 ≤ la.length ∧ k + 1 ≤ lb.length ∧ (k + 1) + cpl (la.drop (k + 1).toNat) (lb.drop (k + 1).toNat) = (N : Int) := by
  rw [slice_from la h0 hka, ofL_len, List.length_drop] at ha
  rw [slice_from lb h0 hkb, ofL_len, List.length_drop] at hb
  have h1 : k < la.length := by omega
  have h2 : k < lb.length := by omega
  rw [item_at la h0 h1, item_at lb h0 h2, ofL_beq, decide_eq_true_iff] at he
  have he' : la.getD k.toNat 0 = lb.getD k.toNat 0 := by simpa using he
  refine ⟨by omega, by omega, ?_⟩
  rw [drop_cons la k.toNat (by omega), drop_cons lb k.toNat (by omega)] at hc
  simp only [cpl, he', if_true] at hc
  have e : (k + 1).toNat = k.toNat + 1 := by omega
  rw [e]
  push_cast at hc
  omega
theorem pre_stop_a (h0 : 0 ≤ k) (hka : k ≤ la.length) (hc : k + cpl (la.drop k.toNat) (lb.drop k.toNat) = (N : Int))
    (ha : ((Txt.slice (ofL la) (some k) none).length : Int) = 0) : k = N := by
  rw [slice_from la h0 hka, ofL_len, List.length_drop] at ha
  have : la.drop k.toNat = [] := List.drop_eq_nil_of_le (by omega)
  rw [this, cpl_nil_l] at hc
  omega
theorem pre_stop_b (h0 : 0 ≤ k) (hkb : k ≤ lb.length) (hc : k + cpl (la.drop k.toNat) (lb.drop k.toNat) = (N : Int))
    (hb : ((Txt.slice (ofL lb) (some k) none).length : Int) = 0) : k = N := by
  rw [slice_from lb h0 hkb, ofL_len, List.length_drop] at hb
  have : lb.drop k.toNat = [] := List.drop_eq_nil_of_le (by omega)
  rw [this, cpl_nil_r] at hc
  omega
theorem pre_stop_c (h0 : 0 ≤ k) (hka : k ≤ la.length) (hkb : k ≤ lb.length) (hc : k + cpl (la.drop k.toNat) (lb.drop k.toNat) = (N : Int))
    (ha : ((Txt.slice (ofL la) (some k) none).length : Int) ≠ 0) (hb : ((Txt.slice (ofL lb) (some k) none).length : Int) ≠ 0) (he : (Txt.item (ofL la) k == Txt.item (ofL lb) k) = false) : k = N := by
  rw [slice_from la h0 hka, ofL_len, List.length_drop] at ha
  rw [slice_from lb h0 hkb, ofL_len, List.length_drop] at hb
  have h1 : k < la.length := by omega
  have h2 : k < lb.length := by omega
  rw [item_at la h0 h1, item_at lb h0 h2, ofL_beq, decide_eq_false_iff_not] at he
  have he' : la.getD k.toNat 0 ≠ lb.getD k.toNat 0 := by simpa using he
  rw [drop_cons la k.toNat (by omega), drop_cons lb k.toNat (by omega)] at hc
  simp only [cpl, he', if_false] at hc
  omega
end

theorem rev_getD (l : List Nat) (j : Nat) (h : j < l.length) : l.reverse.getD j 0 = l.getD (l.length - 1 - j) 0 := by
  rw [List.getD_eq_getElem?_getD, List.getD_eq_getElem?_getD, List.getElem?_reverse h]
section
variable {xa xb : List Nat} {k : Int} {N : Nat}
theorem post_item {l : List Nat} {k : Int} (h0 : k ≤ 0) (h1 : -(l.length : Int) < k) : Txt.item (ofL l) (k - 1) = ofL [l.reverse.getD (-k).toNat 0] := by
  rw [item_neg l (by omega) (by omega), rev_getD l _ (by omega)]
  have e : ((l.length : Int) + (k - 1)).toNat = l.length - 1 - (-k).toNat := by omega
  rw [e]
theorem post_go (h0 : k ≤ 0) (hka : -(xa.length : Int) < k) (hkb : -(xb.length : Int) < k) (hc : -k + cpl (xa.reverse.drop (-k).toNat) (xb.reverse.drop (-k).toNat) = (N : Int))
    (he : (Txt.item (ofL xa) (k - 1) == Txt.item (ofL xb) (k - 1)) = true) : -(k - 1) + cpl (xa.reverse.drop (-(k - 1)).toNat) (xb.reverse.drop (-(k - 1)).toNat) = (N : Int) := by
  rw [post_item h0 hka, post_item h0 hkb, ofL_beq, decide_eq_true_iff] at he
  have he' : xa.reverse.getD (-k).toNat 0 = xb.reverse.getD (-k).toNat 0 := by simpa using he
  rw [drop_cons xa.reverse (-k).toNat (by rw [List.length_reverse]; omega), drop_cons xb.reverse (-k).toNat (by rw [List.length_reverse]; omega)] at hc
  simp only [cpl, he', if_true] at hc
  have e : (-(k - 1)).toNat = (-k).toNat + 1 := by omega
  rw [e]
  push_cast at hc
  omega
theorem post_stop_c (h0 : k ≤ 0) (hka : -(xa.length : Int) < k) (hkb : -(xb.length : Int) < k) (hc : -k + cpl (xa.reverse.drop (-k).toNat) (xb.reverse.drop (-k).toNat) = (N : Int))
    (he : (Txt.item (ofL xa) (k - 1) == Txt.item (ofL xb) (k - 1)) = false) : k = -(N : Int) := by
  rw [post_item h0 hka, post_item h0 hkb, ofL_beq, decide_eq_false_iff_not] at he
  have he' : xa.reverse.getD (-k).toNat 0 ≠ xb.reverse.getD (-k).toNat 0 := by simpa using he
  rw [drop_cons xa.reverse (-k).toNat (by rw [List.length_reverse]; omega), drop_cons xb.reverse (-k).toNat (by rw [List.length_reverse]; omega)] at hc
  simp only [cpl, he', if_false] at hc
  omega
theorem post_stop_a (h0 : k ≤ 0) (hka : k = -(xa.length : Int)) (hc : -k + cpl (xa.reverse.drop (-k).toNat) (xb.reverse.drop (-k).toNat) = (N : Int)) : k = -(N : Int) := by
  have : xa.reverse.drop (-k).toNat = [] := List.drop_eq_nil_of_le (by rw [List.length_reverse]; omega)
  rw [this, cpl_nil_l] at hc
  omega
theorem post_stop_b (h0 : k ≤ 0) (hkb : k = -(xb.length : Int)) (hc : -k + cpl (xa.reverse.drop (-k).toNat) (xb.reverse.drop (-k).toNat) = (N : Int)) : k = -(N : Int) := by
  have : xb.reverse.drop (-k).toNat = [] := List.drop_eq_nil_of_le (by rw [List.length_reverse]; omega)
  rw [this, cpl_nil_r] at hc
  omega
end
theorem take_len (l : List Nat) {k : Int} (h0 : k ≤ 0) (h1 : -(l.length : Int) ≤ k) : ((l.take ((l.length : Int) + k).toNat).length : Int) = l.length + k := by
  rw [List.length_take]; omega

section
open PySem.Calls
variable {prog : Program} {w : World} {A : Around} {E : Value → Shared → Prop} {s : Shared} {h₀ : Heap} {L : Addr} {m : Str → Option Value} {news : List (Addr × Obj)} {Q : Value → Shared → Prop} {value slice : Expr} {l : List Nat} {t : Tok}
/-- x[:None] -/
theorem my_slice_nn (hF : Fr h₀ L s.heap m) (hN : News h₀ L s.heap news) (hl : l.length ≤ 40) (h : ∀ h' t' k, Fr h₀ L h' m → News h₀ L h' news → Q (.str (ofL l) t') { s with heap := h', toks := k })
    (hs : subscripted slice false (.str (ofL l) t) (.ref s.heap.objs.size) = operate [.ref s.heap.objs.size, .str (ofL l) t] (getItem (.str (ofL l) t) (.ref s.heap.objs.size)) := by with_unfolding_all rfl)
    (ht : ∀ r, letTemporaryGo value (.str (ofL l) t) r = pure () := by intro _; with_unfolding_all rfl) :
    wpAny (model prog w) A (subscriptTail value slice (.str (ofL l) t) (.ref s.heap.objs.size)) Q E { s with heap := s.heap.push { cls := .type "slice", data := .fields #[.none, .none, .none] } } :=
  slice_strN_nn hF hN (fun h' t' k a b => by rw [slice_all]; exact h h' t' k a b) hs ht (by rw [ofL_len, sizeLine_eq]; omega)
/-- x[:j], j below nought, in bounds -/
theorem my_slice_to {j : Int} {uj : Tok} (hF : Fr h₀ L s.heap m) (hN : News h₀ L s.heap news) (hl : l.length ≤ 40) (h0 : j < 0) (h1 : -(l.length : Int) ≤ j)
    (h : ∀ h' t' k, Fr h₀ L h' m → News h₀ L h' news → ((ofL (l.take ((l.length : Int) + j).toNat)).length : Int) = l.length + j → Q (.str (ofL (l.take ((l.length : Int) + j).toNat)) t') { s with heap := h', toks := k })
    (hs : subscripted slice false (.str (ofL l) t) (.ref s.heap.objs.size) = operate [.ref s.heap.objs.size, .str (ofL l) t] (getItem (.str (ofL l) t) (.ref s.heap.objs.size)) := by with_unfolding_all rfl)
    (ht : ∀ r, letTemporaryGo value (.str (ofL l) t) r = pure () := by intro _; with_unfolding_all rfl) :
    wpAny (model prog w) A (subscriptTail value slice (.str (ofL l) t) (.ref s.heap.objs.size)) Q E { s with heap := s.heap.push { cls := .type "slice", data := .fields #[.none, .int j uj, .none] } } :=
  slice_strN_ns hF hN (fun h' t' k a b => by rw [slice_to l h0 h1]; exact h h' t' k a b (by rw [ofL_len]; exact take_len l (by omega) h1)) hs ht (by rw [ofL_len, sizeLine_eq]; omega)
end
end Mine
end
section
open PySem PySem.W PyProof.Rows PySem.Calls
set_option maxRecDepth 100000
namespace Mine
section
variable {prog : Program} {w : World} {A : Around} {E : Value → Shared → Prop} {s : Shared} {env : Env} {g : Heap} {L : Addr} {m : Str → Option Value} {news : List (Addr × Obj)}

theorem my_list_range {r : Addr} {a b c : Int} {t u v : Tok} {n : Nat} {Q : Value → Shared → Prop} (hh : A.handled = none) (F : Fr g L s.heap m) (N : News g L s.heap news) (hr : IsRange s.heap r a b c t u v)
    (hsmall : Builtin.Range.small a b c = true) (hn : Builtin.Range.rangeSize a b c = n) (hlen : n ≤ 2 ^ 24)
    (hQ : ∀ h' tk D vs k, Fr g L h' m → News g L h' ((D, W.listOf vs.toArray k) :: news) → IntsAre vs (rangeInts a c n) → Q (.ref D) { s with heap := h', toks := tk }) :
    wpAny (model prog w) A (call (.type "list") [.ref r]) Q E s := by
  refine call_list_range hh hr hsmall hn hlen fun h' tk acc' c' hk hS' hacc => ?_
  refine hQ h' tk s.heap.objs.size acc'.toList c' (Fr.after F hk) (fun p hp => ?_) ?_
  · rcases List.mem_cons.mp hp with rfl | hp
    · refine ⟨by simpa [W.listOf] using hS', Nat.ne_of_gt F.ns.lt, ?_⟩
      cases e : g.get? s.heap.objs.size with
      | none => rfl
      | some o => exact absurd (Heap.lt_size (F.keep _ _ e)) (Nat.lt_irrefl _)
    · exact ⟨hk _ _ (N p hp).1, (N p hp).2⟩
  · have key : ∀ (l : List Value) (ns : List Int), l.length = ns.length → (∀ (j : Nat) (v : Value) (k : Int), l[j]? = some v → ns[j]? = some k → ∃ t, v = .int k t) → IntsAre l ns := by
      intro l
      induction l with
      | nil => intro ns hl _; cases ns with
        | nil => exact .nil
        | cons _ _ => simp at hl
      | cons v l ih =>
        intro ns hl hj
        cases ns with
        | nil => simp at hl
        | cons k ns =>
          obtain ⟨t, rfl⟩ := hj 0 v k rfl rfl
          exact .cons k t (ih ns (by simpa using hl) fun j v' k' h1 h2 => hj (j + 1) v' k' (by simpa using h1) (by simpa using h2))
    refine key _ _ (by simp [hacc.1, rangeInts_length]) fun j v k h1 h2 => ?_
    have hj : j < n := by
      have := (List.getElem?_eq_some_iff.mp h2).1
      rwa [rangeInts_length] at this
    rw [rangeInts_get hj] at h2
    cases h2
    exact hacc.2 j v (by simpa using h1)

/-- how a turn of a for ends -/
def Turn (Q : Flow → Shared → Prop) (g : Heap) (L : Addr) (s : Shared) (adr : List Addr) (own : List (Addr × Obj)) (J : (Str → Option Value) → List (Addr × Obj) → Prop) (fl : Flow) (s' : Shared) : Prop :=
  (fl = .next ∧ ∃ h' tk m' nx, s' = { s with heap := h', toks := tk } ∧ Fr g L h' m' ∧ News g L h' (nx ++ own) ∧ nx.map (·.1) = adr ∧ J m' nx) ∨ ((∃ v, fl = .ret v) ∧ Q fl s')
theorem Turn.go {Q : Flow → Shared → Prop} {s : Shared} {adr : List Addr} {own : List (Addr × Obj)} {J : (Str → Option Value) → List (Addr × Obj) → Prop} {h' : Heap} {tk : Tok} {m' : Str → Option Value} {nx : List (Addr × Obj)}
    (F : Fr g L h' m') (N : News g L h' (nx ++ own)) (ha : nx.map (·.1) = adr) (r : J m' nx) : Turn Q g L s adr own J .next { s with heap := h', toks := tk } := .inl ⟨rfl, h', tk, m', nx, rfl, F, N, ha, r⟩
theorem Turn.back {Q : Flow → Shared → Prop} {s : Shared} {adr : List Addr} {own : List (Addr × Obj)} {J : (Str → Option Value) → List (Addr × Obj) → Prop} {v : Value} {s' : Shared} (h : Q (.ret v) s') : Turn Q g L s adr own J (.ret v) s' := .inr ⟨⟨v, rfl⟩, h⟩

/-- behind a loop, the ledger named by what is said of it -/
def CutN (Q : Flow → Shared → Prop) (g : Heap) (L : Addr) (s : Shared) (R : (Str → Option Value) → List (Addr × Obj) → Prop) (fl : Flow) (s' : Shared) : Prop :=
  (fl = .next ∧ ∃ h' tk m' nx, s' = { s with heap := h', toks := tk } ∧ Fr g L h' m' ∧ News g L h' nx ∧ R m' nx) ∨ ((∃ v, fl = .ret v) ∧ Q fl s')

theorem forRange {x : Str} {px pos : Pos} {iter : Expr} {body : List Stmt} {Q : Flow → Shared → Prop} {R : (Str → Option Value) → List (Addr × Obj) → Prop} {h₀ : Heap} {tk₀ : Tok} (hh : A.handled = none) (n : Nat) (I : Nat → (Str → Option Value) → List (Addr × Obj) → Prop) (hx : env.kindOf x = some .local)
    (hp : (env.scope.kind == .class || (env.scope.kind == .module && env.locals != env.globals)) = false)
    (hiter : wpAny (model prog w) A (eval iter env) (fun v s₁ => ∃ r t u v' h tk m, v = .ref r ∧ s₁ = { s with heap := h, toks := tk } ∧ IsRange h r 0 n 1 t u v' ∧ Fr g env.locals h m ∧ News g env.locals h news ∧ I 0 m news) E { s with heap := h₀, toks := tk₀ })
    (hn : n < 2 ^ 60)
    (turn : ∀ i t m₁ nx h tk own, i < n → nx.map (·.1) = news.map (·.1) → OwnOff own (news.map (·.1)) → I i m₁ nx → Fr g env.locals h (fun y => if y = x then some (.int i t) else m₁ y) → News g env.locals h (nx ++ own) →
      wpAny (model prog w) A (execs body env) (Turn Q g env.locals s (news.map (·.1)) own (I (i + 1))) E { s with heap := h, toks := tk })
    (done : ∀ m nx, I n m nx → R m nx)
    (hs : ∀ x, foldedSetIterable iter env x = pure x := by intro _; rfl)
    (hE : PassesOwn (model prog w) A env E := by passes_own) :
    wpAny (model prog w) A (exec (.For (.Name x px) iter body [] pos) env) (CutN Q g env.locals s R) E { s with heap := h₀, toks := tk₀ } := by
  refine For_invV g hx hp (wpAny_mono hiter (fun v s₁ hv => ?_) fun _ _ e => e) hs hE
  obtain ⟨r, t, u, v', h, tk, m, rfl, rfl, hr, F, N, hI⟩ := hv
  have hsmall : Builtin.Range.small 0 (n : Int) 1 = true := by
    have e : Builtin.Range.rangeSize 0 (n : Int) 1 = (n : Int) := by
      unfold Builtin.Range.rangeSize
      by_cases h0 : (0 : Int) < n
      · simp only [h0, if_true]; simp
      · simp only [h0, if_false]; simp; omega
    simp [Builtin.Range.small, Builtin.Range.rangeFitsLong, e]
    omega
  have hsz : Builtin.Range.rangeSize 0 (n : Int) 1 = (n : Int) := by
    unfold Builtin.Range.rangeSize
    by_cases h0 : (0 : Int) < n
    · simp only [h0, if_true]; simp
    · simp only [h0, if_false]; simp; omega
  refine wpAny_pyIter_range hr hsmall ?_
  have W : Walks prog w A h.objs.size [h.objs.size] [h.objs.size] n (fun i v => i < n ∧ ∃ t, v = .int (0 + (i : Int) * 1) t)
      (fun i h' => IsRangeIter h' h.objs.size (0 + (i : Nat) * 1) ((n : Int) - (i : Nat)) 1) := (Walks.range hh _ 0 1 n).bound
  refine loop_invN (fun i m nx => I i m nx) W ?_ ?_ ?_ ?_ (by show IsRangeIter _ _ _ _ _; rw [hsz]; simpa using Heap.get?_push_size _ rfl) (F.push _) (fun p hp => ⟨Heap.get?_push_of_some _ (N p hp).1, (N p hp).2⟩) hI ?_ ?_
  · intro hm
    exact absurd F.ns.lt ((List.mem_singleton.mp hm) ▸ Nat.lt_irrefl _)
  · intro b hb
    rw [List.mem_singleton.mp hb]
    exact next_is_new F
  · intro p hp hI
    exact absurd (Heap.lt_size (N p hp).1) ((List.mem_singleton.mp hI) ▸ Nat.lt_irrefl _)
  · intro p hp hI
    exact absurd (Heap.lt_size (N p hp).1) ((List.mem_singleton.mp hI) ▸ Nat.lt_irrefl _)
  · rintro i v m₁ nx h tk own hi ⟨_, t, rfl⟩ hadr hoff hI' F₁ N₁
    have e1 : (0 : Int) + (i : Int) * 1 = (i : Int) := by omega
    rw [e1] at F₁
    refine wpAny_mono (turn i t m₁ nx h tk own hi hadr hoff hI' F₁ N₁) (fun fl s' c => ?_) fun _ _ e => e
    rcases c with ⟨rfl, h', tk', m', nx', rfl, F', N', ha, hI''⟩ | ⟨⟨v, rfl⟩, hq⟩
    · exact ⟨h', tk', m', nx' ++ own, nx', rfl, F', N', fun p hp => List.mem_append.mpr (.inl hp), fun p hp => List.mem_append.mpr (.inr hp), ha, hI''⟩
    · exact .inr ⟨⟨v, rfl⟩, hq⟩
  · rintro m₁ nx h tk hI' F₁ N₁
    exact .inl ⟨rfl, h, tk, m₁, nx, rfl, F₁, N₁, done _ _ hI'⟩

theorem CutN.go {Q : Flow → Shared → Prop} {s : Shared} {R : (Str → Option Value) → List (Addr × Obj) → Prop} {h' : Heap} {tk : Tok} {m' : Str → Option Value} {nx : List (Addr × Obj)} (F : Fr g L h' m') (N : News g L h' nx) (r : R m' nx) : CutN Q g L s R .next { s with heap := h', toks := tk } :=
  .inl ⟨rfl, h', tk, m', nx, rfl, F, N, r⟩
theorem seqnN {Q : Flow → Shared → Prop} {h₀ : Heap} {tk₀ : Tok} (xs : List Stmt) {ys : List Stmt} (R : (Str → Option Value) → List (Addr × Obj) → Prop) (h1 : wpAny (model prog w) A (execs xs env) (CutN Q g L s R) E { s with heap := h₀, toks := tk₀ })
    (h2 : ∀ h' tk m' nx, Fr g L h' m' → News g L h' nx → R m' nx → wpAny (model prog w) A (execs ys env) Q E { s with heap := h', toks := tk }) :
    wpAny (model prog w) A (execs (xs ++ ys) env) Q E { s with heap := h₀, toks := tk₀ } := by
  rw [execs_app]
  refine wpAny_bind (wpAny_mono h1 (fun fl s' hc => ?_) fun _ _ x => x)
  rcases hc with ⟨rfl, h', tk, m', nx, rfl, F, N, r⟩ | ⟨⟨v, rfl⟩, hq⟩
  · exact h2 h' tk m' nx F N r
  · exact wpAny_pure hq
theorem seqN1 {Q : Flow → Shared → Prop} {h₀ : Heap} {tk₀ : Tok} {a : Stmt} {ys : List Stmt} (R : (Str → Option Value) → List (Addr × Obj) → Prop) (h1 : wpAny (model prog w) A (execs [a] env) (CutN Q g L s R) E { s with heap := h₀, toks := tk₀ })
    (h2 : ∀ h' tk m' nx, Fr g L h' m' → News g L h' nx → R m' nx → wpAny (model prog w) A (execs ys env) Q E { s with heap := h', toks := tk }) :
    wpAny (model prog w) A (execs (a :: ys) env) Q E { s with heap := h₀, toks := tk₀ } := seqnN [a] R h1 h2
theorem seqN2 {Q : Flow → Shared → Prop} {h₀ : Heap} {tk₀ : Tok} {a b : Stmt} {ys : List Stmt} (R : (Str → Option Value) → List (Addr × Obj) → Prop) (h1 : wpAny (model prog w) A (execs [a, b] env) (CutN Q g L s R) E { s with heap := h₀, toks := tk₀ })
    (h2 : ∀ h' tk m' nx, Fr g L h' m' → News g L h' nx → R m' nx → wpAny (model prog w) A (execs ys env) Q E { s with heap := h', toks := tk }) :
    wpAny (model prog w) A (execs (a :: b :: ys) env) Q E { s with heap := h₀, toks := tk₀ } := seqnN [a, b] R h1 h2

theorem evens_small (n : Nat) (hn : n < 2 ^ 60) : Builtin.Range.small 2 (2 * ((n : Int) + 1)) 2 = true ∧ Builtin.Range.rangeSize 2 (2 * ((n : Int) + 1)) 2 = n := by
  have e : Builtin.Range.rangeSize 2 (2 * ((n : Int) + 1)) 2 = (n : Int) := by
    unfold Builtin.Range.rangeSize
    by_cases h0 : (2 : Int) < 2 * ((n : Int) + 1)
    · simp only [h0, if_true]; simp; omega
    · simp only [h0, if_false]; simp; omega
  refine ⟨?_, e⟩
  simp [Builtin.Range.small, Builtin.Range.rangeFitsLong, e]
  omega

/-- one row of the table -/
def stepIn (bch : Nat) : List Nat → List Int → Int → Int → Int → List Int × Int × Int
  | a :: as, r :: rs, dist, res, mn =>
    let sub := dist + (if bch = a then 0 else 2)
    let ins := (if r < res then r else res) + 2
    let res' := if sub < ins then sub else ins
    let rest := stepIn bch as rs r res' (if res' < mn then res' else mn)
    (res' :: rest.1, rest.2)
  | _, rs, _, res, mn => (rs, res, mn)
/-- the rows -/
def stepOut (as : List Nat) (c : Int) : List Nat → Int → List Int → Int → Int
  | [], _, _, res => res
  | b :: bs, i, row, _ =>
    let t := stepIn b as row (i * 2) (i * 2) 9223372036854775807
    if t.2.2 > c then c + 1 else stepOut as c bs (i + 1) t.1 t.2.1
def levCore (la lb : List Nat) (c : Int) : Int :=
  if la = [] ∨ lb = [] then 2 * ((la.length : Int) + lb.length) else
    let x := if lb.length < la.length then lb else la
    let y := if lb.length < la.length then la else lb
    if ((y.length : Int) - x.length) * 2 > c then c + 1 else stepOut x c y 0 (rangeInts 2 2 x.length) 0
def levPost (la lb : List Nat) (c : Int) : Int := levCore (la.take (la.length - cpl la.reverse lb.reverse)) (lb.take (lb.length - cpl la.reverse lb.reverse)) c
def levF (la lb : List Nat) (c : Int) : Int := if la = lb then 0 else levPost (la.drop (cpl la lb)) (lb.drop (cpl la lb)) c

def RangeAt (g : Heap) (L : Addr) (s : Shared) (news : List (Addr × Obj)) (n : Nat) (J : (Str → Option Value) → Prop) (v : Value) (s₁ : Shared) : Prop :=
  ∃ r t u v' h tk m, v = .ref r ∧ s₁ = { s with heap := h, toks := tk } ∧ IsRange h r 0 n 1 t u v' ∧ Fr g L h m ∧ News g L h news ∧ J m
theorem RangeAt.mk {n : Nat} {J : (Str → Option Value) → Prop} {r : Addr} {t u v' : Tok} {h : Heap} {tk : Tok} (hr : IsRange h r 0 n 1 t u v') (F : Fr g L h m) (N : News g L h news) (hJ : J m) : RangeAt g L s news n J (.ref r) { s with heap := h, toks := tk } :=
  ⟨r, t, u, v', h, tk, m, rfl, rfl, hr, F, N, hJ⟩
theorem forR {x : Str} {px pos : Pos} {iter : Expr} {body : List Stmt} {Q : Flow → Shared → Prop} {R : (Str → Option Value) → List (Addr × Obj) → Prop} {h₀ : Heap} {tk₀ : Tok} (hL : env.locals = L) (hh : A.handled = none) (n : Nat) (I : Nat → (Str → Option Value) → List (Addr × Obj) → Prop) (hx : env.kindOf x = some .local)
    (hp : (env.scope.kind == .class || (env.scope.kind == .module && env.locals != env.globals)) = false)
    (hiter : wpAny (model prog w) A (eval iter env) (RangeAt g L s news n (fun m => I 0 m news)) E { s with heap := h₀, toks := tk₀ })
    (hn : n < 2 ^ 60)
    (turn : ∀ i t m₁ nx h tk own, i < n → nx.map (·.1) = news.map (·.1) → OwnOff own (news.map (·.1)) → I i m₁ nx → Fr g L h (fun y => if y = x then some (.int i t) else m₁ y) → News g L h (nx ++ own) →
      wpAny (model prog w) A (execs body env) (Turn Q g L s (news.map (·.1)) own (I (i + 1))) E { s with heap := h, toks := tk })
    (done : ∀ m nx, I n m nx → R m nx)
    (hs : ∀ x, foldedSetIterable iter env x = pure x := by intro _; rfl)
    (hE : PassesOwn (model prog w) A env E := by passes_own) :
    wpAny (model prog w) A (exec (.For (.Name x px) iter body [] pos) env) (CutN Q g L s R) E { s with heap := h₀, toks := tk₀ } := by
  subst hL
  exact forRange hh n I hx hp (wpAny_mono hiter (fun _ _ h => h) fun _ _ e => e) hn turn done hs hE
theorem forBind {x : Str} {v : Value} {m₁ : Str → Option Value} {ps : List (Str × Value)} (h : (ps.map (·.1)).contains x = false) (hm : has ps m₁) : has ((x, v) :: ps) (fun y => if y = x then some v else m₁ y) := by
  refine has.cons (by simp) fun p hp => ?_
  show (if p.1 = x then some v else m₁ p.1) = some p.2
  have hne : p.1 ≠ x := fun e => by
    have : (ps.map (·.1)).contains x = true := by
      rw [List.contains_iff_mem]
      exact List.mem_map.mpr ⟨p, hp, e⟩
    rw [h] at this
    cases this
  rw [if_neg hne]
  exact hm p hp

theorem stepIn_end {za : List Nat} {bc j : Nat} {p rest : List Int} {r dist res mn : Int} {T : List Int × Int × Int} (hj : j < za.length)
    (v1 : p ++ (stepIn bc (za.drop j) (r :: rest) dist res mn).1 = T.1) (v2 : (stepIn bc (za.drop j) (r :: rest) dist res mn).2 = T.2) {X : Int}
    (hX : X = if (dist + if bc = za.getD j 0 then 0 else 2) < (if r < res then r else res) + 2 then (dist + if bc = za.getD j 0 then 0 else 2) else (if r < res then r else res) + 2) :
    (p ++ [X]) ++ (stepIn bc (za.drop (j + 1)) rest r X (if X < mn then X else mn)).1 = T.1 ∧ (stepIn bc (za.drop (j + 1)) rest r X (if X < mn then X else mn)).2 = T.2 := by
  rw [drop_cons za j hj] at v1 v2
  simp only [stepIn] at v1 v2
  rw [← hX] at v1 v2
  exact ⟨by rw [List.append_assoc]; exact v1, v2⟩
theorem getD_mid {p rest : List Int} {r d : Int} {j : Nat} (hp : p.length = j) : (p ++ r :: rest).getD j d = r := by
  subst hp; simp [List.getD_eq_getElem?_getD]
theorem set_mid {p rest : List Int} {r x : Int} {j : Nat} (hp : p.length = j) : (p ++ r :: rest).set j x = (p ++ [x]) ++ rest := by
  subst hp; simp [List.set_append]
theorem stepOut_at {za zb : List Nat} {c : Int} {i : Nat} {row : List Int} {res : Int} (hi : i < zb.length) :
    stepOut za c (zb.drop i) i row res = if (stepIn (zb.getD i 0) za row ((i : Int) * 2) ((i : Int) * 2) 9223372036854775807).2.2 > c then c + 1
      else stepOut za c (zb.drop (i + 1)) ((i + 1 : Nat) : Int) (stepIn (zb.getD i 0) za row ((i : Int) * 2) ((i : Int) * 2) 9223372036854775807).1 (stepIn (zb.getD i 0) za row ((i : Int) * 2) ((i : Int) * 2) 9223372036854775807).2.1 := by
  rw [drop_cons zb i hi]
  rfl
section
variable {value slice : Expr} {Q : Value → Shared → Prop}
theorem my_item {l : List Nat} {j : Nat} {t u : Tok} (hl : l.length ≤ 40) (hj : j < l.length) (h : Q (.str (ofL [l.getD j 0]) s.toks) { s with toks := s.toks + 1 })
    (hs : subscripted slice false (.str (ofL l) t) (.int j u) = operate [.str (ofL l) t, .int j u] (getItem (.str (ofL l) t) (.int j u)) := by with_unfolding_all rfl)
    (ht : ∀ r, letTemporaryGo value (.str (ofL l) t) r = pure () := by intro _; with_unfolding_all rfl) :
    wpAny (model prog w) A (subscriptTail value slice (.str (ofL l) t) (.int j u)) Q E s := by
  refine item_str (fitsSsize_of (N := 9223372036854775808) (by omega) (by omega) (Int.le_refl _)) (by rw [ofL_len]; omega) (by rw [ofL_len]; omega) (fun _ => ?_) hs ht
  rw [item_at l (by omega) (by omega)]
  exact h
theorem my_getrow' {D : Addr} {vs : List Value} {k : Nat} {ns : List Int} {j : Nat} {u : Tok} {r : Int} (N : News g L s.heap news) (hm : (D, W.listOf vs.toArray k) ∈ news) (hi : IntsAre vs ns) (hj : j < ns.length) (hb : ns.length ≤ 40) (hg : ns.getD j 0 = r)
    (h : ∀ t, Q (.int r t) s)
    (hs : subscripted slice false (.ref D) (.int j u) = operate [.ref D, .int j u] (getItem (.ref D) (.int j u)) := by with_unfolding_all rfl) :
    wpAny (model prog w) A (subscriptTail value slice (.ref D) (.int j u)) Q E s := by
  have hl : s.heap.IsList D vs.toArray := ⟨_, (N _ hm).1, rfl, _, rfl⟩
  obtain ⟨t, ht⟩ := hi.get j (ns.getD j 0) (by simp [List.getD_eq_getElem?_getD, hj])
  rw [hg] at ht
  refine tail_any hl.typeIs slot_list_getitem.lookup (wpAny_getItem_list hl (by omega) (by omega) (by simpa using ht) (h t)) hs
end
end
end Mine
namespace Mine
section
variable {prog : Program} {w : World} {A : Around} {E : Value → Shared → Prop} {s : Shared} {env : Env} {g : Heap} {L : Addr} {m : Str → Option Value} {news : List (Addr × Obj)} {h₀ : Heap} {tk₀ : Tok} {Q : Flow → Shared → Prop}
/-- a test that the facts decide -/
def TestIs (b : Bool) (g : Heap) (L : Addr) (s : Shared) (news : List (Addr × Obj)) (R : (Str → Option Value) → Prop) (r : Bool) (s' : Shared) : Prop := r = b ∧ ∃ h' tk m', s' = { s with heap := h', toks := tk } ∧ Fr g L h' m' ∧ News g L h' news ∧ R m'
theorem TestIs.mk {R : (Str → Option Value) → Prop} {b : Bool} {h' : Heap} {tk : Tok} {m' : Str → Option Value} (F : Fr g L h' m') (N : News g L h' news) (r : R m') : TestIs b g L s news R b { s with heap := h', toks := tk } := ⟨rfl, h', tk, m', rfl, F, N, r⟩
theorem ifYes {test : Expr} {body orelse : List Stmt} {pos : Pos} (R : (Str → Option Value) → Prop) (ht : wpAny (model prog w) A (isTrue test env (eval test env)) (TestIs true g L s news R) E { s with heap := h₀, toks := tk₀ })
    (hb : ∀ h' tk m', Fr g L h' m' → News g L h' news → R m' → wpAny (model prog w) A (execs body env) Q E { s with heap := h', toks := tk }) : wpAny (model prog w) A (exec (.If test body orelse pos) env) Q E { s with heap := h₀, toks := tk₀ } := by
  refine wpAny_If (wpAny_mono ht (fun r s' h => ?_) fun _ _ x => x)
  obtain ⟨rfl, h', tk, m', rfl, F, N, r⟩ := h
  simp only [if_true]
  exact hb h' tk m' F N r
end
end Mine
end
section
open PySem PySem.W PyProof.Rows PySem.Calls
set_option maxRecDepth 100000
namespace Mine
/-- bisect_right, its question answered by lt (x before the i-th) -/
def bisR (lt : Nat → Bool) : Nat → Nat → Nat → Nat
  | 0, lo, _ => lo
  | f + 1, lo, hi => if lo < hi then (if lt ((lo + hi) / 2) then bisR lt f lo ((lo + hi) / 2) else bisR lt f ((lo + hi) / 2 + 1) hi) else lo
/-- bisect_left, its question answered by lt (the i-th before x) -/
def bisL (lt : Nat → Bool) : Nat → Nat → Nat → Nat
  | 0, lo, _ => lo
  | f + 1, lo, hi => if lo < hi then (if lt ((lo + hi) / 2) then bisL lt f ((lo + hi) / 2 + 1) hi else bisL lt f lo ((lo + hi) / 2)) else lo
theorem bisR_le (lt : Nat → Bool) : ∀ f lo hi, lo ≤ hi → bisR lt f lo hi ≤ hi
  | 0, lo, hi, h => h
  | f + 1, lo, hi, h => by
    simp only [bisR]
    split
    · split
      · have := bisR_le lt f lo ((lo + hi) / 2) (by omega); omega
      · exact bisR_le lt f ((lo + hi) / 2 + 1) hi (by omega)
    · exact h
theorem bisR_is {lt : Nat → Bool} {k n : Nat} (hk : ∀ i, i < n → lt i = decide (k ≤ i)) : ∀ f lo hi, hi ≤ n → lo ≤ k → k ≤ hi → hi - lo ≤ f → bisR lt f lo hi = k
  | 0, lo, hi, _, _, _, _ => by simp only [bisR]; omega
  | f + 1, lo, hi, h1, h2, h3, h4 => by
    simp only [bisR]
    split
    · rw [hk _ (by omega)]
      split
      · rename_i h; have := of_decide_eq_true h; exact bisR_is hk f lo _ (by omega) h2 this (by omega)
      · rename_i h; have : ¬ k ≤ (lo + hi) / 2 := fun e => h (decide_eq_true e); exact bisR_is hk f _ hi h1 (by omega) h3 (by omega)
    · omega
theorem bisL_is {lt : Nat → Bool} {k n : Nat} (hk : ∀ i, i < n → lt i = decide (i < k)) : ∀ f lo hi, hi ≤ n → lo ≤ k → k ≤ hi → hi - lo ≤ f → bisL lt f lo hi = k
  | 0, lo, hi, _, _, _, _ => by simp only [bisL]; omega
  | f + 1, lo, hi, h1, h2, h3, h4 => by
    simp only [bisL]
    split
    · rw [hk _ (by omega)]
      split
      · rename_i h; have := of_decide_eq_true h; exact bisL_is hk f _ hi h1 (by omega) h3 (by omega)
      · rename_i h; have : ¬ (lo + hi) / 2 < k := fun e => h (decide_eq_true e); exact bisL_is hk f lo _ (by omega) h2 (by omega) (by omega)
    · omega

def LtOk (prog : Program) (w : World) (h : Heap) (x v : Value) (b : Bool) : Prop :=
  ∀ (A : Around) (s : Shared) (Q E : Value → Shared → Prop), A.handled = none → A.depth + 2 < recursionLimit → A.units + 16 < cLine → Kept h s.heap →
    (∀ h' tk, Kept s.heap h' → Q (.bool b) { s with heap := h', toks := tk }) → wpAny (model prog w) A (compareOp .Lt x v) Q E s
section
variable {prog : Program} {w : World} {A : Around} {E : Value → Shared → Prop} {s : Shared} {g : Heap} {L : Addr} {m : Str → Option Value} {news : List (Addr × Obj)}
theorem lt_use {x v : Value} {b : Bool} {Q : Value → Shared → Prop} (H : LtOk prog w g x v b) (F : Fr g L s.heap m) (N : News g L s.heap news) (hh : A.handled = none) (hd : A.depth + 2 < recursionLimit) (hu : A.units + 16 < cLine)
    (h : ∀ h' tk, Fr g L h' m → News g L h' news → Q (.bool b) { s with heap := h', toks := tk }) : wpAny (model prog w) A (compareOp .Lt x v) Q E s :=
  H A s Q E hh hd hu F.keep fun h' tk hk => h h' tk (Fr.after F hk) (News.keepsAll N hk)
theorem my_len {l : Addr} {vs : List Value} {Q : Value → Shared → Prop} (F : Fr g L s.heap m) (hl : g.IsList l vs.toArray) (hb : vs.length ≤ 100)
    (h : Q (.int vs.length (s.toks + 1)) { s with toks := s.toks + 1 + 1 }) : wpAny (model prog w) A (call (.builtin "len") [.ref l]) Q E s :=
  Calls.call_len_list (hl.at fun o e => F.keep l o e) (by rw [List.size_toArray]; omega) (by rw [List.size_toArray]; exact h)
theorem my_insert {D : Addr} {vs : List Value} {k r : Nat} {u : Tok} {y : Value} {rest : List (Addr × Obj)} {Q : Value → Shared → Prop} (F : Fr g L s.heap m) (N : News g L s.heap ((D, W.listOf vs.toArray k) :: rest)) (hne : ∀ p ∈ rest, p.1 ≠ D) (hr : r ≤ vs.length) (hb : vs.length ≤ 100)
    (h : ∀ h', Fr g L h' m → News g L h' ((D, W.listOf (vs.take r ++ y :: vs.drop r).toArray (k + 1)) :: rest) → Q .none { s with heap := h' }) :
    wpAny (model prog w) A (call (.builtin "list.insert") [.ref D, .int r u, y]) Q E s := by
  refine kl_insert (l := vs.take r ++ y :: vs.drop r) F N ?_ ?_ (Upd.head hne) (by rw [sizeLine_eq]; simp; omega) h
  · simp [Builtin.List.listFitsIndex]; omega
  · have e : (if (r : Int) < 0 then ((r : Int) + (vs.length : Int)).toNat else min (r : Int).toNat vs.length) = r := by
      rw [if_neg (by omega)]; simp only [Int.toNat_natCast]; omega
    unfold kl_ins
    simp only [e]
theorem my_getval {value slice : Expr} {l : Addr} {vs : List Value} {k : Int} {u : Tok} {v : Value} {Q : Value → Shared → Prop} (F : Fr g L s.heap m) (hl : g.IsList l vs.toArray) {j : Nat} (hk : k = j) (hb : vs.length < 2 ^ 60) (hv : vs[j]? = some v) (h : Q v s)
    (hs : subscripted slice false (.ref l) (.int k u) = operate [.ref l, .int k u] (getItem (.ref l) (.int k u)) := by with_unfolding_all rfl) :
    wpAny (model prog w) A (subscriptTail value slice (.ref l) (.int k u)) Q E s := by
  subst hk
  have hl' : s.heap.IsList l vs.toArray := hl.at fun o e => F.keep l o e
  have hj := (List.getElem?_eq_some_iff.mp hv).1
  exact tail_any hl'.typeIs slot_list_getitem.lookup (wpAny_getItem_list hl' (by omega) (by omega) (by simpa using hv) h) hs
end
end Mine
end
section
open PySem PySem.W PyProof.Rows PySem.Calls
set_option maxRecDepth 100000
namespace Mine

def bindAll : List Str → List Value → (Str → Option Value) → Str → Option Value
  | x :: xs, v :: vs, m => bindAll xs vs fun y => if y = x then some v else m y
  | _, _, m => m

/-- what the turns of an iterator bind -/
structure Binds (prog : Program) (w : World) (A : Around) (target : Expr) (names : List Str) (I : Addr) (fp wr : List Addr) (n : Nat) (P : Nat → List Value → Prop) (St : Nat → Heap → Prop) : Prop where
  sub : ∀ b ∈ wr, b ∈ fp
  live : ∀ i h, St i h → ∀ b ∈ wr, ∃ o, h.get? b = some o
  frame : ∀ i h h', St i h → (∀ b ∈ fp, ∀ o, h.get? b = some o → h'.get? b = some o) → St i h'
  step : ∀ (cenv : Env) i (s : Shared) m (Q : Shared → Prop), i < n → St i s.heap → (∀ x ∈ names, cenv.kindOf x = some .local) → (cenv.scope.kind == .class || (cenv.scope.kind == .module && cenv.locals != cenv.globals)) = false →
    cenv.locals ∉ fp → s.heap.Ns cenv.locals m →
    (∀ vals h' tk, P i vals → St (i + 1) h' → h'.Ns cenv.locals (bindAll names vals m) → (∀ b o, b ∉ wr → b ≠ cenv.locals → s.heap.get? b = some o → h'.get? b = some o) → Q { s with heap := h', toks := tk }) →
    wpAny (model prog w) A (pyNext (.ref I)) (fun r s₁ => ∃ v, r = some v ∧ wpAny (model prog w) A (letOwnedTupleGo target (.ref I) v) (fun _ s₂ =>
      wpAny (model prog w) A (assign target cenv v) (fun _ s₃ => Q s₃) (fun _ _ => False) s₂) (fun _ _ => False) s₁) (fun _ _ => False) s
  done : ∀ (s : Shared) (Q : Option Value → Shared → Prop) (E : Value → Shared → Prop), St n s.heap →
    (∀ h' tk, (∀ b o, b ∉ wr → s.heap.get? b = some o → h'.get? b = some o) → Q none { s with heap := h', toks := tk }) → wpAny (model prog w) A (pyNext (.ref I)) Q E s
  self : ∀ i (s : Shared) (Q : Value → Shared → Prop) (E : Value → Shared → Prop), St i s.heap → Q (.ref I) s → wpAny (model prog w) A (pyIter (.ref I)) Q E s

section
variable {prog : Program} {w : World} {A : Around}
theorem Binds.name {I : Addr} {fp wr : List Addr} {n : Nat} {P : Nat → Value → Prop} {St : Nat → Heap → Prop} {x : Str} {px : Pos} (W : Walks prog w A I fp wr n P St) (hl : ∀ i h, St i h → ∀ b ∈ wr, ∃ o, h.get? b = some o) :
    Binds prog w A (.Name x px) [x] I fp wr n (fun i vals => ∃ v, vals = [v] ∧ P i v) St where
  sub := W.sub
  live := hl
  frame := W.frame
  step := fun cenv i s m Q hi st hx hp hC hn hQ => by
    refine W.item i s _ _ hi st fun v h₁ tk₁ hPv hst₁ hk₁ => ⟨v, rfl, ?_⟩
    show wpAny _ _ (pure ()) _ _ _
    refine wpAny_pure ?_
    have hCw : cenv.locals ∉ wr := fun h => hC (W.sub _ h)
    refine wpAny_assign_Name (wpAny_storeName_local (hx x (.head _)) (hn.at' fun o e => hk₁ _ o hCw e) (fun h₂ hn₂ hs₂ => ?_) hp)
    exact hQ [v] h₂ _ ⟨v, rfl, hPv⟩ (W.frame _ _ _ hst₁ fun b hb o e => hs₂.extBut b o (fun h => hC (h ▸ hb)) e) hn₂ fun b o hb hbC e => hs₂.extBut b o hbC (hk₁ b o hb e)
  done := W.done
  self := W.self
/-- the loop of a list comprehension of one clause -/
theorem compLoopAny {elt target iter : Expr} {ifs : List Expr} {scope : Scope} {pos : Pos} {it acc : Value} {cenv : Env} {R : Result → Shared → Prop} (n : Nat) (J : Nat → Shared → Prop)
    (turn : ∀ i s, i < n → J i s → wpAny (model prog w) A (pyNext it) (fun r s₁ => ∃ v, r = some v ∧ wpAny (model prog w) A (letOwnedTupleGo target it v) (fun _ s₂ =>
      wpAny (model prog w) A (assign target cenv v) (fun _ s₃ =>
        wpAny (model prog w) A (forIn ifs true fun c r => if r = true then do let ok ← isTrue c cenv (eval c cenv); pure (ForInStep.yield ok) else pure (ForInStep.yield r)) (fun ok s₄ =>
          if ok = true then wpAny (model prog w) A (eval elt cenv) (fun x s₅ => wpAny (model prog w) A (call (.builtin "list.append") [acc, x]) (fun _ s₆ => J (i + 1) s₆) (fun _ _ => False) s₅) (fun _ _ => False) s₄ else J (i + 1) s₄)
          (fun _ _ => False) s₃) (fun _ _ => False) s₂) (fun _ _ => False) s₁) (fun _ _ => False) s)
    (done : ∀ s, J n s → wpAny (model prog w) A (pyNext it) (fun r s₁ => r = none ∧ R (.ok .next) s₁) (fun _ _ => False) s) {s : Shared} (h0 : J 0 s) :
    codeAny (model prog w) A (.compLoop (.ListComp elt [⟨target, iter, ifs, 0⟩] scope pos) 0 it acc cenv) R s := by
  refine codeAny_loop rfl (fun k s => ∃ i, i ≤ n ∧ k = n - i ∧ J i s) (fun k s hI => ?_) (n - 0) ⟨0, Nat.zero_le _, rfl, h0⟩
  obtain ⟨i, hi, rfl, hJ⟩ := hI
  show wpAny _ A ((compTurn (.ListComp elt [⟨target, iter, ifs, 0⟩] scope pos) 0 it acc cenv).onRaise (fun x => do noteFrame x cenv; theTreesLotGoes x)) _ _ s
  refine wpAny_noted ?_
  rw [compTurn_list]
  refine wpAny_bind (wpAny_standAt (wpAny_bind ?_))
  by_cases hlt : i < n
  · refine wpAny_mono (turn i s hlt hJ) (fun r s₁ h₁ => ?_) fun _ _ f => f.elim
    obtain ⟨v, rfl, h₁⟩ := h₁
    refine wpAny_bind (wpAny_mono h₁ (fun _ s₂ h₂ => wpAny_bind (wpAny_mono h₂ (fun _ s₃ h₃ => wpAny_bind (wpAny_mono h₃ (fun ok s₄ h₄ => ?_) fun _ _ f => f.elim)) fun _ _ f => f.elim)) fun _ _ f => f.elim)
    cases ok with
    | false =>
      simp only [Bool.false_eq_true, if_false] at h₄ ⊢
      exact wpAny_bind (wpAny_pure (wpAny_pure ⟨rfl, n - (i + 1), by omega, i + 1, hlt, rfl, h₄⟩))
    | true =>
      simp only [if_true] at h₄ ⊢
      exact wpAny_bind (wpAny_bind (wpAny_mono h₄ (fun x s₅ h₅ => wpAny_bind (wpAny_mono h₅ (fun _ s₆ h₆ => wpAny_pure (wpAny_pure ⟨rfl, n - (i + 1), by omega, i + 1, hlt, rfl, h₆⟩)) fun _ _ f => f.elim)) fun _ _ f => f.elim))
  · have e : i = n := by omega
    subst e
    refine wpAny_mono (done s hJ) (fun r s₁ h₁ => ?_) fun _ _ f => f.elim
    obtain ⟨rfl, h₁⟩ := h₁
    exact wpAny_pure h₁
end
end Mine
end
section
open PySem PySem.W PyProof.Rows PySem.Calls
set_option maxRecDepth 100000
namespace Mine
section
variable {prog : Program} {w : World} {A : Around} {env : Env} {s : Shared}

/-- what a comprehension walks over, from state s on -/
def Src (prog : Program) (w : World) (A : Around) (s : Shared) (target : Expr) (names : List Str) (n : Nat) (P' : Nat → List Value → Prop) (it : Value) (s₂ : Shared) : Prop :=
  ∃ I fp wr P St h tk, it = .ref I ∧ s₂ = { s with heap := h, toks := tk } ∧ Binds prog w A target names I fp wr n P St ∧ St 0 h ∧ (∀ b ∈ fp, b < h.objs.size) ∧ (∀ b ∈ wr, s.heap.get? b = none) ∧ Kept s.heap h ∧ s.heap.objs.size ≤ h.objs.size ∧ ∀ i vals, P i vals → P' i vals

/-- an element is reckoned: the value, what was made for it -/
def EltEnd (s : Shared) (C : Addr) (h₀ : Heap) (own made : List (Addr × Obj)) (J : Value → List (Addr × Obj) → Prop) (y : Value) (s' : Shared) : Prop :=
  ∃ h' tk m' fresh, s' = { s with heap := h', toks := tk } ∧ Fr s.heap C h' m' ∧ News s.heap C h' (own ++ (made ++ fresh)) ∧ (∀ p ∈ fresh, h₀.get? p.1 = none) ∧ J y (made ++ fresh)
/-- a test has failed -/
def SkipEnd (s : Shared) (C : Addr) (own made : List (Addr × Obj)) (J : List (Addr × Obj) → Prop) (s' : Shared) : Prop :=
  ∃ h' tk m', s' = { s with heap := h', toks := tk } ∧ Fr s.heap C h' m' ∧ News s.heap C h' (own ++ made) ∧ J made

theorem EltEnd.mk {C : Addr} {h₀ h' : Heap} {own made : List (Addr × Obj)} {J : Value → List (Addr × Obj) → Prop} {y : Value} {tk : Tok} {m' : Str → Option Value} (F : Fr s.heap C h' m') (N : News s.heap C h' (own ++ made)) (j : J y made) :
    EltEnd s C h₀ own made J y { s with heap := h', toks := tk } := ⟨h', tk, m', [], rfl, F, by simpa using N, (fun _ hp => nomatch hp), by simpa using j⟩
theorem SkipEnd.mk {C : Addr} {h' : Heap} {own made : List (Addr × Obj)} {J : List (Addr × Obj) → Prop} {tk : Tok} {m' : Str → Option Value} (F : Fr s.heap C h' m') (N : News s.heap C h' (own ++ made)) (j : J made) :
    SkipEnd s C own made J { s with heap := h', toks := tk } := ⟨h', tk, m', rfl, F, N, j⟩

/-- behind the comprehension -/
def CompOut (s : Shared) (n : Nat) (J : Nat → List Value → List (Addr × Obj) → Prop) (Q : Value → Shared → Prop) : Prop :=
  ∀ D ys k made h' tk, J n ys made → Kept s.heap h' → (∀ p ∈ (D, W.listOf ys.toArray k) :: made, h'.get? p.1 = some p.2 ∧ s.heap.get? p.1 = none) → Q (.ref D) { s with heap := h', toks := tk }

/-- behind the last turn -/
def CompFin (s : Shared) (n : Nat) (J : Nat → List Value → List (Addr × Obj) → Prop) (post : Value → Addr → Shared → Prop) : Prop :=
  ∀ D C ys k made h' tk m, J n ys made → Kept s.heap h' → (∀ p ∈ (D, W.listOf ys.toArray k) :: made, h'.get? p.1 = some p.2 ∧ s.heap.get? p.1 = none ∧ p.1 ≠ C) → s.heap.get? C = none → h'.Ns C m → post (.ref D) C { s with heap := h', toks := tk }

theorem CompOut.fin {n : Nat} {J : Nat → List Value → List (Addr × Obj) → Prop} {Q : Value → Shared → Prop} {E : Value → Shared → Prop} {M : Model} (H : CompOut s n J Q) : CompFin s n J (fun acc C s' => compPost M A E none Q acc C (.ok .next) s') :=
  fun D C ys k made h' tk m hJ hk hp hC hn => ⟨m, hn, fun h'' hs => H D ys k made h'' tk hJ (fun b o e => hs.extBut b o (fun q => by rw [q, hC] at e; cases e) (hk b o e)) fun p hp' => ⟨hs.extBut _ _ (hp p hp').2.2 (hp p hp').1, (hp p hp').2.1⟩⟩

/-- the list is put into a place of the frame -/
theorem compFinUse {g : Heap} {L : Addr} {m₀ : Str → Option Value} {news : List (Addr × Obj)} {y : Str} {py : Pos} {n : Nat} {J : Nat → List Value → List (Addr × Obj) → Prop} {Q : Shared → Prop} {E : Value → Shared → Prop}
    (hy : env.kindOf y = some .local) (hp : (env.scope.kind == .class || (env.scope.kind == .module && env.locals != env.globals)) = false) (hL : env.locals = L) (F : Fr g L s.heap m₀) (N : News g L s.heap news)
    (H : ∀ D ys k made h' tk, J n ys made → Fr g L h' (fun z => if z = y then some (.ref D) else m₀ z) → News g L h' ((D, W.listOf ys.toArray k) :: (made ++ news)) → Kept (s.heap.hide L) h' → Q { s with heap := h', toks := tk }) :
    CompFin s n J (fun acc C s' => compPost (model prog w) A E (some (assign (.Name y py) env)) (fun _ s' => Q s') acc C (.ok .next) s') := by
  subst hL
  intro D C ys k made h' tk m hJ hk hp' hC hn
  have hsL : ∃ o, s.heap.get? env.locals = some o := by obtain ⟨o, _, _, ho, _⟩ := F.ns; exact ⟨o, ho⟩
  obtain ⟨oL, hoL⟩ := hsL
  have hLC : env.locals ≠ C := fun q => by rw [← q, hoL] at hC; cases hC
  have hLp : ∀ p ∈ (D, W.listOf ys.toArray k) :: made, p.1 ≠ env.locals := fun p hm q => by have := (hp' p hm).2.1; rw [q, hoL] at this; cases this
  show wpAny _ A (assign (.Name y py) env (.ref D)) _ _ _
  refine wpAny_assign_Name (wpAny_storeName_local hy (F.ns.at' fun o e => hk _ o e) (fun h₂ hn₂ hs₂ => ?_) hp)
  refine ⟨m, hn.sameBut hs₂ (Ne.symm hLC), fun h₃ hs₃ => ?_⟩
  have keep : ∀ b o, b ≠ env.locals → s.heap.get? b = some o → h₃.get? b = some o := fun b o hb e => hs₃.extBut b o (fun q => by rw [q, hC] at e; cases e) (hs₂.extBut b o hb (hk b o e))
  refine H D ys k made h₃ _ hJ ⟨hn₂.sameBut hs₃ hLC, fun b o e => keep b o (fun q => ?_) (F.keep b o e), F.above⟩ (fun p hm => ?_) fun b o e => ?_
  · rw [q] at e
    exact absurd (Heap.lt_size e) (Nat.not_lt.mpr F.above)
  · rw [← List.cons_append] at hm
    rcases List.mem_append.mp hm with hm | hm
    · have z := hp' p hm
      refine ⟨hs₃.extBut _ _ z.2.2 (hs₂.extBut _ _ (hLp p hm) z.1), hLp p hm, ?_⟩
      cases q : g.get? p.1 with
      | none => rfl
      | some o => have := F.keep _ _ q; rw [z.2.1] at this; cases this
    · have z := N p hm
      exact ⟨keep _ _ z.2.1 z.1, z.2⟩
  · have hb : b ≠ env.locals := fun q => by rw [q, Heap.hide_self] at e; cases e
    exact keep b o hb (Heap.of_hide e)

theorem compCore {elt target iter : Expr} {ifs : List Expr} {scope : Scope} {cl : List (Str × Addr)} {pos pos' : Pos} {names : List Str} {n : Nat} {P' : Nat → List Value → Prop} {Q : Value → Shared → Prop} {E : Value → Shared → Prop} {use : Option (Value → Sem Unit)}
    (hclos : closureFor scope env = pure cl) (hcell : ∀ y ∈ scope.names, y.2 ≠ .cell) (hkind : scope.kind = .function) (hnames : ∀ y ∈ scope.names, y.2 = .local → scope.names.lookup y.1 = some .local)
    (hloc : ∀ x ∈ names, scope.names.lookup x = some .local) (hn : n ≤ sizeLine) (J : Nat → List Value → List (Addr × Obj) → Prop) (J0 : J 0 [] [])
    (hiter : wpAny (model prog w) A (eval iter env) (fun xv s₁ => wpAny (model prog w) A (pyIter xv) (fun it s₂ => Src prog w A s target names n P' it s₂) E s₁) E s)
    (turn : ∀ i ys made C h tk m own vals, i < n → J i ys made → ys.length ≤ i → P' i vals → Fr s.heap C h (bindAll names vals m) → News s.heap C h (own ++ made) →
      wpAny (model prog w) A (forIn ifs true fun c r => if r = true then do let ok ← isTrue c (compEnvC scope cl C env) (eval c (compEnvC scope cl C env)); pure (ForInStep.yield ok) else pure (ForInStep.yield r))
        (fun ok s₄ => if ok = true then wpAny (model prog w) A (eval elt (compEnvC scope cl C env)) (EltEnd s C h own made fun y made' => J (i + 1) (ys ++ [y]) made') (fun _ _ => False) s₄ else SkipEnd s C own made (J (i + 1) ys) s₄) (fun _ _ => False) { s with heap := h, toks := tk })
    (done : CompFin s n J (fun acc C s' => compPost (model prog w) A E use Q acc C (.ok .next) s'))
    (hs : ∀ x, foldedSetIterable iter env x = pure x := by intro _; rfl) :
    wpAny (model prog w) A (comprehension (.ListComp elt [⟨target, iter, ifs, 0⟩] scope pos) scope env pos' (newList []) false (eval iter env) use) Q E s := by
  refine wpAny_comprehension_free (use := use) rfl hs hclos hkind hnames (wpAny_mono hiter (fun xv s₁ h₁ => wpAny_mono h₁ (fun it s₂ h₂ => ?_) fun _ _ e => e) fun _ _ e => e)
  obtain ⟨I, fp, wr, P, St, h, tk, rfl, rfl, B, hst, hfp, hwr, hk0, hsz0, hP⟩ := h₂
  refine wpAny_newObj_type (wpAny_newFunctionEnv hcell (by intro y hy; simp at hy) (fun h₁ hns₁ hsb₁ => ?_) hkind)
  dsimp only at hns₁ hsb₁ ⊢
  generalize hH2 : h.push { cls := .type "list", dict := none, data := .seq ([] : List Value).toArray } = H2 at hns₁ hsb₁ ⊢
  have hC : H2.objs.size = h.objs.size + 1 := by rw [← hH2, Heap.size_push]
  generalize hDD : h.objs.size = D at hC ⊢
  generalize hCC : H2.objs.size = C at hC hns₁ hsb₁ ⊢
  subst hC
  have hDC : D ≠ D + 1 := Nat.ne_of_lt (Nat.lt_succ_self _)
  have old : ∀ b o, h.get? b = some o → h₁.get? b = some o := fun b o e => by
    have hb : b < D := hDD ▸ Heap.lt_size e
    exact hsb₁.extBut b o (Nat.ne_of_lt (Nat.lt_succ_of_lt hb)) (Heap.get?_push_of_some _ (hH2 ▸ Heap.get?_push_of_some _ e))
  have hDf : D ∉ fp := fun hm => Nat.lt_irrefl _ (hDD ▸ hfp _ hm)
  have hCf : D + 1 ∉ fp := fun hm => Nat.not_succ_lt_self (hDD ▸ hfp _ hm)
  have hDw : D ∉ wr := fun h => hDf (B.sub _ h)
  have hCw : D + 1 ∉ wr := fun h => hCf (B.sub _ h)
  have hacc : h₁.get? D = some (W.listOf ([] : List Value).toArray 0) := by
    have : H2.get? D = some (W.listOf ([] : List Value).toArray 0) := by rw [← hH2, ← hDD]; exact Heap.get?_push_size _ rfl
    exact hsb₁.extBut _ _ hDC (Heap.get?_push_of_some _ this)
  have hst₁ : St 0 h₁ := B.frame _ _ _ hst fun b _ o e => old b o e
  have hk1 : Kept s.heap h₁ := hk0.trans old
  have fresh : ∀ a, D ≤ a → s.heap.get? a = none := fun a ha => by
    cases e : s.heap.get? a with
    | none => rfl
    | some o' => exact absurd (Heap.lt_size e) (Nat.not_lt.mpr (Nat.le_trans hsz0 (hDD ▸ ha)))
  have loop : ∀ s₃ : Shared, (∃ tk', s₃ = { s with heap := h₁, toks := tk' }) →
      codeAny (model prog w) A (.compLoop (.ListComp elt [⟨target, iter, ifs, 0⟩] scope pos) 0 (.ref I) (.ref D) (compEnvC scope cl (D + 1) env)) (compPost (model prog w) A E use Q (.ref D) (D + 1)) s₃ := by
    rintro s₃ ⟨tk', rfl⟩
    refine compLoopAny n (fun i s' => ∃ h tk m ys made k, s' = { s with heap := h, toks := tk } ∧ St i h ∧ h.get? D = some (W.listOf ys.toArray k) ∧ h.Ns (D + 1) m ∧ Kept s.heap h ∧
      (∀ p ∈ made, h.get? p.1 = some p.2 ∧ s.heap.get? p.1 = none ∧ p.1 ∉ wr ∧ p.1 ≠ D ∧ p.1 ≠ D + 1) ∧ J i ys made ∧ ys.length ≤ i) ?_ ?_ ⟨h₁, tk', _, [], [], 0, rfl, hst₁, hacc, hns₁, hk1, (fun _ hp => nomatch hp), J0, Nat.le_refl _⟩
    · rintro i s' hi ⟨H, tk, m, ys, made, k, rfl, hst', hacc', hn', hk', hm', hJ, hlen⟩
      refine B.step (compEnvC scope cl (D + 1) env) i _ m _ hi hst' (fun x hx => lookup_relabel_local (hloc x hx)) (by simp [compEnvC, relabel, hkind]) hCf hn' fun vals h₂ tk₂ hPv hst₂ hn₂ hk₂ => ?_
      have F₂ : Fr s.heap (D + 1) h₂ (bindAll names vals m) := ⟨hn₂, fun b o e => hk₂ b o (fun hb => by rw [hwr b hb] at e; cases e) (fun hb => by rw [hb] at e; have q2 := fresh (D + 1) (Nat.le_succ _); rw [show s.heap.get? (compEnvC scope cl (D + 1) env).locals = none from q2] at e; cases e) (hk' b o e), Nat.le_trans hsz0 (hDD ▸ Nat.le_succ _)⟩
      have hD₂ : h₂.get? D = some (W.listOf ys.toArray k) := hk₂ D _ hDw hDC hacc'
      have N₂ : News s.heap (D + 1) h₂ (((D, W.listOf ys.toArray k) :: ownOf s.heap fp h₂) ++ made) := fun p hp => by
        rcases List.mem_append.mp hp with hp | hp
        · rcases List.mem_cons.mp hp with rfl | hp
          · exact ⟨hD₂, hDC, fresh _ (Nat.le_refl _)⟩
          · obtain ⟨b, hb, hbo⟩ := List.mem_filterMap.mp hp
            split at hbo
            · rename_i hnone
              obtain ⟨o, ho, rfl⟩ := Option.map_eq_some_iff.mp hbo
              exact ⟨ho, fun e => hCf (by dsimp only at e; exact e ▸ hb), by simpa using hnone⟩
            · cases hbo
        · obtain ⟨a1, a2, a3, a4, a5⟩ := hm' p hp
          exact ⟨hk₂ _ _ a3 a5 a1, a5, a2⟩
      have stOf : ∀ h₃ m₃ mk, Fr s.heap (D + 1) h₃ m₃ → News s.heap (D + 1) h₃ (((D, W.listOf ys.toArray k) :: ownOf s.heap fp h₂) ++ mk) → St (i + 1) h₃ := fun h₃ m₃ mk F₃ N₃ => by
        refine B.frame _ _ _ hst₂ fun b hb o e => ?_
        cases q : s.heap.get? b with
        | some o₀ =>
          have : o₀ = o := by have := F₂.keep b o₀ q; rw [e] at this; exact (Option.some.inj this).symm
          exact this ▸ F₃.keep b o₀ q
        | none => exact (N₃ _ (List.mem_append_left _ (.tail _ (mem_ownOf hb q e)))).1
      refine wpAny_mono (turn i ys made (D + 1) h₂ tk₂ m _ vals hi hJ hlen (hP _ _ hPv) F₂ N₂) (fun ok s₄ h₄ => ?_) fun _ _ f => f
      cases ok with
      | false =>
        simp only [Bool.false_eq_true, if_false] at h₄ ⊢
        obtain ⟨h₅, tk₅, m₅, rfl, F₅, N₅, hJ₅⟩ := h₄
        refine ⟨h₅, tk₅, m₅, ys, made, k, rfl, stOf _ _ _ F₅ N₅, (N₅ _ (List.mem_append_left _ (.head _))).1, F₅.ns, F₅.keep, fun p hp => ?_, hJ₅, Nat.le_succ_of_le hlen⟩
        obtain ⟨a1, a2, a3, a4, a5⟩ := hm' p hp
        exact ⟨(N₅ _ (List.mem_append_right _ hp)).1, a2, a3, a4, a5⟩
      | true =>
        simp only [if_true] at h₄ ⊢
        refine wpAny_mono h₄ (fun y s₅ h₅ => ?_) fun _ _ f => f
        obtain ⟨h₅, tk₅, m₅, fr, rfl, F₅, N₅, hfr, hJ₅⟩ := h₅
        have hD₅ := (N₅ _ (List.mem_append_left _ (.head _))).1
        dsimp only at hD₅
        have hmade : ∀ p ∈ made ++ fr, h₅.get? p.1 = some p.2 ∧ s.heap.get? p.1 = none ∧ p.1 ∉ wr ∧ p.1 ≠ D ∧ p.1 ≠ D + 1 := fun p hp => by
          have z := N₅ p (List.mem_append_right _ hp)
          rcases List.mem_append.mp hp with hp | hp
          · obtain ⟨a1, a2, a3, a4, a5⟩ := hm' p hp
            exact ⟨z.1, a2, a3, a4, a5⟩
          · have hnone := hfr p hp
            refine ⟨z.1, z.2.2, fun hw => ?_, fun e => ?_, z.2.1⟩
            · obtain ⟨o, ho⟩ := B.live _ _ hst₂ _ hw
              rw [ho] at hnone; cases hnone
            · rw [e, hD₂] at hnone; cases hnone
        have hst₅ := stOf _ _ _ F₅ N₅
        refine wpAny_list_append_plain (items := ys.toArray) (hsz := by rw [List.size_toArray]; omega) ⟨k, hD₅⟩ fun h₆ hl₆ hs₆ => ?_
        obtain ⟨k', hD₆⟩ := hl₆
        refine ⟨h₆, _, m₅, ys ++ [y], made ++ fr, k', rfl, B.frame _ _ _ hst₅ fun b hb o e => hs₆.extBut b o (fun q => hDf (q ▸ hb)) e, by simpa [W.listOf] using hD₆, F₅.ns.sameBut hs₆ (Ne.symm hDC), fun b o e => hs₆.extBut b o (fun q => by rw [q, fresh _ (Nat.le_refl _)] at e; cases e) (F₅.keep b o e), fun p hp => ?_, hJ₅, by rw [List.length_append]; simpa using hlen⟩
        obtain ⟨a1, a2, a3, a4, a5⟩ := hmade p hp
        exact ⟨hs₆.extBut _ _ a4 a1, a2, a3, a4, a5⟩
    · rintro s' ⟨H, tk, m, ys, made, k, rfl, hst', hacc', hn', hk', hm', hJ, hlen⟩
      refine B.done _ _ _ hst' fun h₂ tk₂ hk₂ => ⟨rfl, ?_⟩
      have hf1 : s.heap.get? (D + 1) = none := fresh (D + 1) (Nat.le_succ _)
      refine done D (D + 1) ys k made h₂ tk₂ m hJ (fun b o e => hk₂ b o (fun hb => by rw [hwr b hb] at e; cases e) (hk' b o e)) (fun p hp => ?_) hf1 (hn'.at' fun o e => hk₂ _ o hCw e)
      rcases List.mem_cons.mp hp with rfl | hp
      · exact ⟨hk₂ _ _ hDw hacc', fresh _ (Nat.le_refl _), hDC⟩
      · obtain ⟨a1, a2, a3, a4, a5⟩ := hm' p hp
        exact ⟨hk₂ _ _ a3 a1, a2, a5⟩
  exact codeAny_compStart_list (loop _ ⟨_, rfl⟩) (B.self 0 _ _ _ hst₁ (loop _ ⟨_, rfl⟩))
end
end Mine
end
section
open PySem PySem.W PyProof.Rows PySem.Calls
set_option maxRecDepth 100000
namespace Mine
section
variable {prog : Program} {w : World} {A : Around} {env : Env} {s : Shared}

def SrcC (prog : Program) (w : World) (A : Around) (s : Shared) (n : Nat) (P' : Nat → Value → Prop) (it : Value) (s₂ : Shared) : Prop :=
  ∃ I fp wr P St h tk, it = .ref I ∧ s₂ = { s with heap := h, toks := tk } ∧ Walks prog w A I fp wr n P St ∧ (∀ i h, St i h → ∀ b ∈ wr, ∃ o, h.get? b = some o) ∧ St 0 h ∧ (∀ b ∈ fp, b < h.objs.size) ∧ (∀ b ∈ wr, s.heap.get? b = none) ∧ Kept s.heap h ∧ s.heap.objs.size ≤ h.objs.size ∧ ∀ i v, P i v → P' i v

theorem SrcC.src {n : Nat} {P' : Nat → Value → Prop} {it : Value} {s₂ : Shared} {x : Str} {px : Pos} (h : SrcC prog w A s n P' it s₂) : Src prog w A s (.Name x px) [x] n (fun i vals => ∃ v, vals = [v] ∧ P' i v) it s₂ := by
  obtain ⟨I, fp, wr, P, St, h, tk, e, e2, B, hl, hst, hfp, hwr, hk, hz, hP⟩ := h
  exact ⟨I, fp, wr, _, St, h, tk, e, e2, Binds.name B hl, hst, hfp, hwr, hk, hz, fun i vals ⟨v, e, hv⟩ => ⟨v, e, hP i v hv⟩⟩

/-- the scope of a comprehension whose target is caught by one inside -/
theorem envC {M : Model} {scope : Scope} {globals : Addr} {cl : List (Str × Addr)} {x : Str} {qual : Str} {Q : Env → Shared → Prop} {E : Value → Shared → Prop} {outer : Env}
    (hcells : ∀ n, cellsFrom n scope.names cl = (x, n) :: cl) (hpush : ∀ h, pushCells h scope.names = h.push { cls := .type "cell", data := .cell none })
    (hQ : ∀ h', h'.Ns s.heap.objs.size (fun _ => none) → h'.IsCell (s.heap.objs.size + 1) none → (∀ b o, s.heap.get? b = some o → h'.get? b = some o) →
      Q { scope, locals := s.heap.objs.size, globals, cells := (x, s.heap.objs.size + 1) :: cl, qual, func := none, code := outer.code, frame := outer.frame, builtins := outer.builtins } { s with heap := h', toks := s.toks }) :
    wpAny M A (newFunctionEnv scope globals cl [] qual none .none (some outer)) Q E s := by
  simp only [newFunctionEnv, Option.isSome_some, if_true]
  refine wpAny_bind (wpAny_alloc ?_)
  refine wpAny_bind (wpAny_layCells _ (fun name kind cells => by cases kind <;> rfl) _ _ _ _ ?_)
  rw [hcells, hpush]
  simp only [List.forIn_nil]
  refine wpAny_bind (wpAny_pure (wpAny_pure ?_))
  rw [Heap.size_push]
  refine hQ _ ((Heap.Ns.new s.heap (.type "dict")).keeps fun b o e => Heap.get?_push_of_some _ e) ⟨_, by rw [← Heap.size_push s.heap { cls := .type "dict", data := .dict #[] }]; exact Heap.get?_push_size _ rfl, rfl⟩ fun b o e => Heap.get?_push_of_some _ (Heap.get?_push_of_some _ e)

theorem compCoreC {elt iter : Expr} {x : Str} {px : Pos} {ifs : List Expr} {scope : Scope} {cl : List (Str × Addr)} {pos pos' : Pos} {n : Nat} {P' : Nat → Value → Prop} {Q : Value → Shared → Prop} {E : Value → Shared → Prop} {use : Option (Value → Sem Unit)}
    (hclos : closureFor scope env = pure cl) (hcells : ∀ n, cellsFrom n scope.names cl = (x, n) :: cl) (hpush : ∀ h, pushCells h scope.names = h.push { cls := .type "cell", data := .cell none }) (hkind : scope.kind = .function) (hnames : ∀ y ∈ scope.names, y.2 = .local → scope.names.lookup y.1 = some .local)
    (hkx : (relabel scope env).names.lookup x = some .cell) (hn : n ≤ sizeLine) (J : Nat → List Value → List (Addr × Obj) → Prop) (J0 : J 0 [] [])
    (hiter : wpAny (model prog w) A (eval iter env) (fun xv s₁ => wpAny (model prog w) A (pyIter xv) (fun it s₂ => SrcC prog w A s n P' it s₂) E s₁) E s)
    (turn : ∀ i ys made C h tk m own v o, i < n → J i ys made → ys.length ≤ i → P' i v → o.data = .cell (some v) → Fr s.heap C h m → News s.heap C h (((C + 1, o) :: own) ++ made) →
      wpAny (model prog w) A (forIn ifs true fun c r => if r = true then do let ok ← isTrue c (compEnvC scope ((x, C + 1) :: cl) C env) (eval c (compEnvC scope ((x, C + 1) :: cl) C env)); pure (ForInStep.yield ok) else pure (ForInStep.yield r))
        (fun ok s₄ => if ok = true then wpAny (model prog w) A (eval elt (compEnvC scope ((x, C + 1) :: cl) C env)) (EltEnd s C h ((C + 1, o) :: own) made fun y made' => J (i + 1) (ys ++ [y]) made') (fun _ _ => False) s₄ else SkipEnd s C ((C + 1, o) :: own) made (J (i + 1) ys) s₄) (fun _ _ => False) { s with heap := h, toks := tk })
    (done : CompFin s n J (fun acc C s' => compPost (model prog w) A E use Q acc C (.ok .next) s'))
    (hs : ∀ x, foldedSetIterable iter env x = pure x := by intro _; rfl) :
    wpAny (model prog w) A (comprehension (.ListComp elt [⟨.Name x px, iter, ifs, 0⟩] scope pos) scope env pos' (newList []) false (eval iter env) use) Q E s := by
  refine wpAny_comprehension_free (use := use) rfl hs hclos hkind hnames (wpAny_mono hiter (fun xv s₁ h₁ => wpAny_mono h₁ (fun it s₂ h₂ => ?_) fun _ _ e => e) fun _ _ e => e)
  obtain ⟨I, fp, wr, P, St, h, tk, rfl, rfl, B, hlive, hst, hfp, hwr, hk0, hsz0, hP⟩ := h₂
  refine wpAny_newObj_type (envC hcells hpush fun h₁ hns₁ hc₁ hsb₁ => ?_)
  dsimp only at hns₁ hc₁ hsb₁ ⊢
  generalize hH2 : h.push { cls := .type "list", dict := none, data := .seq ([] : List Value).toArray } = H2 at hns₁ hc₁ hsb₁ ⊢
  have hC : H2.objs.size = h.objs.size + 1 := by rw [← hH2, Heap.size_push]
  generalize hDD : h.objs.size = D at hC ⊢
  generalize hCC : H2.objs.size = C at hC hns₁ hc₁ hsb₁ ⊢
  subst hC
  have hDC : D ≠ D + 1 := Nat.ne_of_lt (Nat.lt_succ_self _)
  have hDX : D ≠ D + 1 + 1 := Nat.ne_of_lt (Nat.lt_succ_of_lt (Nat.lt_succ_self _))
  have hCX : D + 1 ≠ D + 1 + 1 := Nat.ne_of_lt (Nat.lt_succ_self _)
  have old : ∀ b o, h.get? b = some o → h₁.get? b = some o := fun b o e => hsb₁ b o (hH2 ▸ Heap.get?_push_of_some _ e)
  have hDf : D ∉ fp := fun hm => Nat.lt_irrefl _ (hDD ▸ hfp _ hm)
  have hCf : D + 1 ∉ fp := fun hm => Nat.not_succ_lt_self (hDD ▸ hfp _ hm)
  have hXf : D + 1 + 1 ∉ fp := fun hm => absurd (hfp _ hm) (by rw [hDD]; exact Nat.not_lt.mpr (Nat.le_succ_of_le (Nat.le_succ D)))
  have hDw : D ∉ wr := fun h => hDf (B.sub _ h)
  have hCw : D + 1 ∉ wr := fun h => hCf (B.sub _ h)
  have hXw : D + 1 + 1 ∉ wr := fun h => hXf (B.sub _ h)
  have hacc : h₁.get? D = some (W.listOf ([] : List Value).toArray 0) := by
    have : H2.get? D = some (W.listOf ([] : List Value).toArray 0) := by rw [← hH2, ← hDD]; exact Heap.get?_push_size _ rfl
    exact hsb₁ _ _ this
  have hst₁ : St 0 h₁ := B.frame _ _ _ hst fun b _ o e => old b o e
  have hk1 : Kept s.heap h₁ := hk0.trans old
  have fresh : ∀ a, D ≤ a → s.heap.get? a = none := fun a ha => by
    cases e : s.heap.get? a with
    | none => rfl
    | some o' => exact absurd (Heap.lt_size e) (Nat.not_lt.mpr (Nat.le_trans hsz0 (hDD ▸ ha)))
  have hf1 : s.heap.get? (D + 1) = none := fresh (D + 1) (Nat.le_succ _)
  have hf2 : s.heap.get? (D + 1 + 1) = none := fresh (D + 1 + 1) (Nat.le_succ_of_le (Nat.le_succ _))
  have hf0 : s.heap.get? D = none := fresh D (Nat.le_refl _)
  have loop : ∀ s₃ : Shared, (∃ tk', s₃ = { s with heap := h₁, toks := tk' }) →
      codeAny (model prog w) A (.compLoop (.ListComp elt [⟨.Name x px, iter, ifs, 0⟩] scope pos) 0 (.ref I) (.ref D) (compEnvC scope ((x, D + 1 + 1) :: cl) (D + 1) env)) (compPost (model prog w) A E use Q (.ref D) (D + 1)) s₃ := by
    rintro s₃ ⟨tk', rfl⟩
    refine compLoopAny n (fun i s' => ∃ h tk m ys made k v₀, s' = { s with heap := h, toks := tk } ∧ St i h ∧ h.get? D = some (W.listOf ys.toArray k) ∧ h.IsCell (D + 1 + 1) v₀ ∧ h.Ns (D + 1) m ∧ Kept s.heap h ∧
      (∀ p ∈ made, h.get? p.1 = some p.2 ∧ s.heap.get? p.1 = none ∧ p.1 ∉ wr ∧ p.1 ≠ D ∧ p.1 ≠ D + 1 ∧ p.1 ≠ D + 1 + 1) ∧ J i ys made ∧ ys.length ≤ i) ?_ ?_ ⟨h₁, tk', _, [], [], 0, none, rfl, hst₁, hacc, hc₁, hns₁, hk1, (fun _ hp => nomatch hp), J0, Nat.le_refl _⟩
    · rintro i s' hi ⟨H, tk, m, ys, made, k, v₀, rfl, hst', hacc', hcl', hn', hk', hm', hJ, hlen⟩
      refine B.item i _ _ _ hi hst' fun v h₂ tk₂ hPv hst₂ hk₂ => ⟨v, rfl, ?_⟩
      show wpAny _ _ (pure ()) _ _ _
      refine wpAny_pure ?_
      have hcl₂ : h₂.IsCell (D + 1 + 1) v₀ := by obtain ⟨o, ho, hd⟩ := hcl'; exact ⟨o, hk₂ _ o hXw ho, hd⟩
      refine wpAny_assign_Name (wpAny_storeName_cell (c := D + 1 + 1) hkind hkx (by simp [compEnvC]) hcl₂ fun h₃ hcl₃ hs₃ => ?_)
      obtain ⟨oc, hoc, hdc⟩ := hcl₃
      have k23 : ∀ b o, b ≠ D + 1 + 1 → h₂.get? b = some o → h₃.get? b = some o := fun b o hb e => hs₃.extBut b o hb e
      have n₂ : h₂.Ns (D + 1) m := hn'.at' fun o e => hk₂ _ o hCw e
      have hst₃ : St (i + 1) h₃ := B.frame _ _ _ hst₂ fun b hb o e => k23 b o (fun q => hXf (q ▸ hb)) e
      have F₃ : Fr s.heap (D + 1) h₃ m := ⟨n₂.sameBut hs₃ hCX, fun b o e => k23 b o (fun q => by rw [q, hf2] at e; cases e) (hk₂ b o (fun hb => by rw [hwr b hb] at e; cases e) (hk' b o e)), Nat.le_trans hsz0 (hDD ▸ Nat.le_succ _)⟩
      have hD₃ : h₃.get? D = some (W.listOf ys.toArray k) := k23 _ _ hDX (hk₂ D _ hDw hacc')
      have N₃ : News s.heap (D + 1) h₃ (((D + 1 + 1, oc) :: (D, W.listOf ys.toArray k) :: ownOf s.heap fp h₃) ++ made) := fun p hp => by
        rcases List.mem_append.mp hp with hp | hp
        · rcases List.mem_cons.mp hp with rfl | hp
          · exact ⟨hoc, Ne.symm hCX, hf2⟩
          rcases List.mem_cons.mp hp with rfl | hp
          · exact ⟨hD₃, hDC, hf0⟩
          · obtain ⟨b, hb, hbo⟩ := List.mem_filterMap.mp hp
            split at hbo
            · rename_i hnone
              obtain ⟨o, ho, rfl⟩ := Option.map_eq_some_iff.mp hbo
              exact ⟨ho, fun e => hCf (by dsimp only at e; exact e ▸ hb), by simpa using hnone⟩
            · cases hbo
        · obtain ⟨a1, a2, a3, a4, a5, a6⟩ := hm' p hp
          exact ⟨k23 _ _ a6 (hk₂ _ _ a3 a1), a5, a2⟩
      have stOf : ∀ h₄ m₄ mk, Fr s.heap (D + 1) h₄ m₄ → News s.heap (D + 1) h₄ (((D + 1 + 1, oc) :: (D, W.listOf ys.toArray k) :: ownOf s.heap fp h₃) ++ mk) → St (i + 1) h₄ := fun h₄ m₄ mk F₄ N₄ => by
        refine B.frame _ _ _ hst₃ fun b hb o e => ?_
        cases q : s.heap.get? b with
        | some o₀ =>
          have : o₀ = o := by have := F₃.keep b o₀ q; rw [e] at this; exact (Option.some.inj this).symm
          exact this ▸ F₄.keep b o₀ q
        | none => exact (N₄ _ (List.mem_append_left _ (.tail _ (.tail _ (mem_ownOf hb q e))))).1
      refine wpAny_mono (turn i ys made (D + 1) h₃ tk₂ m _ v oc hi hJ hlen (hP _ _ hPv) hdc F₃ N₃) (fun ok s₄ h₄ => ?_) fun _ _ f => f
      cases ok with
      | false =>
        simp only [Bool.false_eq_true, if_false] at h₄ ⊢
        obtain ⟨h₅, tk₅, m₅, rfl, F₅, N₅, hJ₅⟩ := h₄
        refine ⟨h₅, tk₅, m₅, ys, made, k, _, rfl, stOf _ _ _ F₅ N₅, (N₅ _ (List.mem_append_left _ (.tail _ (.head _)))).1, ⟨oc, (N₅ _ (List.mem_append_left _ (.head _))).1, hdc⟩, F₅.ns, F₅.keep, fun p hp => ?_, hJ₅, Nat.le_succ_of_le hlen⟩
        obtain ⟨a1, a2, a3, a4, a5, a6⟩ := hm' p hp
        exact ⟨(N₅ _ (List.mem_append_right _ hp)).1, a2, a3, a4, a5, a6⟩
      | true =>
        simp only [if_true] at h₄ ⊢
        refine wpAny_mono h₄ (fun y s₅ h₅ => ?_) fun _ _ f => f
        obtain ⟨h₅, tk₅, m₅, fr, rfl, F₅, N₅, hfr, hJ₅⟩ := h₅
        have hD₅ := (N₅ _ (List.mem_append_left _ (.tail _ (.head _)))).1
        have hX₅ := (N₅ _ (List.mem_append_left _ (.head _))).1
        dsimp only at hD₅ hX₅
        have hmade : ∀ p ∈ made ++ fr, h₅.get? p.1 = some p.2 ∧ s.heap.get? p.1 = none ∧ p.1 ∉ wr ∧ p.1 ≠ D ∧ p.1 ≠ D + 1 ∧ p.1 ≠ D + 1 + 1 := fun p hp => by
          have z := N₅ p (List.mem_append_right _ hp)
          rcases List.mem_append.mp hp with hp | hp
          · obtain ⟨a1, a2, a3, a4, a5, a6⟩ := hm' p hp
            exact ⟨z.1, a2, a3, a4, a5, a6⟩
          · have hnone := hfr p hp
            refine ⟨z.1, z.2.2, fun hw => ?_, fun e => ?_, z.2.1, fun e => ?_⟩
            · obtain ⟨o, ho⟩ := hlive _ _ hst₃ _ hw
              rw [ho] at hnone; cases hnone
            · rw [e, hD₃] at hnone; cases hnone
            · rw [e, hoc] at hnone; cases hnone
        have hst₅ := stOf _ _ _ F₅ N₅
        refine wpAny_list_append_plain (items := ys.toArray) (hsz := by rw [List.size_toArray]; omega) ⟨k, hD₅⟩ fun h₆ hl₆ hs₆ => ?_
        obtain ⟨k', hD₆⟩ := hl₆
        refine ⟨h₆, _, m₅, ys ++ [y], made ++ fr, k', _, rfl, B.frame _ _ _ hst₅ fun b hb o e => hs₆.extBut b o (fun q => hDf (q ▸ hb)) e, by simpa [W.listOf] using hD₆, ⟨oc, hs₆.extBut _ _ (Ne.symm hDX) hX₅, hdc⟩, F₅.ns.sameBut hs₆ (Ne.symm hDC), fun b o e => hs₆.extBut b o (fun q => by rw [q, hf0] at e; cases e) (F₅.keep b o e), fun p hp => ?_, hJ₅, by rw [List.length_append]; simpa using hlen⟩
        obtain ⟨a1, a2, a3, a4, a5, a6⟩ := hmade p hp
        exact ⟨hs₆.extBut _ _ a4 a1, a2, a3, a4, a5, a6⟩
    · rintro s' ⟨H, tk, m, ys, made, k, v₀, rfl, hst', hacc', hcl', hn', hk', hm', hJ, hlen⟩
      refine B.done _ _ _ hst' fun h₂ tk₂ hk₂ => ⟨rfl, ?_⟩
      refine done D (D + 1) ys k made h₂ tk₂ m hJ (fun b o e => hk₂ b o (fun hb => by rw [hwr b hb] at e; cases e) (hk' b o e)) (fun p hp => ?_) hf1 (hn'.at' fun o e => hk₂ _ o hCw e)
      rcases List.mem_cons.mp hp with rfl | hp
      · exact ⟨hk₂ _ _ hDw hacc', hf0, hDC⟩
      · obtain ⟨a1, a2, a3, a4, a5, a6⟩ := hm' p hp
        exact ⟨hk₂ _ _ a3 a1, a2, a5⟩
  exact codeAny_compStart_list (loop _ ⟨_, rfl⟩) (B.self 0 _ _ _ hst₁ (loop _ ⟨_, rfl⟩))

theorem compR {elt target iter : Expr} {ifs : List Expr} {scope : Scope} {cl : List (Str × Addr)} {pos : Pos} {names : List Str} {n : Nat} {P' : Nat → List Value → Prop} {Q : Value → Shared → Prop} {E : Value → Shared → Prop}
    (hclos : closureFor scope env = pure cl) (hcell : ∀ y ∈ scope.names, y.2 ≠ .cell) (hkind : scope.kind = .function) (hnames : ∀ y ∈ scope.names, y.2 = .local → scope.names.lookup y.1 = some .local)
    (hloc : ∀ x ∈ names, scope.names.lookup x = some .local) (hn : n ≤ sizeLine) (J : Nat → List Value → List (Addr × Obj) → Prop) (J0 : J 0 [] [])
    (hiter : wpAny (model prog w) A (eval iter env) (fun xv s₁ => wpAny (model prog w) A (pyIter xv) (fun it s₂ => Src prog w A s target names n P' it s₂) E s₁) E s)
    (turn : ∀ i ys made C h tk m own vals, i < n → J i ys made → ys.length ≤ i → P' i vals → Fr s.heap C h (bindAll names vals m) → News s.heap C h (own ++ made) →
      wpAny (model prog w) A (forIn ifs true fun c r => if r = true then do let ok ← isTrue c (compEnvC scope cl C env) (eval c (compEnvC scope cl C env)); pure (ForInStep.yield ok) else pure (ForInStep.yield r))
        (fun ok s₄ => if ok = true then wpAny (model prog w) A (eval elt (compEnvC scope cl C env)) (EltEnd s C h own made fun y made' => J (i + 1) (ys ++ [y]) made') (fun _ _ => False) s₄ else SkipEnd s C own made (J (i + 1) ys) s₄) (fun _ _ => False) { s with heap := h, toks := tk })
    (done : CompOut s n J Q)
    (hs : ∀ x, foldedSetIterable iter env x = pure x := by intro _; rfl) :
    wpAny (model prog w) A (eval (.ListComp elt [⟨target, iter, ifs, 0⟩] scope pos) env) Q E s := by
  rw [eval_ListComp]
  exact compCore hclos hcell hkind hnames hloc hn J J0 hiter turn done.fin hs

theorem compRC {elt iter : Expr} {x : Str} {px : Pos} {ifs : List Expr} {scope : Scope} {cl : List (Str × Addr)} {pos : Pos} {n : Nat} {P' : Nat → Value → Prop} {Q : Value → Shared → Prop} {E : Value → Shared → Prop}
    (hclos : closureFor scope env = pure cl) (hcells : ∀ n, cellsFrom n scope.names cl = (x, n) :: cl) (hpush : ∀ h, pushCells h scope.names = h.push { cls := .type "cell", data := .cell none }) (hkind : scope.kind = .function) (hnames : ∀ y ∈ scope.names, y.2 = .local → scope.names.lookup y.1 = some .local)
    (hkx : (relabel scope env).names.lookup x = some .cell) (hn : n ≤ sizeLine) (J : Nat → List Value → List (Addr × Obj) → Prop) (J0 : J 0 [] [])
    (hiter : wpAny (model prog w) A (eval iter env) (fun xv s₁ => wpAny (model prog w) A (pyIter xv) (fun it s₂ => SrcC prog w A s n P' it s₂) E s₁) E s)
    (turn : ∀ i ys made C h tk m own v o, i < n → J i ys made → ys.length ≤ i → P' i v → o.data = .cell (some v) → Fr s.heap C h m → News s.heap C h (((C + 1, o) :: own) ++ made) →
      wpAny (model prog w) A (forIn ifs true fun c r => if r = true then do let ok ← isTrue c (compEnvC scope ((x, C + 1) :: cl) C env) (eval c (compEnvC scope ((x, C + 1) :: cl) C env)); pure (ForInStep.yield ok) else pure (ForInStep.yield r))
        (fun ok s₄ => if ok = true then wpAny (model prog w) A (eval elt (compEnvC scope ((x, C + 1) :: cl) C env)) (EltEnd s C h ((C + 1, o) :: own) made fun y made' => J (i + 1) (ys ++ [y]) made') (fun _ _ => False) s₄ else SkipEnd s C ((C + 1, o) :: own) made (J (i + 1) ys) s₄) (fun _ _ => False) { s with heap := h, toks := tk })
    (done : CompOut s n J Q)
    (hs : ∀ x, foldedSetIterable iter env x = pure x := by intro _; rfl) :
    wpAny (model prog w) A (eval (.ListComp elt [⟨.Name x px, iter, ifs, 0⟩] scope pos) env) Q E s := by
  rw [eval_ListComp]
  exact compCoreC hclos hcells hpush hkind hnames hkx hn J J0 hiter turn done.fin hs

/-- put into a place of the frame, in one statement -/
theorem putComp {elt : Expr} {gens : List Comprehension} {scope : Scope} {pos spos py : Pos} {y : Str} {Q : Flow → Shared → Prop} {E : Value → Shared → Prop}
    (hsw : swapsWith (.ListComp elt gens scope pos) (some (.Name y py)) spos.line env = pure true)
    (h : wpAny (model prog w) A (comprehension (.ListComp elt gens scope pos) scope env (firstIterPos gens pos) (newList []) (firstAsync gens) (firstIter gens env) (some (assign (.Name y py) env))) (fun _ s' => Q .next s') E s) :
    wpAny (model prog w) A (exec (.Assign [.Name y py] (.ListComp elt gens scope pos) spos) env) Q E s := by
  rw [exec_Assign_Name_used _ _ _ _ hsw]
  refine wpAny_bind (wpAny_standAt (wpAny_bind ?_))
  show wpAny _ A (do let _ ← comprehension (.ListComp elt gens scope pos) scope env _ (newList []) _ _ (some (assign (.Name y py) env))) _ _ s
  exact wpAny_bind (wpAny_mono h (fun _ s' hq => wpAny_pure (wpAny_pure hq)) fun _ _ e => e)
end
end Mine
end
section
open PySem PySem.W PyProof.Rows PySem.Calls
open Builtin Builtin.Str
set_option maxRecDepth 100000
namespace Mine

section
variable {prog : Program} {w : World} {A : Around} {E : Value → Shared → Prop} {s : Shared}

end
end Mine
end
section
open PySem PySem.W PyProof.Rows PySem.Calls
open Builtin Builtin.Str
set_option maxRecDepth 100000
namespace Mine
end Mine
namespace Mine
section
variable {prog : Program} {w : World} {A : Around} {E : Value → Shared → Prop} {s : Shared}

end
end Mine
end
section
open PySem PySem.W PyProof.Rows PySem.Calls
set_option maxRecDepth 100000
namespace Mine
section
variable {prog : Program} {w : World} {A : Around} {E : Value → Shared → Prop} {s : Shared} {h₁ : Heap} {tk₁ : Tok}

theorem none_of_size {h : Heap} {a : Addr} (ha : h.objs.size ≤ a) : h.get? a = none := by
  cases e : h.get? a with
  | none => rfl
  | some o => exact absurd (Heap.lt_size e) (Nat.not_lt.mpr ha)

theorem srcList (hh : A.handled = none) {l : Addr} {items : Array Value} (hk : Kept s.heap h₁) (hz : s.heap.objs.size ≤ h₁.objs.size) (hl : h₁.IsList l items) :
    wpAny (model prog w) A (pyIter (.ref l)) (fun it s₂ => SrcC prog w A s items.size (fun i v => items[i]? = some v) it s₂) E { s with heap := h₁, toks := tk₁ } := by
  refine wpAny_pyIter_list hl ?_
  have hlt : l < h₁.objs.size := by obtain ⟨_, e, _⟩ := hl; exact Heap.lt_size e
  refine ⟨h₁.objs.size, _, _, _, _, _, _, rfl, rfl, Walks.list hh h₁.objs.size l (Nat.ne_of_lt hlt) items, fun i h st b hb => ?_, ⟨⟨_, Heap.get?_push_size _ rfl, rfl, rfl⟩, hl.push _⟩, fun b hb => ?_, fun b hb => ?_, fun b o e => Heap.get?_push_of_some _ (hk b o e), ?_, fun i v hv => hv⟩
  · obtain ⟨⟨o, ho, _⟩, _⟩ := st
    exact ⟨o, by rw [List.mem_singleton.mp hb]; exact ho⟩
  · rw [Heap.size_push]
    simp only [List.mem_cons, List.not_mem_nil, or_false] at hb
    rcases hb with rfl | rfl
    · exact Nat.lt_succ_self _
    · exact Nat.lt_succ_of_lt hlt
  · rw [List.mem_singleton.mp hb]; exact none_of_size hz
  · rw [Heap.size_push]; exact Nat.le_succ_of_le hz

theorem srcRange (hh : A.handled = none) {r : Addr} {n : Nat} {t u v : Tok} (hk : Kept s.heap h₁) (hz : s.heap.objs.size ≤ h₁.objs.size) (hr : IsRange h₁ r 0 n 1 t u v) (hn : n < 2 ^ 60) :
    wpAny (model prog w) A (pyIter (.ref r)) (fun it s₂ => SrcC prog w A s n (fun i v => ∃ t, v = .int i t) it s₂) E { s with heap := h₁, toks := tk₁ } := by
  refine wpAny_pyIter_range hr (small_one (by omega) (by omega) (by omega) (by omega)) ?_
  have hsz : Builtin.Range.rangeSize 0 n 1 = (n : Int) := by rw [rangeSize_one]; split <;> omega
  refine ⟨h₁.objs.size, _, _, _, _, _, _, rfl, rfl, Walks.range hh h₁.objs.size 0 1 n, fun i h st b hb => ⟨_, (List.mem_singleton.mp hb) ▸ st⟩, ?_, fun b hb => ?_, fun b hb => ?_, fun b o e => Heap.get?_push_of_some _ (hk b o e), ?_, ?_⟩
  · show IsRangeIter _ _ _ _ _
    rw [hsz]
    simpa using Heap.get?_push_size _ rfl
  · rw [Heap.size_push, List.mem_singleton.mp hb]; exact Nat.lt_succ_self _
  · rw [List.mem_singleton.mp hb]; exact none_of_size hz
  · rw [Heap.size_push]; exact Nat.le_succ_of_le hz
  · rintro i v ⟨t, e⟩
    exact ⟨t, by simpa using e⟩

end
end Mine
end
section
open PySem PySem.W PyProof.Rows PySem.Calls
set_option maxRecDepth 100000
namespace Mine
section
variable {prog : Program} {w : World} {A : Around} {E : Value → Shared → Prop} {s : Shared} {g : Heap} {L : Addr} {env : Env} {h₁ : Heap} {tk₁ : Tok} {m : Str → Option Value} {news : List (Addr × Obj)}

/-- what a for walks over, the objects at mods not among it -/
def SrcG (prog : Program) (w : World) (A : Around) (g : Heap) (L : Addr) (s : Shared) (mods : List Addr) (n : Nat) (P' : Nat → Value → Prop) (J0 : (Str → Option Value) → List (Addr × Obj) → Prop) (it : Value) (s₂ : Shared) : Prop :=
  ∃ I fp wr P St h tk m news, it = .ref I ∧ s₂ = { s with heap := h, toks := tk } ∧ Walks prog w A I fp wr n P St ∧ (∀ i h, St i h → ∀ b ∈ wr, ∃ o, h.get? b = some o) ∧ St 0 h ∧ L ∉ fp ∧ (∀ b ∈ wr, g.get? b = none) ∧ (∀ p ∈ news, p.1 ∉ wr) ∧ (∀ a ∈ mods, a ∉ fp) ∧
    Fr g L h m ∧ News g L h news ∧ J0 m news ∧ ∀ i v, P i v → P' i v

/-- how a turn ends, whose ledger may grow -/
def TurnG (Q : Flow → Shared → Prop) (g : Heap) (L : Addr) (s : Shared) (adr : List Addr) (own : List (Addr × Obj)) (J : (Str → Option Value) → List (Addr × Obj) → Prop) (fl : Flow) (s' : Shared) : Prop :=
  (fl = .next ∧ ∃ h' tk m' nx, s' = { s with heap := h', toks := tk } ∧ Fr g L h' m' ∧ News g L h' (nx ++ own) ∧ (∀ p ∈ nx, p.1 ∈ adr ∨ ∀ q ∈ own, p.1 ≠ q.1) ∧ J m' nx) ∨ ((∃ v, fl = .ret v) ∧ Q fl s')
theorem TurnG.go {Q : Flow → Shared → Prop} {adr : List Addr} {own : List (Addr × Obj)} {J : (Str → Option Value) → List (Addr × Obj) → Prop} {h' : Heap} {tk : Tok} {m' : Str → Option Value} {nx : List (Addr × Obj)}
    (F : Fr g L h' m') (N : News g L h' (nx ++ own)) (ha : ∀ p ∈ nx, p.1 ∈ adr ∨ ∀ q ∈ own, p.1 ≠ q.1) (r : J m' nx) : TurnG Q g L s adr own J .next { s with heap := h', toks := tk } := .inl ⟨rfl, h', tk, m', nx, rfl, F, N, ha, r⟩

theorem forG {x : Str} {px pos : Pos} {iter : Expr} {body : List Stmt} {Q : Flow → Shared → Prop} {R : (Str → Option Value) → List (Addr × Obj) → Prop} {n : Nat} {P' : Nat → Value → Prop} {h₀ : Heap} {tk₀ : Tok} (mods : List Addr) (J : Nat → (Str → Option Value) → List (Addr × Obj) → Prop)
    (hL : env.locals = L) (hx : env.kindOf x = some .local) (hp : (env.scope.kind == .class || (env.scope.kind == .module && env.locals != env.globals)) = false)
    (hiter : wpAny (model prog w) A (eval iter env) (fun xv s₁ => wpAny (model prog w) A (pyIter xv) (fun it s₂ => SrcG prog w A g L s mods n P' (J 0) it s₂) E s₁) E { s with heap := h₀, toks := tk₀ })
    (turn : ∀ i v m₁ nw h tk own, i < n → P' i v → J i m₁ nw → OwnOff own mods → Fr g L h (fun y => if y = x then some v else m₁ y) → News g L h (nw ++ own) →
      wpAny (model prog w) A (execs body env) (TurnG Q g L s (nw.map (·.1)) own (J (i + 1))) E { s with heap := h, toks := tk })
    (done : ∀ m nx, J n m nx → R m nx)
    (hs : ∀ x, foldedSetIterable iter env x = pure x := by intro _; rfl)
    (hE : PassesOwn (model prog w) A env E := by passes_own) :
    wpAny (model prog w) A (exec (.For (.Name x px) iter body [] pos) env) (CutN Q g L s R) E { s with heap := h₀, toks := tk₀ } := by
  subst hL
  refine For_invV g hx hp (wpAny_mono hiter (fun xv s₁ h₁ => wpAny_mono h₁ (fun it s₂ h₂ => ?_) fun _ _ e => e) fun _ _ e => e) hs hE
  obtain ⟨I, fp, wr, P, St, h, tk, m, news, rfl, rfl, W, hlive, hst, hLf, hwr, hnw, hmods, F, N, hJ, hP⟩ := h₂
  refine ⟨I, fp, wr, n, P, St, m, news, J, rfl, W, hLf, hwr, hnw, hst, F, N, hJ, ?_, ?_⟩
  · rintro i v m₁ nw s₁ own ⟨hh, tk', rfl⟩ hi hPv hJi hoff hown _ hin hst' F₁ N₁
    have N₂ : News g env.locals hh (nw ++ own) := fun p hp => N₁ p ((List.mem_append.mp hp).elim (fun h => List.mem_append.mpr (.inr h)) fun h => List.mem_append.mpr (.inl h))
    refine wpAny_mono (turn i v m₁ nw hh tk' own hi (hP i v hPv) hJi (fun p hp b hb e => hmods b hb (e ▸ hown p hp)) F₁ N₂) (fun f s₂ p => ?_) fun _ _ e => e
    rcases p with ⟨rfl, h', tk₂, m', nx, rfl, F', N', hadr, hJ'⟩ | ⟨⟨v, rfl⟩, hq⟩
    · refine .next ⟨rfl, h', tk₂, m', nx, rfl, F', fun p hp => N' p ((List.mem_append.mp hp).elim (fun h => List.mem_append.mpr (.inr h)) fun h => List.mem_append.mpr (.inl h)), fun p hp hw => ?_, hJ'⟩
      rcases hadr p hp with ha | ha
      · obtain ⟨q, hq, e⟩ := List.mem_map.mp ha
        exact hoff q hq (e ▸ hw)
      · obtain ⟨o, ho⟩ := hlive _ _ hst' _ hw
        exact ha _ (hin _ (W.sub _ hw) (hwr _ hw) o ho) rfl
    · exact .ret (.inr ⟨⟨v, rfl⟩, hq⟩)
  · rintro h' tk' m' nx F' N' _ hJ'
    exact .inl ⟨rfl, h', tk', m', nx, rfl, F', N', done _ _ hJ'⟩

theorem srcListG (hh : A.handled = none) {l : Addr} {items : Array Value} {mods : List Addr} {J0 : (Str → Option Value) → List (Addr × Obj) → Prop} (F : Fr g L h₁ m) (N : News g L h₁ news) (hl : h₁.IsList l items) (hlL : l ≠ L) (hm : ∀ a ∈ mods, a ≠ l ∧ ∃ o, h₁.get? a = some o) (j : J0 m news) :
    wpAny (model prog w) A (pyIter (.ref l)) (fun it s₂ => SrcG prog w A g L s mods items.size (fun i v => items[i]? = some v) J0 it s₂) E { s with heap := h₁, toks := tk₁ } := by
  refine wpAny_pyIter_list hl ?_
  have hlt : l < h₁.objs.size := by obtain ⟨_, e, _⟩ := hl; exact Heap.lt_size e
  have up : Kept h₁ (h₁.push { cls := .type "list_iterator", data := .fields #[.ref l, .int 0 0] }) := fun b o e => Heap.get?_push_of_some _ e
  have ne : ∀ {a o}, h₁.get? a = some o → a ≠ h₁.objs.size := fun e => Nat.ne_of_lt (Heap.lt_size e)
  refine ⟨h₁.objs.size, [h₁.objs.size, l], [h₁.objs.size], _, _, _, _, m, news, rfl, rfl, Walks.list hh h₁.objs.size l (Nat.ne_of_lt hlt) items, fun i h st b hb => ?_, ⟨⟨_, Heap.get?_push_size _ rfl, rfl, rfl⟩, hl.push _⟩, fun hb => ?_, fun b hb => ?_, fun p hp hb => ?_, fun a ha hb => ?_, Fr.after F up, fun p hp => ⟨up _ _ (N p hp).1, (N p hp).2⟩, j, fun i v hv => hv⟩
  · obtain ⟨⟨o, ho, _⟩, _⟩ := st
    exact ⟨o, by rw [List.mem_singleton.mp hb]; exact ho⟩
  · simp only [List.mem_cons, List.not_mem_nil, or_false] at hb
    rcases hb with hb | hb
    · exact Nat.ne_of_lt F.ns.lt hb
    · exact hlL hb.symm
  · rw [List.mem_singleton.mp hb]
    cases e : g.get? h₁.objs.size with
    | none => rfl
    | some o => exact absurd rfl (ne (F.keep _ _ e))
  · exact ne (N p hp).1 (List.mem_singleton.mp hb)
  · obtain ⟨hne, o, ho⟩ := hm a ha
    simp only [List.mem_cons, List.not_mem_nil, or_false] at hb
    rcases hb with hb | hb
    · exact ne ho hb
    · exact hne hb
end
end Mine
end
section
open PySem PySem.W PyProof.Rows PySem.Calls
set_option maxRecDepth 100000
namespace Mine
section
variable {prog : Program} {w : World} {A : Around} {E : Value → Shared → Prop} {s : Shared} {g : Heap} {L : Addr} {m : Str → Option Value} {news : List (Addr × Obj)}
/-- a list's rest from place n on -/
theorem rest_of {l : Addr} {vs : List Value} {n : Nat} {t : Tok} {ns : List Int} {value slice : Expr} {Q : Value → Shared → Prop} (F : Fr g L s.heap m) (N : News g L s.heap news) (hl : s.heap.IsList l vs.toArray) (hi : IntsAre vs ns)
    (h : ∀ D ws h', Fr g L h' m → News g L h' ((D, W.listOf (List.toArray ws) 0) :: news) → (∀ p ∈ news, p.1 < D) → IntsAre ws (ns.drop n) → Q (.ref D) { s with heap := h' })
    (hs : subscripted slice false (.ref l) (.ref s.heap.objs.size) = operate [.ref s.heap.objs.size, .ref l] (getItem (.ref l) (.ref s.heap.objs.size))) (hz : vs.length ≤ 1000) :
    wpAny (model prog w) A (subscriptTail value slice (.ref l) (.ref s.heap.objs.size)) Q E { s with heap := s.heap.push { cls := .type "slice", data := .fields #[.int n t, .none, .none] } } := by
  refine kba_turn (value' := PySem.Expr.Name (PySem.Str.ofString "_") ⟨0, 0, 0, 0⟩) (fun _ => rfl) ?_
  refine kmk_slice_ints (lo := some (n : Int)) (hi := none) (ms := ns.drop n) (c := (ns.drop n).length) F N hl (IsPart.int _ _) IsPart.none hi ?_ rfl (fun D ws h' F' N' l1 hi' _ _ => h D ws h' F' N' l1 hi') hs (fun _ => rfl) (by rw [List.size_toArray]; exact Nat.le_trans hz (by decide))
  have := slice_ints_fromW hi (x := (n : Int)) (by omega)
  simpa using this
end
end Mine
namespace Mine
end Mine
namespace Mine
open PySem PySem.W PyProof.Rows PySem.Calls
theorem compLed {s : Shared} {g : Heap} {L : Addr} {m : Str → Option Value} {news : List (Addr × Obj)} {n : Nat} {J : Nat → List Value → List (Addr × Obj) → Prop} {Q : Value → Shared → Prop} (F : Fr g L s.heap m) (N : News g L s.heap news)
    (H : ∀ D ys k made h' tk, J n ys made → Fr g L h' m → News g L h' ((D, W.listOf ys.toArray k) :: (made ++ news)) → (∀ p ∈ (D, W.listOf ys.toArray k) :: made, ∀ q ∈ news, p.1 ≠ q.1) → Q (.ref D) { s with heap := h', toks := tk }) : CompOut s n J Q := by
  intro D ys k made h' tk hJ hk hp
  refine H D ys k made h' tk hJ (Fr.after F hk) (fun p hm => ?_) fun p hm q hq e => ?_
  · rw [← List.cons_append] at hm
    rcases List.mem_append.mp hm with hm | hm
    · have z := hp p hm
      refine ⟨z.1, fun e => ?_, ?_⟩
      · obtain ⟨o, _, _, ho, _⟩ := F.ns
        rw [e, ho] at z; cases z.2
      · cases q : g.get? p.1 with
        | none => rfl
        | some o => have := F.keep _ _ q; rw [z.2] at this; cases this
    · exact ⟨hk _ _ (N p hm).1, (N p hm).2⟩
  · have z := (hp p hm).2
    rw [e, (N q hq).1] at z
    cases z
end Mine
end
section
open PySem PySem.W PyProof.Rows PySem.Calls
set_option maxRecDepth 100000
namespace Mine
inductive StrsAt : List Value → List (List Nat) → Prop
  | nil : StrsAt [] []
  | cons (x : List Nat) (t : Tok) {vs xs} : StrsAt vs xs → StrsAt (.str (ofL x) t :: vs) (x :: xs)
theorem StrsAt.len {vs : List Value} {xs : List (List Nat)} (h : StrsAt vs xs) : vs.length = xs.length := by
  induction h with
  | nil => rfl
  | cons x t _ ih => simp [ih]
theorem StrsAt.at {vs : List Value} {xs : List (List Nat)} (h : StrsAt vs xs) : ∀ {i : Nat} {v : Value}, vs[i]? = some v → ∃ x t, v = .str (ofL x) t ∧ xs[i]? = some x := by
  induction h with
  | nil => intro i v e; simp at e
  | cons x t _ ih =>
    intro i v e
    cases i with
    | zero => simp at e; exact ⟨x, t, e.symm, by simp⟩
    | succ i => simp at e; obtain ⟨y, u, e1, e2⟩ := ih e; exact ⟨y, u, e1, by simpa using e2⟩
theorem StrsAt.snoc {vs : List Value} {xs : List (List Nat)} (h : StrsAt vs xs) (x : List Nat) (t : Tok) : StrsAt (vs ++ [.str (ofL x) t]) (xs ++ [x]) := by
  induction h with
  | nil => exact .cons _ _ .nil
  | cons y u _ ih => exact .cons _ _ ih
theorem ints_len {vs : List Value} {xs : List Int} (h : IntsAre vs xs) : vs.length = xs.length := by
  induction h with
  | nil => rfl
  | cons _ _ _ ih => simp [ih]
theorem ints_at {vs : List Value} {xs : List Int} (h : IntsAre vs xs) : ∀ {i : Nat} {v : Value}, vs[i]? = some v → ∃ x t, v = .int x t ∧ xs[i]? = some x := by
  induction h with
  | nil => intro i v e; simp at e
  | cons x t _ ih =>
    intro i v e
    cases i with
    | zero => simp at e; exact ⟨x, t, e.symm, by simp⟩
    | succ i => simp at e; obtain ⟨y, u, e1, e2⟩ := ih e; exact ⟨y, u, e1, by simpa using e2⟩

theorem StrsAt.are {vs : List Value} {xs : List (List Nat)} (h : StrsAt vs xs) : StrsAre vs (xs.map ofL) := by
  induction h with
  | nil => exact .nil
  | cons x t _ ih => exact .cons _ _ ih
theorem cat_ofL (a b : List Nat) : ofL a ++ ofL b = ofL (a ++ b) := by
  show (⟨_⟩ : Str) = ⟨_⟩
  simp [ofL]
theorem fold_ofL (xs : List (List Nat)) : ∀ a : List Nat, (xs.map ofL).foldl HAppend.hAppend (ofL a) = ofL (a ++ xs.flatten) := by
  induction xs with
  | nil => intro a; simp
  | cons x xs ih => intro a; rw [List.map_cons, List.foldl_cons, cat_ofL, ih]; simp
theorem join_flat (xs : List (List Nat)) : Txt.join (ofL []) (xs.map ofL) = ofL xs.flatten := by
  have h := fold_cat_join_nil (xs.map ofL)
  have h2 := fold_ofL xs []
  rw [show (⟨#[]⟩ : Str) = ofL [] from rfl] at h
  rw [h2] at h
  rw [beq_iff_eq.mp (join_plain_closes (ofL []) (xs.map ofL))]
  simpa using h.symm
theorem join_use {prog : Program} {w : World} {A : Around} {E : Value → Shared → Prop} {s : Shared} {t : Tok} {Q : Value → Shared → Prop} {D : Addr} {ys : List Value} {xs : List (List Nat)} (hl : s.heap.IsList D ys.toArray) (hi : StrsAt ys xs) (hok : xs.flatten.length ≤ 16777216)
    (h : ∀ t' k, Q (.str (ofL xs.flatten) t') { s with toks := k }) : wpAny (model prog w) A (call (.builtin "str.join") [.str (ofL []) t, .ref D]) Q E s := by
  refine join_list hl (ys := xs.map ofL) (by simpa using hi.are) ?_ (by rw [join_flat]; exact h)
  have e : ((xs.map ofL).map (·.length)).sum = xs.flatten.length := by
    rw [List.length_flatten, List.map_map]
    congr 1
  rw [e]
  simpa [ofL_len] using hok

/-- a name of a comprehension's own -/
theorem cmpName {M : Model} {A : Around} {E : Value → Shared → Prop} {s : Shared} {g : Heap} {scope : Scope} {cl : List (Str × Addr)} {C : Addr} {env : Env} {x : Str} {pos : Pos} {v : Value} {m : Str → Option Value} {Q : Value → Shared → Prop} (F : Fr g C s.heap m)
    (hx : (compEnvC scope cl C env).kindOf x = some .local) (hv : m x = some v) (h : Q v s) (hk : (compEnvC scope cl C env).scope.kind = .function) (hb : (x == ("__debug__" : Str)) = false) :
    wpAny M A (eval (.Name x pos) (compEnvC scope cl C env)) Q E s := wpAny_Name (wpAny_loadName_local hk hx F.ns hv h) hb

theorem add_use {prog : Program} {w : World} {A : Around} {E : Value → Shared → Prop} {s : Shared} {t u : Tok} {x y : Str} {Q : Value → Shared → Prop} (hs : x.length + y.length ≤ 16777216) (h : ∀ t' k, Q (.str (ofL (x.cps.toList ++ y.cps.toList)) t') { s with toks := k }) :
    wpAny (model prog w) A (binaryOp .Add (.str x t) (.str y u)) Q E s := by
  refine PyProof.Rows.add_str (fun t' k => ?_) (Nat.le_trans hs (by decide))
  have e : x ++ y = ofL (x.cps.toList ++ y.cps.toList) := by
    show (⟨_⟩ : Str) = ⟨_⟩
    simp [ofL]
  rw [e]
  exact h t' k
end Mine
end
section
open PySem PySem.W PyProof.Rows PySem.Calls
set_option maxRecDepth 100000
namespace Mine
/-- lists of ints, each its own object -/
inductive ListsAt : List Value → List (Addr × Obj) → List (List Int) → Prop
  | nil : ListsAt [] [] []
  | cons (D : Addr) (vs : List Value) (k : Nat) (ns : List Int) {rs ls nss} : IntsAre vs ns → ListsAt rs ls nss → ListsAt (.ref D :: rs) ((D, W.listOf vs.toArray k) :: ls) (ns :: nss)
theorem ListsAt.snoc {rs : List Value} {ls : List (Addr × Obj)} {nss : List (List Int)} (h : ListsAt rs ls nss) (D : Addr) (vs : List Value) (k : Nat) (ns : List Int) (hi : IntsAre vs ns) : ListsAt (rs ++ [.ref D]) (ls ++ [(D, W.listOf vs.toArray k)]) (nss ++ [ns]) := by
  induction h with
  | nil => exact .cons D vs k ns hi .nil
  | cons D' vs' k' ns' hi' _ ih => exact .cons D' vs' k' ns' hi' ih
section
variable {prog : Program} {w : World} {A : Around} {E : Value → Shared → Prop} {s : Shared} {g : Heap} {L : Addr} {m : Str → Option Value}
theorem newListN {items : List Value} {news : List (Addr × Obj)} {Q : Value → Shared → Prop} (F : Fr g L s.heap m) (N : News g L s.heap news) (hz : items.length ≤ 1000)
    (h : ∀ h' D, Fr g L h' m → News g L h' ((D, W.listOf items.toArray 0) :: news) → (∀ q ∈ news, D ≠ q.1) → Q (.ref D) { s with heap := h' }) : wpAny (model prog w) A (newList items) Q E s := by
  refine wpAny_newList (h _ _ (F.push _) (News.push F N _) fun q hq e => ?_) (Nat.le_trans hz (by decide))
  exact absurd (Heap.lt_size (N q hq).1) (e ▸ Nat.lt_irrefl _)
theorem srcListN (hh : A.handled = none) {l : Addr} {items : List Value} {n : Nat} {mods : List Addr} {J0 : (Str → Option Value) → List (Addr × Obj) → Prop} {h₁ : Heap} {tk₁ : Tok} {news : List (Addr × Obj)} (F : Fr g L h₁ m) (N : News g L h₁ news) (hl : h₁.IsList l items.toArray) (hlL : l ≠ L) (hm : ∀ a ∈ mods, a ≠ l ∧ ∃ o, h₁.get? a = some o) (hn : items.length = n) (j : J0 m news) :
    wpAny (model prog w) A (pyIter (.ref l)) (fun it s₂ => SrcG prog w A g L s mods n (fun i v => items[i]? = some v) J0 it s₂) E { s with heap := h₁, toks := tk₁ } := by
  subst hn
  have := srcListG (prog := prog) (w := w) (A := A) (E := E) (s := s) (tk₁ := tk₁) (J0 := J0) (mods := mods) hh F N hl hlL hm j
  simpa using this
end
end Mine
end
section
open PySem PySem.W PyProof.Rows PySem.Calls
set_option maxRecDepth 100000
namespace Mine
/-- a list of the ledger -/
def LAt (nx : List (Addr × Obj)) (a : Addr) (vs : List Value) : Prop := ∃ k, (a, W.listOf vs.toArray k) ∈ nx
/-- a cell of the ledger -/
def CAt (nx : List (Addr × Obj)) (c : Addr) (v : Option Value) : Prop := ∃ o : Obj, (c, o) ∈ nx ∧ o.data = .cell v
/-- lists of ints of the ledger -/
inductive RowsAt (nx : List (Addr × Obj)) : List Value → List (List Int) → Prop
  | nil : RowsAt nx [] []
  | cons {D : Addr} {vs : List Value} {ns : List Int} {rs : List Value} {nss : List (List Int)} : LAt nx D vs → IntsAre vs ns → RowsAt nx rs nss → RowsAt nx (.ref D :: rs) (ns :: nss)
section
variable {nx nx' : List (Addr × Obj)} {g h : Heap} {L : Addr}
theorem LAt.mono {a : Addr} {vs : List Value} (hs : ∀ p ∈ nx, p ∈ nx') : LAt nx a vs → LAt nx' a vs := fun ⟨k, hk⟩ => ⟨k, hs _ hk⟩
theorem CAt.mono {a : Addr} {v : Option Value} (hs : ∀ p ∈ nx, p ∈ nx') : CAt nx a v → CAt nx' a v := fun ⟨k, hk, hd⟩ => ⟨k, hs _ hk, hd⟩
theorem LAt.list {a : Addr} {vs : List Value} (l : LAt nx a vs) (N : News g L h nx) : h.IsList a vs.toArray := by
  obtain ⟨k, hk⟩ := l
  exact ⟨_, (N _ hk).1, rfl, _, rfl⟩
theorem LAt.ne {a : Addr} {vs : List Value} (l : LAt nx a vs) (N : News g L h nx) : a ≠ L := by
  obtain ⟨k, hk⟩ := l
  exact (N _ hk).2.1
theorem LAt.off {a c : Addr} {vs : List Value} {v : Option Value} (l : LAt nx a vs) (N : News g L h nx) (hc : CAt nx c v) : a ≠ c := by
  rintro rfl
  obtain ⟨k, hk⟩ := l
  obtain ⟨o, ho, hd⟩ := hc
  have h1 := (N _ hk).1
  have h2 := (N _ ho).1
  dsimp only at h1 h2
  rw [h1] at h2
  cases h2
  cases hd
theorem RowsAt.up {rs : List Value} {nss : List (List Int)} (hu : ∀ a vs, LAt nx a vs → LAt nx' a vs) (h : RowsAt nx rs nss) : RowsAt nx' rs nss := by
  induction h with
  | nil => exact .nil
  | cons l i _ ih => exact .cons (hu _ _ l) i ih
theorem RowsAt.len {rs : List Value} {nss : List (List Int)} (h : RowsAt nx rs nss) : rs.length = nss.length := by
  induction h with
  | nil => rfl
  | cons l i _ ih => simp [ih]
theorem RowsAt.at {rs : List Value} {nss : List (List Int)} (h : RowsAt nx rs nss) : ∀ {i : Nat} {v : Value}, rs[i]? = some v → ∃ D vs ns, v = .ref D ∧ LAt nx D vs ∧ IntsAre vs ns ∧ nss[i]? = some ns := by
  induction h with
  | nil => intro i v e; simp at e
  | @cons D vs ns _ _ l hi _ ih =>
    intro i v e
    cases i with
    | zero => simp at e; exact ⟨D, vs, ns, e.symm, l, hi, by simp⟩
    | succ i =>
      simp at e
      obtain ⟨D', vs', ns', e1, e2, e3, e4⟩ := ih e
      exact ⟨D', vs', ns', e1, e2, e3, by simpa using e4⟩
theorem ListsAt.rows {rs : List Value} {ls : List (Addr × Obj)} {nss : List (List Int)} (h : ListsAt rs ls nss) (hs : ∀ p ∈ ls, p ∈ nx) : RowsAt nx rs nss := by
  induction h with
  | nil => exact .nil
  | cons D vs k ns hi _ ih => exact .cons ⟨k, hs _ (.head _)⟩ hi (ih fun p hp => hs p (.tail _ hp))
/-- rows picked by their places -/
theorem RowsAt.pick {rs : List Value} {nss : List (List Int)} (h : RowsAt nx rs nss) : ∀ {p : List Nat}, (∀ i ∈ p, i < rs.length) → RowsAt nx (p.map fun i => rs.getD i .none) (p.map fun i => nss.getD i [])
  | [], _ => .nil
  | i :: p, hp => by
    have hi := hp i (.head _)
    obtain ⟨D, vs, ns, e1, l, hI, e2⟩ := h.at (List.getElem?_eq_getElem hi)
    rw [List.map_cons, List.map_cons]
    have x1 : rs.getD i .none = .ref D := by rw [List.getD_eq_getElem?_getD, List.getElem?_eq_getElem hi, Option.getD_some, e1]
    have x2 : nss.getD i [] = ns := by rw [List.getD_eq_getElem?_getD, e2, Option.getD_some]
    rw [x1, x2]
    exact .cons l hI (h.pick fun j hj => hp j (.tail _ hj))
end
section
variable {M : Model} {A : Around} {E : Value → Shared → Prop} {s : Shared} {g : Heap} {L : Addr} {m : Str → Option Value} {nx : List (Addr × Obj)} {name : Str} {scope : Scope} {a : Addr} {cd : Value}
theorem stCell {x : Str} {c : Addr} {v₀ : Option Value} {v : Value} {Q : Unit → Shared → Prop} (F : Fr g L s.heap m) (N : News g L s.heap nx)
    (hc : (cellsFrom (L + 1) scope.names []).lookup x = some c) (hC : CAt nx c v₀)
    (h : ∀ h' nx', Fr g L h' m → News g L h' nx' → (∀ a vs, LAt nx a vs → LAt nx' a vs) → (∀ c' v', c' ≠ c → CAt nx c' v' → CAt nx' c' v') → CAt nx' c (some v) → Q () { s with heap := h' })
    (hk : scope.kind = .function := by rfl) (hl : (envOfC name scope L a cd).kindOf x = some .cell := by rfl) :
    wpAny M A (storeName (envOfC name scope L a cd) x v) Q E s := by
  have hC0 := hC
  obtain ⟨o, ho, hd⟩ := hC
  have N' : News g L s.heap ([] ++ (c, o) :: nx.filter fun p => decide (p.1 ≠ c)) := fun p hp => by
    rcases List.mem_cons.mp hp with rfl | hp
    · exact N _ ho
    · exact N _ (List.mem_filter.mp hp).1
  refine stCN (own := []) F N' hc hd (fun _ hp => nomatch hp) (fun p hp => by simpa using (List.mem_filter.mp hp).2) (fun h' o' F' N'' hd' => ?_) hk hl
  refine h h' _ F' N'' (fun a vs l => ?_) (fun c' v' hne hc' => ?_) ⟨o', .head _, hd'⟩
  · have hne := l.off N hC0
    obtain ⟨k, hk⟩ := l
    exact ⟨k, .tail _ (List.mem_filter.mpr ⟨hk, by simpa using hne⟩)⟩
  · obtain ⟨o2, ho2, hd2⟩ := hc'
    exact ⟨o2, .tail _ (List.mem_filter.mpr ⟨ho2, by simpa using hne⟩), hd2⟩
theorem ldCell {x : Str} {pos : Pos} {c : Addr} {v : Value} {Q : Value → Shared → Prop} (N : News g L s.heap nx) (hc : (cellsFrom (L + 1) scope.names []).lookup x = some c) (hC : CAt nx c (some v)) (h : Q v s)
    (hk : scope.kind = .function := by rfl) (hl : (envOfC name scope L a cd).kindOf x = some .cell := by rfl) (hdb : (x == ("__debug__" : Str)) = false := by decide) :
    wpAny M A (eval (.Name x pos) (envOfC name scope L a cd)) Q E s := by
  obtain ⟨o, ho, hd⟩ := hC
  exact ldCN N hc ho hd h hk hl hdb
end
section
variable {prog : Program} {w : World} {A : Around} {E : Value → Shared → Prop} {s : Shared} {env : Env}
theorem CAt.cell {nx : List (Addr × Obj)} {g h : Heap} {L c : Addr} {v : Option Value} (l : CAt nx c v) (N : News g L h nx) : h.IsCell c v := by
  obtain ⟨o, ho, hd⟩ := l
  exact ⟨o, (N _ ho).1, hd⟩
theorem cell_kept {h h' : Heap} {c : Addr} {v : Option Value} (k : Kept h h') (l : h.IsCell c v) : h'.IsCell c v := by
  obtain ⟨o, ho, hd⟩ := l
  exact ⟨o, k _ _ ho, hd⟩
theorem list_kept {h h' : Heap} {c : Addr} {v : Array Value} (k : Kept h h') (l : h.IsList c v) : h'.IsList c v := l.at fun o e => k _ _ e
/-- a caught name of the outer frame, within a comprehension -/
theorem cmpCell {M : Model} {scope : Scope} {cl : List (Str × Addr)} {C c : Addr} {x : Str} {pos : Pos} {v : Value} {Q : Value → Shared → Prop} (hv : s.heap.IsCell c (some v)) 
    (hx : (compEnvC scope cl C env).kindOf x = some .cell) (hc : cl.lookup x = some c) (h : Q v s) (hk : (compEnvC scope cl C env).scope.kind = .function) (hb : (x == ("__debug__" : Str)) = false) :
    wpAny M A (eval (.Name x pos) (compEnvC scope cl C env)) Q E s := wpAny_Name (wpAny_loadName_cell hk hx hc hv h) hb
/-- an if that is not taken -/
theorem ifSkip {M : Model} {test : Expr} {body : List Stmt} {pos : Pos} {Q : Flow → Shared → Prop} (h : wpAny M A (isTrue test env (eval test env)) (fun r s' => r = false ∧ Q .next s') E s) : wpAny M A (exec (.If test body [] pos) env) Q E s := by
  refine wpAny_If (wpAny_mono h (fun r s' q => ?_) fun _ _ e => e)
  obtain ⟨rfl, q⟩ := q
  simp only [Bool.false_eq_true, if_false]
  rw [execs]
  exact wpAny_pure q
end
section
variable {prog : Program} {w : World} {A : Around} {E : Value → Shared → Prop} {s : Shared} {h₁ : Heap} {tk₁ : Tok}
theorem srcListS (hh : A.handled = none) {l : Addr} {items : List Value} {n : Nat} {x : Str} {px : Pos} (hk : Kept s.heap h₁) (hz : s.heap.objs.size ≤ h₁.objs.size) (hl : h₁.IsList l items.toArray) (hn : items.length = n) :
    wpAny (model prog w) A (pyIter (.ref l)) (fun it s₂ => Src prog w A s (.Name x px) [x] n (fun i vals => ∃ v, vals = [v] ∧ items[i]? = some v) it s₂) E { s with heap := h₁, toks := tk₁ } := by
  subst hn
  refine wpAny_mono (srcList (s := s) hh hk hz hl) (fun it s₂ h => ?_) fun _ _ e => e
  have := h.src (x := x) (px := px)
  simpa using this
end
section
variable {prog : Program} {w : World} {A : Around} {E : Value → Shared → Prop} {s : Shared}
theorem rest_kept {l : Addr} {vs : List Value} {n : Nat} {t : Tok} {ns : List Int} {value slice : Expr} {Q : Value → Shared → Prop} (hl : s.heap.IsList l vs.toArray) (hi : IntsAre vs ns)
    (h : ∀ D ws h', Kept s.heap h' → s.heap.objs.size ≤ h'.objs.size → h'.IsList D (List.toArray ws) → IntsAre ws (ns.drop n) → Q (.ref D) { s with heap := h' })
    (hs : subscripted slice false (.ref l) (.ref s.heap.objs.size) = operate [.ref s.heap.objs.size, .ref l] (getItem (.ref l) (.ref s.heap.objs.size))) (ht : ∀ r, letTemporaryGo value (.ref l) r = pure ()) (hz : vs.length ≤ 1000) :
    wpAny (model prog w) A (subscriptTail value slice (.ref l) (.ref s.heap.objs.size)) Q E { s with heap := s.heap.push { cls := .type "slice", data := .fields #[.int n t, .none, .none] } } := by
  refine slice_listK (lo := some (n : Int)) (hi := none) hl (IsPart.int _ _) IsPart.none ?_ hs ht (by rw [List.size_toArray]; exact Nat.le_trans hz (by decide))
  refine h (s.heap.objs.size + 1) (slicePick vs.toArray (some (n : Int)) none none).toList _ (fun b o e => Heap.get?_push_of_some _ (Heap.get?_push_of_some _ e)) ?_ ?_ ?_
  · rw [Heap.size_push, Heap.size_push]; omega
  · rw [Array.toArray_toList]
    have e := Heap.size_push s.heap { cls := .type "slice", data := .fields #[.int (n : Int) t, .none, .none] }
    rw [← e]
    exact ⟨_, Heap.get?_push_size _ rfl, rfl, _, rfl⟩
  · have := slice_ints_fromW hi (x := (n : Int)) (by omega)
    simpa using this
end
theorem Src.weaken {prog : Program} {w : World} {A : Around} {s s₂ : Shared} {target : Expr} {names : List Str} {n : Nat} {P P' : Nat → List Value → Prop} {it : Value} (h : Src prog w A s target names n P it s₂) (hp : ∀ i vals, P i vals → P' i vals) : Src prog w A s target names n P' it s₂ := by
  obtain ⟨I, fp, wr, P0, St, h, tk, e1, e2, B, hst, hfp, hwr, hk', hz', hPP⟩ := h
  exact ⟨I, fp, wr, P0, St, h, tk, e1, e2, B, hst, hfp, hwr, hk', hz', fun i vals hv => hp _ _ (hPP i vals hv)⟩
section
variable {prog : Program} {w : World} {A : Around} {E : Value → Shared → Prop} {s : Shared} {h₁ : Heap} {tk₁ : Tok}
theorem srcInts (hh : A.handled = none) {l : Addr} {items : List Value} {ns : List Int} {n : Nat} {x : Str} {px : Pos} (hk : Kept s.heap h₁) (hz : s.heap.objs.size ≤ h₁.objs.size) (hl : h₁.IsList l items.toArray) (hi : IntsAre items ns) (hn : ns.length = n) :
    wpAny (model prog w) A (pyIter (.ref l)) (fun it s₂ => Src prog w A s (.Name x px) [x] n (fun i vals => ∃ x t, vals = [.int x t] ∧ ns[i]? = some x) it s₂) E { s with heap := h₁, toks := tk₁ } := by
  refine wpAny_mono (srcListS (s := s) hh hk hz hl (by rw [ints_len hi, hn])) (fun it s₂ h => h.weaken fun i vals => ?_) fun _ _ e => e
  rintro ⟨v, rfl, hv⟩
  obtain ⟨x, t, rfl, hx⟩ := ints_at hi hv
  exact ⟨x, t, rfl, hx⟩
theorem srcStrs (hh : A.handled = none) {l : Addr} {items : List Value} {ns : List (List Nat)} {n : Nat} {x : Str} {px : Pos} (hk : Kept s.heap h₁) (hz : s.heap.objs.size ≤ h₁.objs.size) (hl : h₁.IsList l items.toArray) (hi : StrsAt items ns) (hn : ns.length = n) :
    wpAny (model prog w) A (pyIter (.ref l)) (fun it s₂ => Src prog w A s (.Name x px) [x] n (fun i vals => ∃ x t, vals = [.str (ofL x) t] ∧ ns[i]? = some x) it s₂) E { s with heap := h₁, toks := tk₁ } := by
  refine wpAny_mono (srcListS (s := s) hh hk hz hl (by rw [hi.len, hn])) (fun it s₂ h => h.weaken fun i vals => ?_) fun _ _ e => e
  rintro ⟨v, rfl, hv⟩
  obtain ⟨x, t, rfl, hx⟩ := hi.at hv
  exact ⟨x, t, rfl, hx⟩
theorem srcRows (hh : A.handled = none) {nx : List (Addr × Obj)} {l : Addr} {items : List Value} {ns : List (List Int)} {n : Nat} {x : Str} {px : Pos} (hk : Kept s.heap h₁) (hz : s.heap.objs.size ≤ h₁.objs.size) (hl : h₁.IsList l items.toArray) (hi : RowsAt nx items ns) (hn : ns.length = n) :
    wpAny (model prog w) A (pyIter (.ref l)) (fun it s₂ => Src prog w A s (.Name x px) [x] n (fun i vals => ∃ D vs r, vals = [.ref D] ∧ LAt nx D vs ∧ IntsAre vs r ∧ ns[i]? = some r) it s₂) E { s with heap := h₁, toks := tk₁ } := by
  refine wpAny_mono (srcListS (s := s) hh hk hz hl (by rw [hi.len, hn])) (fun it s₂ h => h.weaken fun i vals => ?_) fun _ _ e => e
  rintro ⟨v, rfl, hv⟩
  obtain ⟨D, vs, r, rfl, a, b, c⟩ := hi.at hv
  exact ⟨D, vs, r, rfl, a, b, c⟩
end
/-- a comprehension's one test -/
theorem oneTest {M : Model} {A : Around} {s : Shared} {c : Expr} {cenv : Env} {Q : Bool → Shared → Prop} (h : wpAny M A (isTrue c cenv (eval c cenv)) Q (fun _ _ => False) s) :
    wpAny M A (forIn [c] true fun c r => if r = true then do let ok ← isTrue c cenv (eval c cenv); pure (ForInStep.yield ok) else pure (ForInStep.yield r)) Q (fun _ _ => False) s := by
  rw [List.forIn_cons, if_pos rfl]
  refine wpAny_bind (wpAny_bind (wpAny_mono h (fun ok s' hq => wpAny_pure ?_) fun _ _ e => e))
  dsimp only
  rw [List.forIn_nil]
  exact wpAny_pure hq
section
variable {prog : Program} {w : World} {A : Around} {E : Value → Shared → Prop} {s : Shared} {h₁ : Heap} {tk₁ : Tok}
theorem item_use {l : Addr} {vs : List Value} {value slice : Expr} {j : Nat} {u : Tok} {v : Value} {Q : Value → Shared → Prop} (hl : s.heap.IsList l vs.toArray) (hb : vs.length < 2 ^ 60) (hv : vs[j]? = some v) (h : Q v s)
    (hs : subscripted slice false (.ref l) (.int j u) = operate [.ref l, .int j u] (getItem (.ref l) (.int j u)) := by with_unfolding_all rfl) :
    wpAny (model prog w) A (subscriptTail value slice (.ref l) (.int j u)) Q E s := by
  have hj := (List.getElem?_eq_some_iff.mp hv).1
  exact tail_any hl.typeIs slot_list_getitem.lookup (wpAny_getItem_list hl (by omega) (by omega) (by simpa using hv) h) hs
theorem len_use {l : Addr} {vs : List Value} {Q : Value → Shared → Prop} (hl : s.heap.IsList l vs.toArray) (hb : vs.length ≤ 100)
    (h : Q (.int vs.length (s.toks + 1)) { s with toks := s.toks + 1 + 1 }) : wpAny (model prog w) A (call (.builtin "len") [.ref l]) Q E s :=
  Calls.call_len_list hl (by rw [List.size_toArray]; omega) (by rw [List.size_toArray]; exact h)
end
theorem ints_get {vs : List Value} {ns : List Int} (h : IntsAre vs ns) {i : Nat} (hi : i < ns.length) : ∃ x t, vs[i]? = some (.int x t) ∧ ns[i]? = some x := by
  have hl : i < vs.length := by rw [ints_len h]; exact hi
  obtain ⟨x, t, e1, e2⟩ := ints_at h (List.getElem?_eq_getElem hl)
  exact ⟨x, t, by rw [List.getElem?_eq_getElem hl, e1], e2⟩
section
variable {prog : Program} {w : World} {A : Around} {E : Value → Shared → Prop} {s : Shared}
end
section
variable {prog : Program} {w : World} {A : Around} {E : Value → Shared → Prop} {s : Shared} {h₁ : Heap} {tk₁ : Tok}
theorem srcListC (hh : A.handled = none) {l : Addr} {items : List Value} {n : Nat} (hk : Kept s.heap h₁) (hz : s.heap.objs.size ≤ h₁.objs.size) (hl : h₁.IsList l items.toArray) (hn : items.length = n) :
    wpAny (model prog w) A (pyIter (.ref l)) (fun it s₂ => SrcC prog w A s n (fun i v => items[i]? = some v) it s₂) E { s with heap := h₁, toks := tk₁ } := by
  subst hn
  have := srcList (prog := prog) (w := w) (A := A) (E := E) (s := s) (tk₁ := tk₁) hh hk hz hl
  simpa using this
end
end Mine
end
section
open PySem PySem.W PyProof.Rows PySem.Calls
set_option maxRecDepth 100000
namespace Mine
theorem cne (n i j : Nat) (h : i ≠ j) : n + i ≠ n + j := by omega
theorem StrsAt.ins {vs : List Value} {xs : List (List Nat)} (h : StrsAt vs xs) (x : List Nat) (t : Tok) : ∀ r, StrsAt (vs.take r ++ .str (ofL x) t :: vs.drop r) (xs.take r ++ x :: xs.drop r) := by
  induction h with
  | nil => intro r; simpa using StrsAt.cons x t .nil
  | cons y u h ih =>
    intro r
    cases r with
    | zero => exact .cons x t (.cons y u h)
    | succ r => exact .cons y u (ih r)
end Mine
end
section
open PySem PySem.W PyProof.Rows PySem.Calls
namespace Mine
set_option maxRecDepth 100000
set_option maxHeartbeats 8000000

theorem subst_ok (w : World) (mean : ExcName → Option Value) (mg mb : Str → Option Value) (A : Around) (s : Shared) (Q E : Value → Shared → Prop)
    (x : Nat) (ta : Tok) (y : Nat) (tb : Tok)
    (X : (hd.heap_39 w.params).In s.heap) (T : Top hd.view_39 (looseW hd.view_39 [Str.ofString "insort_right", Str.ofString "bisect_right", Str.ofString "bisect_left", Str.ofString "_twin_re_1", Str.ofString "_twin_re_2"]) mean mg mb s.heap)
    (hd0 : A.depth + 1 < recursionLimit) (hu : A.units + 20 < cLine) (hh : A.handled = none) (hx : Txt.lower (ofL [x]) = ofL [x]) (hy : Txt.lower (ofL [y]) = ofL [y])
    (hret : ∀ v t h' tk, v = (if x = y then 0 else 2) → Kept s.heap h' → Q (.int v t) { s with heap := h', toks := tk }) :
    wpAny (model PySem.Challenge.rw_pg0173_02.row.prog w) A (call (.ref 38) [.str (ofL [x]) ta, .str (ofL [y]) tb]) Q E s := by
  w_top off
  obtain ⟨hA, dp, fr, gd, un⟩ := A
  obtain rfl : hA = none := hh
  dsimp only at hd0 hu
  revert X; k_fill; intro X
  have hd1 : (Around.mk none dp fr gd un).depth < recursionLimit := by dsimp only; omega
  have hsa : (ofL [x]).length ≤ 40 := by rw [ofL_len]; simp
  have hsb : (ofL [y]).length ≤ 40 := by rw [ofL_len]; simp
  (refine' enter ?kX ?kT ?k8 ?k6 ?k7 ?k9 ?kB ?c2 ?c3 ?c4 ?c5 ?_; (case kX => assumption); (case kT => assumption); (case k6 => k_is); (case k7 => k_is); (case k8 => assumption); (case k9 => first | exact BindsTo.of_eq rfl | exact kp_binds (by assumption) (fun _ => rfl)); (case c5 => decide); (case kB => exact locs rfl); (case c2 => exact rfl); (case c3 => exact rfl); (case c4 => exact rfl))
  intro L h1 tk1 F N
  obtain ⟨m0, F0, q0⟩ : ∃ m, Fr s.heap L h1 m ∧ has [(Str.ofString "ch_a", .str (ofL [x]) ta), (Str.ofString "ch_b", .str (ofL [y]) tb)] m := ⟨_, F, has.cons rfl (has.cons rfl has.nil)⟩
  clear F
  have F1 := has.fr F0 q0
  clear F0 q0
  repeat' walk1
  all_goals (rename Fr _ _ _ _ => F2)
  · have e : x = y := by have := ‹(ofL [x] == ofL [y]) = true›; rw [ofL_beq] at this; simpa using this
    exact hret _ _ _ _ (by rw [if_pos e]) F2.keep
  · exfalso
    have h1 := ‹(Txt.lower (ofL [x]) == Txt.lower (ofL [y])) = true›
    have h2 := ‹(ofL [x] == ofL [y]) = false›
    rw [hx, hy] at h1
    rw [h1] at h2
    cases h2
  · have e : x ≠ y := by have := ‹(ofL [x] == ofL [y]) = false›; rw [ofL_beq] at this; simpa using this
    exact hret _ _ _ _ (by rw [if_neg e]) F2.keep

theorem subst_use {w : World} {mean : ExcName → Option Value} {mg mb : Str → Option Value} {A : Around} {s : Shared} {Q E : Value → Shared → Prop}
    {x : Nat} {ta : Tok} {y : Nat} {tb : Tok} {g : Heap} {L : Addr} {m : Str → Option Value} {news : List (Addr × Obj)} (F : Fr g L s.heap m) (N : News g L s.heap news)
    (X : (hd.heap_39 w.params).In g) (T : Top hd.view_39 (looseW hd.view_39 [Str.ofString "insort_right", Str.ofString "bisect_right", Str.ofString "bisect_left", Str.ofString "_twin_re_1", Str.ofString "_twin_re_2"]) mean mg mb g)
    (hh : A.handled = none) (hd0 : A.depth + 1 < recursionLimit) (hu : A.units + 20 < cLine) (hx : Txt.lower (ofL [x]) = ofL [x]) (hy : Txt.lower (ofL [y]) = ofL [y])
    (hret : ∀ t h' tk, Fr g L h' m → News g L h' news → Q (.int (if x = y then 0 else 2) t) { s with heap := h', toks := tk }) :
    wpAny (model PySem.Challenge.rw_pg0173_02.row.prog w) A (call (.ref 38) [.str (ofL [x]) ta, .str (ofL [y]) tb]) Q E s :=
  subst_ok w mean mg mb A s Q E x ta y tb (X.keeps F.keep) (T.keeps F.keep) hd0 hu hh hx hy fun v t h' tk hv hk => by
    subst hv
    exact hret t h' tk (Fr.after F hk) (News.keepsAll N hk)
end Mine
end
section
open PySem PySem.W PyProof.Rows PySem.Calls
namespace Mine
set_option maxRecDepth 100000
set_option maxHeartbeats 8000000

abbrev levM (la lb : List Nat) (ta tb : Tok) (c : Int) (tc : Tok) : List (Str × Value) := [(Str.ofString "a", .str (ofL la) ta), (Str.ofString "b", .str (ofL lb) tb), (Str.ofString "max_cost", .int c tc)]
local macro_rules | `(tactic| walk_at "call type:list") => `(tactic| (refine my_list_range rfl (by assumption) (by assumption) (by assumption) (by simp only [ofL_len]; exact (evens_small _ (by omega)).1) (by simp only [ofL_len]; exact (evens_small _ (by omega)).2) (by omega) ?_; intro _ _ _ _ _ _ _ _; (try dsimp only)))

local macro_rules | `(tactic| walk_at "subscriptTail Name Name str int") => `(tactic| (refine my_item (by assumption) (by assumption) ?_; (try dsimp only)))
local macro_rules | `(tactic| walk_at "subscriptTail Name Name ref int") => `(tactic| (refine my_getrow' (by assumption) (by assumption) (by assumption) (by assumption) (by assumption) (by assumption) ?_; intro _; (try dsimp only)))
local macro_rules | `(tactic| walk_at "call ref") => `(tactic| (refine subst_use (by assumption) (by assumption) (by assumption) (by assumption) rfl (by dsimp only [Around.deeper]; omega) (by dsimp only [Around.deeper]; omega) (by assumption) (by assumption) ?_; intro _ _ _ _ _; (try dsimp only)))

local macro_rules | `(tactic| walk_at "setItem ref int") => `(tactic| (refine ksa_set (by assumption) (by assumption) (Upd.head (by assumption)) (by assumption) (by omega) (by omega) (by omega) ?_; intro _ _ _ _ _ _; (try dsimp only)))

local macro_rules | `(tactic| walk_at "subscriptTail Name Slice str ref") => `(tactic| ((with_reducible show wpAny _ _ (subscriptTail _ (Expr.Slice none (some (Expr.BoolOp _ _ _)) none _) _ _) _ _ _); first
  | (refine my_slice_nn (s := ⟨_, _, _, _, _⟩) (by assumption) (by assumption) (by assumption) ?_; intro _ _ _ _ _; (try dsimp only))
  | (refine my_slice_to (s := ⟨_, _, _, _, _⟩) (by assumption) (by assumption) (by assumption) (by omega) (by omega) ?_; intro _ _ _ _ _ _; (try dsimp only))))
local macro_rules | `(tactic| walk_at "subscriptTail Name BinOp str int") => `(tactic| (refine item_str (fitsSsize_of (N := 9223372036854775808) (by omega) (by omega) (Int.le_refl _)) (by simp only [ofL_len] at *; omega) (by simp only [ofL_len] at *; omega) ?_; intro _; (try dsimp only)))

theorem lev_ok (w : World) (mean : ExcName → Option Value) (mg mb : Str → Option Value) (A : Around) (s : Shared) (Q E : Value → Shared → Prop)
    (la : List Nat) (ta : Tok) (lb : List Nat) (tb : Tok) (c : Int) (tc : Tok) 
    (X : (hd.heap_39 w.params).In s.heap) (T : Top hd.view_39 (looseW hd.view_39 [Str.ofString "insort_right", Str.ofString "bisect_right", Str.ofString "bisect_left", Str.ofString "_twin_re_1", Str.ofString "_twin_re_2"]) mean mg mb s.heap)
    (hd0 : A.depth + 5 < recursionLimit) (hu : A.units + 30 < cLine) (hh : A.handled = none) (hlow : ∀ x, x ∈ la ∨ x ∈ lb → Txt.lower (ofL [x]) = ofL [x]) (hla : la.length ≤ 40) (hlb : lb.length ≤ 40)
    (hret : ∀ v t h' tk, v = levF la lb c → Kept s.heap h' → Q (.int v t) { s with heap := h', toks := tk }) :
    wpAny (model PySem.Challenge.rw_pg0173_02.row.prog w) A (call (.ref 45) [.str (ofL la) ta, .str (ofL lb) tb, .int c tc]) Q E s := by
  w_top off
  obtain ⟨hA, dp, fr, gd, un⟩ := A
  obtain rfl : hA = none := hh
  dsimp only at hd0 hu
  revert X; k_fill; intro X
  have hd1 : (Around.mk none dp fr gd un).depth < recursionLimit := by dsimp only; omega
  have hsa : (ofL la).length ≤ 40 := by rw [ofL_len]; exact hla
  have hsb : (ofL lb).length ≤ 40 := by rw [ofL_len]; exact hlb
  (refine' enter ?kX ?kT ?k8 ?k6 ?k7 ?k9 ?kB ?c2 ?c3 ?c4 ?c5 ?_; (case kX => assumption); (case kT => assumption); (case k6 => k_is); (case k7 => k_is); (case k8 => assumption); (case k9 => first | exact BindsTo.of_eq rfl | exact kp_binds (by assumption) (fun _ => rfl)); (case c5 => decide); (case kB => exact locs rfl); (case c2 => exact rfl); (case c3 => exact rfl); (case c4 => exact rfl))
  intro L h1 tk1 F N
  obtain ⟨m0, F0, q0⟩ : ∃ m, Fr s.heap L h1 m ∧ has (levM la lb ta tb c tc) m := ⟨_, F, has.cons rfl (has.cons rfl (has.cons rfl has.nil))⟩
  clear F
  have F1 := has.fr F0 q0
  clear F0 q0
  refine seq1 (g := s.heap) (s := s) (L := L) (news := []) (fun m _ => has (levM la lb ta tb c tc) m ∧ la ≠ lb) ?_ ?_
  · repeat' walk1
    · have e : la = lb := by have := ‹(ofL la == ofL lb) = true›; rw [ofL_beq] at this; simpa using this
      exact Cut.back (hret _ _ _ _ (by unfold levF; rw [if_pos e]) F1.keep)
    · exact Cut.go F1 N ⟨has.cons rfl (has.cons rfl (has.cons rfl has.nil)), fun e => by subst e; simp at *⟩
  clear F1 N
  intro h2 tk2 m2 F2 N2 ⟨q2, hne⟩
  have hv1 : levF la lb c = levPost (la.drop (cpl la lb)) (lb.drop (cpl la lb)) c := by unfold levF; rw [if_neg hne]
  have hlow1 : ∀ x, x ∈ la.drop (cpl la lb) ∨ x ∈ lb.drop (cpl la lb) → Txt.lower (ofL [x]) = ofL [x] := fun x h => hlow x (h.imp List.mem_of_mem_drop List.mem_of_mem_drop)
  have F3 := has.fr F2 q2
  clear F2 q2
  refine seq1 (g := s.heap) (s := s) (L := L) (news := []) (fun m _ => has (levM la lb ta tb c tc) m ∧ ∃ t, m "pre" = some (.int 0 t)) ?_ ?_
  · repeat' walk1
    rename Fr _ _ _ _ => F4
    rename News _ _ _ _ => N4
    exact Cut.go F4 N4 ⟨has.cons rfl (has.cons rfl (has.cons rfl has.nil)), _, rfl⟩
  clear F3 N2
  intro h3 tk3 m3 F4 N4 ⟨q3, t3, e3⟩
  refine seq1 (g := s.heap) (s := s) (L := L) (news := []) (fun m _ => has (levM la lb ta tb c tc) m ∧ ∃ t, m "pre" = some (.int (cpl la lb) t)) ?_ ?_
  · refine one (whileR (fun n m => has (levM la lb ta tb c tc) m ∧ ∃ k t, m "pre" = some (.int k t) ∧ 0 ≤ k ∧ k ≤ la.length ∧ k ≤ lb.length ∧
       k + cpl (la.drop k.toNat) (lb.drop k.toNat) = (cpl la lb : Int) ∧ n = la.length - k.toNat) F4 N4 ⟨q3, 0, _, e3, by omega, by omega, by omega, by simp, rfl⟩ ?_)
    clear F4 N4 q3 e3
    rintro n m h tk F5 N5 ⟨hm, k, t, hk, h0, hka, hkb, hc, rfl⟩
    have F6 := has.fr F5 (has.cons hk hm)
    clear F5
    repeat' walk1
    all_goals (rename Fr _ _ _ _ => F7; rename News _ _ _ _ => N7)
    · obtain ⟨p1, p2, p3⟩ := pre_go h0 hka hkb hc (by assumption) (by assumption) (by assumption)
      exact Cut.go F7 N7 ⟨la.length - (k + 1).toNat, by omega, has.cons rfl (has.cons rfl (has.cons rfl has.nil)), k + 1, _, rfl, by omega, p1, p2, p3, rfl⟩
    · have e := pre_stop_c h0 hka hkb hc (by assumption) (by assumption) (by assumption)
      subst e
      exact Aft.mk F7 N7 ⟨has.cons rfl (has.cons rfl (has.cons rfl has.nil)), _, rfl⟩
    · have e := pre_stop_b h0 hkb hc (by assumption)
      subst e
      exact Aft.mk F7 N7 ⟨has.cons rfl (has.cons rfl (has.cons rfl has.nil)), _, rfl⟩
    · have e := pre_stop_a h0 hka hc (by assumption)
      subst e
      exact Aft.mk F7 N7 ⟨has.cons rfl (has.cons rfl (has.cons rfl has.nil)), _, rfl⟩
  clear F4 N4 q3 e3
  intro h4 tk4 m4 F4 N4 ⟨q4, t4, e4⟩
  have F5 := has.fr F4 (has.cons e4 q4)
  clear F4 q4 e4
  have hN1 := cpl_le_l la lb
  have hN2 := cpl_le_r la lb
  refine seq3 (g := s.heap) (s := s) (L := L) (news := []) (fun m _ => ∃ ta tb, has (levM (la.drop (cpl la lb)) (lb.drop (cpl la lb)) ta tb c tc) m ∧ ∃ t, m "post" = some (.int 0 t)) ?_ ?_
  · repeat' walk1
    rename Fr _ _ _ _ => F7; rename News _ _ _ _ => N7
    have ea := slice_from la (k := (cpl la lb : Int)) (by omega) (by omega)
    have eb := slice_from lb (k := (cpl la lb : Int)) (by omega) (by omega)
    exact Cut.go F7 N7 ⟨_, _, has.cons (congrArg (fun x => some (Value.str x _)) ea) (has.cons (congrArg (fun x => some (Value.str x _)) eb) (has.cons rfl has.nil)), _, rfl⟩
  clear F5 N4
  intro h5 tk5 m5 F6 N6 ⟨ta5, tb5, q5, t5, e5⟩
  have hl1 : (la.drop (cpl la lb)).length ≤ 40 := by rw [List.length_drop]; omega
  have hl2 : (lb.drop (cpl la lb)).length ≤ 40 := by rw [List.length_drop]; omega
  clear hlow
  generalize la.drop (cpl la lb) = xa at *
  generalize lb.drop (cpl la lb) = xb at *
  have hs1 : (ofL xa).length ≤ 40 := by rw [ofL_len]; exact hl1
  have hs2 : (ofL xb).length ≤ 40 := by rw [ofL_len]; exact hl2
  refine seq1 (g := s.heap) (s := s) (L := L) (news := []) (fun m _ => has (levM xa xb ta5 tb5 c tc) m ∧ ∃ t, m "post" = some (.int (-(cpl xa.reverse xb.reverse : Int)) t)) ?_ ?_
  · refine one (whileR (fun n m => has (levM xa xb ta5 tb5 c tc) m ∧ ∃ k t, m "post" = some (.int k t) ∧ k ≤ 0 ∧ -(xa.length : Int) ≤ k ∧ -(xb.length : Int) ≤ k ∧
       -k + cpl (xa.reverse.drop (-k).toNat) (xb.reverse.drop (-k).toNat) = (cpl xa.reverse xb.reverse : Int) ∧ n = xa.length - (-k).toNat) F6 N6 ⟨q5, 0, _, e5, by omega, by omega, by omega, by simp, rfl⟩ ?_)
    clear F6 N6 q5 e5
    rintro n m h tk F5 N5 ⟨hm, k, t, hk, h0, hka, hkb, hc, rfl⟩
    have F6 := has.fr F5 (has.cons hk hm)
    clear F5
    by_cases hk0 : k = 0
    · subst hk0
      repeat' walk1
      all_goals (rename Fr _ _ _ _ => F7; rename News _ _ _ _ => N7)
      · have r1 : -(xa.length : Int) < 0 := by simp only [ofL_len] at *; omega
        have r2 : -(xb.length : Int) < 0 := by simp only [ofL_len] at *; omega
        exact Cut.go F7 N7 ⟨xa.length - (-((0 : Int) - 1)).toNat, by omega, has.cons rfl (has.cons rfl (has.cons rfl has.nil)), 0 - 1, _, rfl, by omega, by omega, by omega, post_go (by omega) r1 r2 hc (by assumption), rfl⟩
      · have r1 : -(xa.length : Int) < 0 := by simp only [ofL_len] at *; omega
        have r2 : -(xb.length : Int) < 0 := by simp only [ofL_len] at *; omega
        have e := post_stop_c (by omega) r1 r2 hc (by assumption)
        exact Aft.mk F7 N7 ⟨has.cons rfl (has.cons rfl (has.cons rfl has.nil)), t, congrArg (fun x => some (Value.int x t)) e⟩
      · have e := post_stop_b (by omega) (by simp only [ofL_len] at *; omega) hc
        exact Aft.mk F7 N7 ⟨has.cons rfl (has.cons rfl (has.cons rfl has.nil)), t, congrArg (fun x => some (Value.int x t)) e⟩
      · have e := post_stop_a (by omega) (by simp only [ofL_len] at *; omega) hc
        exact Aft.mk F7 N7 ⟨has.cons rfl (has.cons rfl (has.cons rfl has.nil)), t, congrArg (fun x => some (Value.int x t)) e⟩
    · have hk1 : k < 0 := by omega
      have hkn : (k != 0) = true := by simpa using hk0
      repeat' walk1
      all_goals (rename Fr _ _ _ _ => F7; rename News _ _ _ _ => N7)
      · have r1 : -(xa.length : Int) < k := by omega
        have r2 : -(xb.length : Int) < k := by omega
        exact Cut.go F7 N7 ⟨xa.length - (-(k - 1)).toNat, by omega, has.cons rfl (has.cons rfl (has.cons rfl has.nil)), k - 1, _, rfl, by omega, by omega, by omega, post_go (by omega) r1 r2 hc (by assumption), rfl⟩
      · have r1 : -(xa.length : Int) < k := by omega
        have r2 : -(xb.length : Int) < k := by omega
        have e := post_stop_c (by omega) r1 r2 hc (by assumption)
        exact Aft.mk F7 N7 ⟨has.cons rfl (has.cons rfl (has.cons rfl has.nil)), t, congrArg (fun x => some (Value.int x t)) e⟩
      · have e := post_stop_b (by omega) (by omega) hc
        exact Aft.mk F7 N7 ⟨has.cons rfl (has.cons rfl (has.cons rfl has.nil)), t, congrArg (fun x => some (Value.int x t)) e⟩
      · have e := post_stop_a (by omega) (by omega) hc
        exact Aft.mk F7 N7 ⟨has.cons rfl (has.cons rfl (has.cons rfl has.nil)), t, congrArg (fun x => some (Value.int x t)) e⟩
  clear F6 N6 q5 e5
  intro h6 tk6 m6 F6 N6 ⟨q6, t6, e6⟩
  have F7 := has.fr F6 (has.cons e6 q6)
  clear F6 q6 e6
  have hP1 : cpl xa.reverse xb.reverse ≤ xa.length := by have := cpl_le_l xa.reverse xb.reverse; rwa [List.length_reverse] at this
  have hP2 : cpl xa.reverse xb.reverse ≤ xb.length := by have := cpl_le_r xa.reverse xb.reverse; rwa [List.length_reverse] at this
  refine seq2 (g := s.heap) (s := s) (L := L) (news := []) (fun m _ => ∃ ta tb, has (levM (xa.take (xa.length - cpl xa.reverse xb.reverse)) (xb.take (xb.length - cpl xa.reverse xb.reverse)) ta tb c tc) m) ?_ ?_
  · generalize cpl xa.reverse xb.reverse = M at *
    by_cases hM : M = 0
    · subst hM
      repeat' walk1
      rename Fr _ _ _ _ => F8; rename News _ _ _ _ => N8
      have ea : xa.take (xa.length - 0) = xa := by rw [Nat.sub_zero, List.take_length]
      have eb : xb.take (xb.length - 0) = xb := by rw [Nat.sub_zero, List.take_length]
      rw [ea, eb]
      exact Cut.go F8 N8 ⟨_, _, has.cons rfl (has.cons rfl (has.cons rfl has.nil))⟩
    · have hk1 : -(M : Int) < 0 := by omega
      have hkn : ((-(M : Int)) != 0) = true := by simpa using hM
      repeat' walk1
      rename Fr _ _ _ _ => F8; rename News _ _ _ _ => N8
      have ea : (ofL (xa.take ((xa.length : Int) + -(M : Int)).toNat)) = ofL (xa.take (xa.length - M)) := by congr 2; omega
      have eb : (ofL (xb.take ((xb.length : Int) + -(M : Int)).toNat)) = ofL (xb.take (xb.length - M)) := by congr 2; omega
      exact Cut.go F8 N8 ⟨_, _, has.cons (congrArg (fun x => some (Value.str x _)) ea) (has.cons (congrArg (fun x => some (Value.str x _)) eb) (has.cons rfl has.nil))⟩
  clear F7 N6
  intro h8 tk8 m8 F8 N8 ⟨ta8, tb8, q8⟩
  have hv2 : levF la lb c = levCore (xa.take (xa.length - cpl xa.reverse xb.reverse)) (xb.take (xb.length - cpl xa.reverse xb.reverse)) c := hv1
  have hlow2 : ∀ x, x ∈ xa.take (xa.length - cpl xa.reverse xb.reverse) ∨ x ∈ xb.take (xb.length - cpl xa.reverse xb.reverse) → Txt.lower (ofL [x]) = ofL [x] := fun x h => hlow1 x (h.imp List.mem_of_mem_take List.mem_of_mem_take)
  clear hv1 hlow1
  have hl3 : (xa.take (xa.length - cpl xa.reverse xb.reverse)).length ≤ 40 := by rw [List.length_take]; omega
  have hl4 : (xb.take (xb.length - cpl xa.reverse xb.reverse)).length ≤ 40 := by rw [List.length_take]; omega
  generalize xa.take (xa.length - cpl xa.reverse xb.reverse) = ya at *
  generalize xb.take (xb.length - cpl xa.reverse xb.reverse) = yb at *
  have hs3 : (ofL ya).length ≤ 40 := by rw [ofL_len]; exact hl3
  have hs4 : (ofL yb).length ≤ 40 := by rw [ofL_len]; exact hl4
  have F9 := has.fr F8 q8
  clear F8 q8
  refine seq1 (g := s.heap) (s := s) (L := L) (news := []) (fun m _ => has (levM ya yb ta8 tb8 c tc) m ∧ ya ≠ [] ∧ yb ≠ []) ?_ ?_
  · repeat' walk1
    · rename Fr _ _ _ _ => F10; rename News _ _ _ _ => N10
      exact Cut.go F10 N10 ⟨has.cons rfl (has.cons rfl (has.cons rfl has.nil)), by rintro rfl; simp [ofL_len] at *, by rintro rfl; simp [ofL_len] at *⟩
    · rename Fr _ _ _ _ => F10
      have e : yb = [] := by have := ‹((ofL yb).length : Int) = 0›; rw [ofL_len] at this; exact List.eq_nil_of_length_eq_zero (by omega)
      refine Cut.back (hret _ _ _ _ ?_ F10.keep)
      rw [hv2, ofL_len, ofL_len]
      unfold levCore
      rw [if_pos (.inr e)]
    · rename Fr _ _ _ _ => F10
      have e : ya = [] := by have := ‹((ofL ya).length : Int) = 0›; rw [ofL_len] at this; exact List.eq_nil_of_length_eq_zero (by omega)
      refine Cut.back (hret _ _ _ _ ?_ F10.keep)
      rw [hv2, ofL_len, ofL_len]
      unfold levCore
      rw [if_pos (.inl e)]
  clear F9 N8
  intro h9 tk9 m9 F9 N9 ⟨q9, hn1, hn2⟩
  have F10 := has.fr F9 q9
  clear F9 q9
  refine seq2 (g := s.heap) (s := s) (L := L) (news := []) (fun m _ => ∃ ta tb, has (levM (if yb.length < ya.length then yb else ya) (if yb.length < ya.length then ya else yb) ta tb c tc) m) ?_ ?_
  · repeat' walk1
    · rename Fr _ _ _ _ => F11; rename News _ _ _ _ => N11
      have hlt : yb.length < ya.length := by simp only [ofL_len] at *; omega
      rw [if_pos hlt, if_pos hlt]
      exact Cut.go F11 (fun p hp => nomatch hp) ⟨_, _, has.cons rfl (has.cons rfl (has.cons rfl has.nil))⟩
    · rename Fr _ _ _ _ => F11; rename News _ _ _ _ => N11
      have hlt : ¬ yb.length < ya.length := by simp only [ofL_len] at *; omega
      rw [if_neg hlt, if_neg hlt]
      exact Cut.go F11 N11 ⟨_, _, has.cons rfl (has.cons rfl (has.cons rfl has.nil))⟩
  clear F10 N9
  intro h11 tk11 m11 F11 N11 ⟨ta11, tb11, q11⟩
  have hv3 : levF la lb c = if (((if yb.length < ya.length then ya else yb).length : Int) - (if yb.length < ya.length then yb else ya).length) * 2 > c then c + 1 else stepOut (if yb.length < ya.length then yb else ya) c (if yb.length < ya.length then ya else yb) 0 (rangeInts 2 2 (if yb.length < ya.length then yb else ya).length) 0 := by
    rw [hv2]
    unfold levCore
    rw [if_neg (not_or.mpr ⟨hn1, hn2⟩)]
  have hlow5 : ∀ x, x ∈ (if yb.length < ya.length then yb else ya) ∨ x ∈ (if yb.length < ya.length then ya else yb) → Txt.lower (ofL [x]) = ofL [x] := fun x h => by
    split at h
    · exact hlow2 x (h.elim .inr .inl)
    · exact hlow2 x h
  clear hv2 hlow2
  have hl5 : (if yb.length < ya.length then yb else ya).length ≤ (if yb.length < ya.length then ya else yb).length := by split <;> omega
  have hl6 : (if yb.length < ya.length then ya else yb).length ≤ 40 := by split <;> omega
  generalize (if yb.length < ya.length then yb else ya) = za at *
  generalize (if yb.length < ya.length then ya else yb) = zb at *
  have hs5 : (ofL za).length ≤ 40 := by rw [ofL_len]; omega
  have hs6 : (ofL zb).length ≤ 40 := by rw [ofL_len]; exact hl6
  have F12 := has.fr F11 q11
  clear F11 q11
  refine seq1 (g := s.heap) (s := s) (L := L) (news := []) (fun m _ => has (levM za zb ta11 tb11 c tc) m ∧ ¬ ((zb.length : Int) - za.length) * 2 > c) ?_ ?_
  · repeat' walk1
    all_goals (rename Fr _ _ _ _ => F13; rename News _ _ _ _ => N13)
    · have hc := ‹c < (((ofL zb).length : Int) - (ofL za).length) * 2›
      rw [ofL_len, ofL_len] at hc
      exact Cut.back (hret _ _ _ _ (by rw [hv3, if_pos hc]) F13.keep)
    · have hc := ‹¬ c < (((ofL zb).length : Int) - (ofL za).length) * 2›
      rw [ofL_len, ofL_len] at hc
      exact Cut.go F13 N13 ⟨has.cons rfl (has.cons rfl (has.cons rfl has.nil)), hc⟩
  clear F12 N11
  intro h9 tk9 m9 F9 N9 ⟨q9, hbd⟩
  have hv5 : levF la lb c = stepOut za c zb 0 (rangeInts 2 2 za.length) 0 := by rw [hv3, if_neg hbd]
  clear hv3
  have F14 := has.fr F9 q9
  clear F9 q9
  refine seqN2 (g := s.heap) (s := s) (L := L) (fun m nx => ∃ D vs k, nx = [(D, W.listOf vs.toArray k)] ∧ IntsAre vs (rangeInts 2 2 za.length) ∧ has (levM za zb ta11 tb11 c tc) m ∧ m "row" = some (.ref D) ∧ ∃ t, m "result" = some (.int 0 t)) ?_ ?_
  · repeat' walk1
    rename Fr _ _ _ _ => F15; rename News _ _ _ _ => N15
    exact CutN.go F15 N15 ⟨_, _, _, rfl, by assumption, has.cons rfl (has.cons rfl (has.cons rfl has.nil)), rfl, _, rfl⟩
  clear F14 N9
  rintro h14 tk14 m14 _ F14 N14 ⟨D, vs14, k14, rfl, i14, q14, e14, t14, r14⟩
  refine seqN1 (g := s.heap) (s := s) (L := L) (fun m nx => ∃ t, m "result" = some (.int (stepOut za c zb 0 (rangeInts 2 2 za.length) 0) t)) ?_ ?_
  · refine one (forR rfl (news := [(D, W.listOf vs14.toArray k14)]) rfl (ofL zb).length (fun i m nx => ∃ vs k row res t, nx = [(D, W.listOf vs.toArray k)] ∧ IntsAre vs row ∧ row.length = za.length ∧ has (levM za zb ta11 tb11 c tc) m ∧ m "row" = some (.ref D) ∧ m "result" = some (.int res t) ∧
      stepOut za c (zb.drop i) i row res = stepOut za c zb 0 (rangeInts 2 2 za.length) 0) rfl rfl ?_ (by omega) ?_ ?_)
    · have F15 := has.fr F14 q14
      repeat' walk1
      rename Fr _ _ _ _ => F16; rename News _ _ _ _ => N16
      exact RangeAt.mk (by assumption) F16 N16 ⟨vs14, k14, _, 0, t14, rfl, i14, rangeInts_length _ _ _, has.cons rfl (has.cons rfl (has.cons rfl has.nil)), e14, r14, rfl⟩
    · clear F14 N14
      rintro i ti m15 _ h15 tk15 own hi - hoff ⟨vs15, k15, row, res, t15, rfl, i15, hrow, q15, e15, r15, hinv⟩ F15 N15
      have q16 := forBind (x := "bindex") (v := .int i ti) rfl (has.cons e15 (has.cons r15 q15))
      have F16 := has.fr F15 q16
      clear F15
      have hi2 : i < zb.length := by rwa [ofL_len] at hi
      refine seq3 (g := s.heap) (s := s) (L := L) (news := [(D, W.listOf vs15.toArray k15)] ++ own) (fun m _ => has ((Str.ofString "bindex", .int i ti) :: (Str.ofString "row", .ref D) :: levM za zb ta11 tb11 c tc) m ∧
          ∃ t1 t2 t3 t4, has [(Str.ofString "bchar", .str (ofL [zb.getD i 0]) t1), (Str.ofString "distance", .int ((i : Int) * 2) t2), (Str.ofString "result", .int ((i : Int) * 2) t3), (Str.ofString "minimum", .int 9223372036854775807 t4)] m) ?_ ?_
      · repeat' walk1
        rename Fr _ _ _ _ => F17; rename News _ _ _ _ => N17
        exact Cut.go F17 N17 ⟨has.cons rfl (has.cons rfl (has.cons rfl (has.cons rfl (has.cons rfl has.nil)))), _, _, _, _, has.cons rfl (has.cons rfl (has.cons rfl (has.cons rfl has.nil)))⟩
      clear F16 N15
      intro h17 tk17 m17 F17 N17 ⟨q17, t1, t2, t3, t4, q18⟩
      generalize hT : stepIn (zb.getD i 0) za row ((i : Int) * 2) ((i : Int) * 2) 9223372036854775807 = T9 at *
      refine seqN1 (g := s.heap) (s := s) (L := L) (fun m nx => ∃ vs k, nx = [(D, W.listOf vs.toArray k)] ++ own ∧ IntsAre vs T9.1 ∧ T9.1.length = za.length ∧ has ((Str.ofString "bindex", .int i ti) :: (Str.ofString "row", .ref D) :: levM za zb ta11 tb11 c tc) m ∧
          ∃ t3 t4, has [(Str.ofString "result", .int T9.2.1 t3), (Str.ofString "minimum", .int T9.2.2 t4)] m) ?_ ?_
      · have hbc : Txt.lower (ofL [zb.getD i 0]) = ofL [zb.getD i 0] := hlow5 _ (.inr (by rw [List.getD_eq_getElem?_getD, List.getElem?_eq_getElem hi2]; exact List.getElem_mem hi2))
        generalize zb.getD i 0 = bc at *
        refine one (forR rfl (news := [(D, W.listOf vs15.toArray k15)] ++ own) rfl (ofL za).length (fun j m nx => ∃ vs k p rest dist res mn t1 t2 t3 t4, nx = [(D, W.listOf vs.toArray k)] ++ own ∧ IntsAre vs (p ++ rest) ∧ p.length = j ∧ p.length + rest.length = za.length ∧
          has ((Str.ofString "bindex", .int i ti) :: (Str.ofString "row", .ref D) :: levM za zb ta11 tb11 c tc) m ∧
          has [(Str.ofString "bchar", .str (ofL [bc]) t1), (Str.ofString "distance", .int dist t2), (Str.ofString "result", .int res t3), (Str.ofString "minimum", .int mn t4)] m ∧
          p ++ (stepIn bc (za.drop j) rest dist res mn).1 = T9.1 ∧ (stepIn bc (za.drop j) rest dist res mn).2 = T9.2) rfl rfl ?_ (by omega) ?_ ?_)
        · have F18 := has.fr F17 (has.append q17 q18)
          clear F17
          repeat' walk1
          rename Fr _ _ _ _ => F19; rename News _ _ _ _ => N19
          exact RangeAt.mk (by assumption) F19 N19 ⟨vs15, k15, [], row, _, _, _, t1, t2, t3, t4, rfl, i15, rfl, by simpa using hrow, has.cons rfl (has.cons rfl (has.cons rfl (has.cons rfl (has.cons rfl has.nil)))), has.cons rfl (has.cons rfl (has.cons rfl (has.cons rfl has.nil))), by rw [← hT]; rfl, by rw [← hT]; rfl⟩
        · clear F17 N17 q17 q18 i15 hT
          rintro j tj m18 _ h18 tk18 own2 hj - hoff2 ⟨vs18, k18, p, rest, dist, res2, mn, s1, s2, s3, s4, rfl, i18, hp, hpr, q18, q19, v1, v2⟩ F18 N18
          have hj2 : j < za.length := by rwa [ofL_len] at hj
          have F19 := has.fr F18 (forBind (x := "index") (v := .int j tj) rfl (has.append q18 q19))
          clear F18 q18 q19
          have hlj : Txt.lower (ofL [za.getD j 0]) = ofL [za.getD j 0] := hlow5 _ (.inl (by rw [List.getD_eq_getElem?_getD, List.getElem?_eq_getElem hj2]; exact List.getElem_mem hj2))
          have hza : za.length ≤ 40 := by omega
          have hpl : (p ++ rest).length ≤ 40 := by rw [List.length_append]; omega
          have hpj : j < (p ++ rest).length := by rw [List.length_append]; omega
          cases rest with
          | nil => exfalso; rw [List.length_nil] at hpr; omega
          | cons r rest =>
          have hoffD : ∀ q ∈ own ++ own2, q.1 ≠ D := fun q hq => by
            rcases List.mem_append.mp hq with hq | hq
            · exact hoff q hq D (.head _)
            · exact hoff2 q hq D (.head _)
          have N19 : News s.heap L h18 ((D, W.listOf vs18.toArray k18) :: (own ++ own2)) := N18
          clear N18
          have hmD : (D, W.listOf vs18.toArray k18) ∈ ((D, W.listOf vs18.toArray k18) :: (own ++ own2)) := .head _
          have hgr : (p ++ r :: rest).getD j 0 = r := getD_mid hp
          obtain ⟨Xv, hX⟩ : ∃ Xv, Xv = if (dist + if bc = za.getD j 0 then 0 else 2) < (if r < res2 then r else res2) + 2 then (dist + if bc = za.getD j 0 then 0 else 2) else (if r < res2 then r else res2) + 2 := ⟨_, rfl⟩
          obtain ⟨w1, w2⟩ := stepIn_end hj2 v1 v2 hX
          repeat' walk1
          all_goals (rename Fr _ _ _ _ => F20; rename News _ _ _ _ => N20; rename IntsAre _ _ => i20)
          · have hc := ‹(if _ then _ else _ : Int) < mn›
            simp only [← hX] at hc i20 F20 N20
            rw [if_pos hc] at w1 w2
            refine Turn.go (nx := (D, W.listOf _ k18) :: own) F20 N20 rfl ⟨_, k18, p ++ [Xv], rest, r, Xv, Xv, _, _, _, _, rfl, set_mid hp ▸ i20, ?_, ?_, has.cons rfl (has.cons rfl (has.cons rfl (has.cons rfl (has.cons rfl has.nil)))), has.cons rfl (has.cons rfl (has.cons rfl (has.cons rfl has.nil))), w1, w2⟩
            · rw [List.length_append]; simpa using hp
            · rw [List.length_append]; simp only [List.length_cons, List.length_nil] at *; omega
          · have hc := ‹¬ (if _ then _ else _ : Int) < mn›
            simp only [← hX] at hc i20 F20 N20
            rw [if_neg hc] at w1 w2
            refine Turn.go (nx := (D, W.listOf _ k18) :: own) F20 N20 rfl ⟨_, k18, p ++ [Xv], rest, r, Xv, mn, _, _, _, _, rfl, set_mid hp ▸ i20, ?_, ?_, has.cons rfl (has.cons rfl (has.cons rfl (has.cons rfl (has.cons rfl has.nil)))), has.cons rfl (has.cons rfl (has.cons rfl (has.cons rfl has.nil))), w1, w2⟩
            · rw [List.length_append]; simpa using hp
            · rw [List.length_append]; simp only [List.length_cons, List.length_nil] at *; omega
        · rintro m nx ⟨vs, k, p, rest, dist, res, mn, s1, s2, s3, s4, rfl, ii, hp, hpr, q17, q18, v1, v2⟩
          rw [ofL_len] at hp
          have hr0 : rest = [] := List.eq_nil_of_length_eq_zero (by omega)
          subst hr0
          rw [ofL_len, List.drop_length] at v1 v2
          simp only [stepIn, List.append_nil] at v1 v2 ii
          subst v1
          rw [← v2]
          exact ⟨vs, k, rfl, ii, by simpa using hpr, q17, s3, s4, has.cons (q18 _ (.tail _ (.tail _ (.head _)))) (has.cons (q18 _ (.tail _ (.tail _ (.tail _ (.head _))))) has.nil)⟩
      clear F17 N17 q17 q18
      rintro h18 tk18 m18 _ F18 N18 ⟨vs18, k18, rfl, i18, l18, q18, t3, t4, q19⟩
      have F19 := has.fr F18 (has.append q18 q19)
      have hst := stepOut_at (za := za) (c := c) (row := row) (res := res) hi2
      rw [hT, hinv] at hst
      repeat' walk1
      all_goals (rename Fr _ _ _ _ => F20; rename News _ _ _ _ => N20)
      · have hc := ‹c < T9.2.2›
        rw [if_pos hc] at hst
        exact Turn.back (hret _ _ _ _ (by rw [hv5, hst]) F20.keep)
      · have hc := ‹¬ c < T9.2.2›
        rw [if_neg hc] at hst
        exact Turn.go (nx := [(D, W.listOf vs18.toArray k18)]) F20 N20 rfl ⟨vs18, k18, T9.1, T9.2.1, t3, rfl, i18, l18, has.cons rfl (has.cons rfl (has.cons rfl has.nil)), rfl, rfl, hst.symm⟩
    · rintro m nx ⟨vs, k, row, res, t, rfl, ii, hrow, q17, e17, r17, hinv⟩
      rw [ofL_len, List.drop_length] at hinv
      simp only [stepOut] at hinv
      exact ⟨t, by rw [← hinv]; exact r17⟩
  clear F14 N14
  rintro h20 tk20 m20 nx20 F20 N20 ⟨t20, r20⟩
  have F21 := has.fr F20 (has.cons r20 has.nil)
  repeat' walk1
  rename Fr _ _ _ _ => F22
  exact hret _ _ _ _ hv5.symm F22.keep
end Mine
end
section
open PySem PySem.W PyProof.Rows PySem.Calls
namespace Mine
set_option maxRecDepth 100000
set_option maxHeartbeats 8000000

abbrev bisM (l : Addr) (x : Value) : List (Str × Value) := [(Str.ofString "a", .ref l), (Str.ofString "x", x), (Str.ofString "key", .none)]

local macro_rules | `(tactic| walk_at "no key 0") => `(tactic| skip)
local macro_rules | `(tactic| walk_at "no key 1") => `(tactic| skip)
local macro_rules | `(tactic| walk_at "no key 2") => `(tactic| skip)
local macro_rules | `(tactic| walk_at "no key 3") => `(tactic| skip)
local macro_rules | `(tactic| walk_at "no key 4") => `(tactic| skip)
local macro_rules | `(tactic| walk_at "call builtin:len") => `(tactic| (refine my_len (by assumption) (by assumption) (by assumption) ?_; (try dsimp only)))

local macro_rules | `(tactic| walk_at "subscriptTail Name Name ref int") => `(tactic| (refine my_getval (by assumption) (by assumption) (by assumption) (by omega) (by assumption) ?_; (try dsimp only)))
local macro_rules | `(tactic| walk_at "compareOp Lt") => `(tactic| (refine lt_use (by assumption) (by assumption) (by assumption) rfl (by dsimp only [Around.deeper]; omega) (by dsimp only [Around.deeper]; omega) ?_; intro _ _ _ _; (try dsimp only)))

theorem bisR_ok (w : World) (mean : ExcName → Option Value) (mg mb : Str → Option Value) (A : Around) (s : Shared) (Q E : Value → Shared → Prop)
    (l : Addr) (vs : List Value) (x : Value) (t0 : Tok) (lt : Nat → Bool)
    (X : (hd.heap_39 w.params).In s.heap) (T : Top hd.view_39 (looseW hd.view_39 [Str.ofString "insort_right", Str.ofString "bisect_right", Str.ofString "bisect_left", Str.ofString "_twin_re_1", Str.ofString "_twin_re_2"]) mean mg mb s.heap)
    (hh : A.handled = none) (hd0 : A.depth + 5 < recursionLimit) (hu : A.units + 30 < cLine) (hl : s.heap.IsList l vs.toArray) (hb : vs.length ≤ 100)
    (hlt : ∀ i v, vs[i]? = some v → LtOk PySem.Challenge.rw_pg0173_02.row.prog w s.heap x v (lt i))
    (hret : ∀ t h' tk, Kept s.heap h' → Q (.int (bisR lt vs.length 0 vs.length) t) { s with heap := h', toks := tk }) :
    wpAny (model PySem.Challenge.rw_pg0173_02.row.prog w) A (call (.ref 63) [.ref l, x, .int 0 t0, .none]) Q E s := by
  w_top off
  obtain ⟨hA, dp, fr, gd, un⟩ := A
  obtain rfl : hA = none := hh
  dsimp only at hd0 hu
  revert X; k_fill; intro X
  have hd1 : (Around.mk none dp fr gd un).depth < recursionLimit := by dsimp only; omega
  (refine' enter ?kX ?kT ?k8 ?k6 ?k7 ?k9 ?kB ?c2 ?c3 ?c4 ?c5 ?_; (case kX => assumption); (case kT => assumption); (case k6 => k_is); (case k7 => k_is); (case k8 => assumption); (case k9 => first | exact BindsTo.of_eq rfl | exact kp_binds (by assumption) (fun _ => rfl)); (case c5 => decide); (case kB => exact locs rfl); (case c2 => exact rfl); (case c3 => exact rfl); (case c4 => exact rfl))
  intro L h1 tk1 F N
  obtain ⟨m0, F0, q0⟩ : ∃ m, Fr s.heap L h1 m ∧ has ((Str.ofString "lo", .int 0 t0) :: (Str.ofString "hi", .none) :: bisM l x) m := ⟨_, F, has.cons rfl (has.cons rfl (has.cons rfl (has.cons rfl (has.cons rfl has.nil))))⟩
  clear F
  have F1 := has.fr F0 q0
  clear F0 q0
  refine seq2 (g := s.heap) (s := s) (L := L) (news := []) (fun m _ => has (bisM l x) m ∧ ∃ t1 t2, has [(Str.ofString "lo", .int 0 t1), (Str.ofString "hi", .int vs.length t2)] m) ?_ ?_
  · repeat' walk1
    rename Fr _ _ _ _ => F2; rename News _ _ _ _ => N2
    exact Cut.go F2 N2 ⟨has.cons rfl (has.cons rfl (has.cons rfl has.nil)), _, _, has.cons rfl (has.cons rfl has.nil)⟩
  clear F1 N
  intro h2 tk2 m2 F2 N2 ⟨q2, t1, t2, q3⟩
  have F3 := has.fr F2 q2
  refine seq1 (g := s.heap) (s := s) (L := L) (news := []) (fun m _ => ∃ t, m "lo" = some (.int (bisR lt vs.length 0 vs.length) t)) ?_ ?_
  · refine one (ifYes (g := s.heap) (s := s) (L := L) (news := []) (fun m => m = m2) ?_ ?_)
    · repeat' walk1
      rename Fr _ _ _ _ => F4; rename News _ _ _ _ => N4
      exact TestIs.mk F4 N4 (has.eq q2)
    rintro h3 tk3 _ F4 N4 rfl
    clear F3 F2 N2
    refine one (whileR (fun n m => has (bisM l x) m ∧ ∃ lo hi t1 t2 f, has [(Str.ofString "lo", .int (lo : Nat) t1), (Str.ofString "hi", .int (hi : Nat) t2)] m ∧ n = hi - lo ∧ hi - lo ≤ f ∧ hi ≤ vs.length ∧ bisR lt f lo hi = bisR lt vs.length 0 vs.length) F4 N4
      ⟨q2, 0, vs.length, t1, t2, vs.length, q3, rfl, by omega, by omega, rfl⟩ ?_)
    clear F4 N4 q2 q3
    rintro n m h tk F5 N5 ⟨q5, lo, hi, t3, t4, f, q6, rfl, hf, hhi, hinv⟩
    have F6 := has.fr F5 (has.append q5 q6)
    clear F5
    by_cases hlh : lo < hi
    · have hmid : ((lo : Int) + (hi : Int)).fdiv 2 = (((lo + hi) / 2 : Nat) : Int) := by rw [Int.fdiv_eq_ediv_of_nonneg _ (by omega)]; omega
      obtain ⟨v, hv⟩ : ∃ v, vs[(lo + hi) / 2]? = some v := ⟨_, List.getElem?_eq_getElem (by omega)⟩
      have H := hlt _ _ hv
      cases f with
      | zero => omega
      | succ f =>
      simp only [bisR, if_pos hlh] at hinv
      cases hb2 : lt ((lo + hi) / 2) with
      | true =>
        rw [hb2] at H hinv
        simp only [if_true] at hinv
        repeat' walk1
        all_goals (first | omega | skip)
        rename Fr _ _ _ _ => F7; rename News _ _ _ _ => N7
        exact Cut.go F7 N7 ⟨(lo + hi) / 2 - lo, by omega, has.cons rfl (has.cons rfl (has.cons rfl has.nil)), lo, (lo + hi) / 2, _, _, f, has.cons rfl (has.cons (congrArg (fun x => some (Value.int x _)) hmid) has.nil), rfl, by omega, by omega, hinv⟩
      | false =>
        rw [hb2] at H hinv
        simp only [Bool.false_eq_true, if_false] at hinv
        repeat' walk1
        all_goals (first | omega | skip)
        rename Fr _ _ _ _ => F7; rename News _ _ _ _ => N7
        have hmid2 : ((lo : Int) + (hi : Int)).fdiv 2 + 1 = (((lo + hi) / 2 + 1 : Nat) : Int) := by omega
        exact Cut.go F7 N7 ⟨hi - ((lo + hi) / 2 + 1), by omega, has.cons rfl (has.cons rfl (has.cons rfl has.nil)), (lo + hi) / 2 + 1, hi, _, _, f, has.cons (congrArg (fun x => some (Value.int x _)) hmid2) (has.cons rfl has.nil), rfl, by omega, by omega, hinv⟩
    · have hlo : bisR lt f lo hi = lo := by cases f <;> simp [bisR, hlh]
      rw [hlo] at hinv
      repeat' walk1
      all_goals (first | omega | skip)
      rename Fr _ _ _ _ => F7; rename News _ _ _ _ => N7
      exact Aft.mk F7 N7 ⟨t3, by rw [← hinv]; rfl⟩
  clear F2 N2 F3 q2 q3
  intro h3 tk3 m3 F3 N3 ⟨t3, e3⟩
  have F4 := has.fr F3 (has.cons e3 has.nil)
  repeat' walk1
  rename Fr _ _ _ _ => F5
  exact hret _ _ _ F5.keep
end Mine
end
section
open PySem PySem.W PyProof.Rows PySem.Calls
namespace Mine
set_option maxRecDepth 100000
set_option maxHeartbeats 8000000


local macro_rules | `(tactic| walk_at "no key 0") => `(tactic| skip)
local macro_rules | `(tactic| walk_at "no key 1") => `(tactic| skip)
local macro_rules | `(tactic| walk_at "no key 2") => `(tactic| skip)
local macro_rules | `(tactic| walk_at "no key 3") => `(tactic| skip)
local macro_rules | `(tactic| walk_at "no key 4") => `(tactic| skip)
local macro_rules | `(tactic| walk_at "no key 5") => `(tactic| skip)
local macro_rules | `(tactic| walk_at "call builtin:len") => `(tactic| (refine my_len (by assumption) (by assumption) (by assumption) ?_; (try dsimp only)))

local macro_rules | `(tactic| walk_at "subscriptTail Name Name ref int") => `(tactic| (refine my_getval (by assumption) (by assumption) (by assumption) (by omega) (by assumption) ?_; (try dsimp only)))
local macro_rules | `(tactic| walk_at "compareOp Lt") => `(tactic| (refine lt_use (by assumption) (by assumption) (by assumption) rfl (by dsimp only [Around.deeper]; omega) (by dsimp only [Around.deeper]; omega) ?_; intro _ _ _ _; (try dsimp only)))

theorem bisL_ok (w : World) (mean : ExcName → Option Value) (mg mb : Str → Option Value) (A : Around) (s : Shared) (Q E : Value → Shared → Prop)
    (l : Addr) (vs : List Value) (x : Value) (lt : Nat → Bool)
    (X : (hd.heap_39 w.params).In s.heap) (T : Top hd.view_39 (looseW hd.view_39 [Str.ofString "insort_right", Str.ofString "bisect_right", Str.ofString "bisect_left", Str.ofString "_twin_re_1", Str.ofString "_twin_re_2"]) mean mg mb s.heap)
    (hh : A.handled = none) (hd0 : A.depth + 5 < recursionLimit) (hu : A.units + 30 < cLine) (hl : s.heap.IsList l vs.toArray) (hb : vs.length ≤ 100)
    (hlt : ∀ i v, vs[i]? = some v → LtOk PySem.Challenge.rw_pg0173_02.row.prog w s.heap v x (lt i))
    (hret : ∀ t h' tk, Kept s.heap h' → Q (.int (bisL lt vs.length 0 vs.length) t) { s with heap := h', toks := tk }) :
    wpAny (model PySem.Challenge.rw_pg0173_02.row.prog w) A (call (.ref 72) [.ref l, x]) Q E s := by
  w_top off
  obtain ⟨hA, dp, fr, gd, un⟩ := A
  obtain rfl : hA = none := hh
  dsimp only at hd0 hu
  revert X; k_fill; intro X
  have hd1 : (Around.mk none dp fr gd un).depth < recursionLimit := by dsimp only; omega
  (refine' enter ?kX ?kT ?k8 ?k6 ?k7 ?k9 ?kB ?c2 ?c3 ?c4 ?c5 ?_; (case kX => assumption); (case kT => assumption); (case k6 => k_is); (case k7 => k_is); (case k8 => assumption); (case k9 => first | exact BindsTo.of_eq rfl | exact kp_binds (by assumption) (fun _ => rfl)); (case c5 => decide); (case kB => exact locs rfl); (case c2 => exact rfl); (case c3 => exact rfl); (case c4 => exact rfl))
  intro L h1 tk1 F N
  obtain ⟨m0, t0, F0, q0⟩ : ∃ m t0, Fr s.heap L h1 m ∧ has ((Str.ofString "lo", .int 0 t0) :: (Str.ofString "hi", .none) :: bisM l x) m := ⟨_, _, F, has.cons rfl (has.cons rfl (has.cons rfl (has.cons rfl (has.cons rfl has.nil))))⟩
  clear F
  have F1 := has.fr F0 q0
  clear F0 q0
  refine seq2 (g := s.heap) (s := s) (L := L) (news := []) (fun m _ => has (bisM l x) m ∧ ∃ t1 t2, has [(Str.ofString "lo", .int 0 t1), (Str.ofString "hi", .int vs.length t2)] m) ?_ ?_
  · repeat' walk1
    rename Fr _ _ _ _ => F2; rename News _ _ _ _ => N2
    exact Cut.go F2 N2 ⟨has.cons rfl (has.cons rfl (has.cons rfl has.nil)), _, _, has.cons rfl (has.cons rfl has.nil)⟩
  clear F1 N
  intro h2 tk2 m2 F2 N2 ⟨q2, t1, t2, q3⟩
  have F3 := has.fr F2 q2
  refine seq1 (g := s.heap) (s := s) (L := L) (news := []) (fun m _ => ∃ t, m "lo" = some (.int (bisL lt vs.length 0 vs.length) t)) ?_ ?_
  · refine one (ifYes (g := s.heap) (s := s) (L := L) (news := []) (fun m => m = m2) ?_ ?_)
    · repeat' walk1
      rename Fr _ _ _ _ => F4; rename News _ _ _ _ => N4
      exact TestIs.mk F4 N4 (has.eq q2)
    rintro h3 tk3 _ F4 N4 rfl
    clear F3 F2 N2
    refine one (whileR (fun n m => has (bisM l x) m ∧ ∃ lo hi t1 t2 f, has [(Str.ofString "lo", .int (lo : Nat) t1), (Str.ofString "hi", .int (hi : Nat) t2)] m ∧ n = hi - lo ∧ hi - lo ≤ f ∧ hi ≤ vs.length ∧ bisL lt f lo hi = bisL lt vs.length 0 vs.length) F4 N4
      ⟨q2, 0, vs.length, t1, t2, vs.length, q3, rfl, by omega, by omega, rfl⟩ ?_)
    clear F4 N4 q2 q3
    rintro n m h tk F5 N5 ⟨q5, lo, hi, t3, t4, f, q6, rfl, hf, hhi, hinv⟩
    have F6 := has.fr F5 (has.append q5 q6)
    clear F5
    by_cases hlh : lo < hi
    · have hmid : ((lo : Int) + (hi : Int)).fdiv 2 = (((lo + hi) / 2 : Nat) : Int) := by rw [Int.fdiv_eq_ediv_of_nonneg _ (by omega)]; omega
      obtain ⟨v, hv⟩ : ∃ v, vs[(lo + hi) / 2]? = some v := ⟨_, List.getElem?_eq_getElem (by omega)⟩
      have H := hlt _ _ hv
      cases f with
      | zero => omega
      | succ f =>
      simp only [bisL, if_pos hlh] at hinv
      cases hb2 : lt ((lo + hi) / 2) with
      | false =>
        rw [hb2] at H hinv
        simp only [Bool.false_eq_true, if_false] at hinv
        repeat' walk1
        all_goals (first | omega | skip)
        rename Fr _ _ _ _ => F7; rename News _ _ _ _ => N7
        exact Cut.go F7 N7 ⟨(lo + hi) / 2 - lo, by omega, has.cons rfl (has.cons rfl (has.cons rfl has.nil)), lo, (lo + hi) / 2, _, _, f, has.cons rfl (has.cons (congrArg (fun x => some (Value.int x _)) hmid) has.nil), rfl, by omega, by omega, hinv⟩
      | true =>
        rw [hb2] at H hinv
        simp only [if_true] at hinv
        repeat' walk1
        all_goals (first | omega | skip)
        rename Fr _ _ _ _ => F7; rename News _ _ _ _ => N7
        have hmid2 : ((lo : Int) + (hi : Int)).fdiv 2 + 1 = (((lo + hi) / 2 + 1 : Nat) : Int) := by omega
        exact Cut.go F7 N7 ⟨hi - ((lo + hi) / 2 + 1), by omega, has.cons rfl (has.cons rfl (has.cons rfl has.nil)), (lo + hi) / 2 + 1, hi, _, _, f, has.cons (congrArg (fun x => some (Value.int x _)) hmid2) (has.cons rfl has.nil), rfl, by omega, by omega, hinv⟩
    · have hlo : bisL lt f lo hi = lo := by cases f <;> simp [bisL, hlh]
      rw [hlo] at hinv
      repeat' walk1
      all_goals (first | omega | skip)
      rename Fr _ _ _ _ => F7; rename News _ _ _ _ => N7
      exact Aft.mk F7 N7 ⟨t3, by rw [← hinv]; rfl⟩
  clear F2 N2 F3 q2 q3
  intro h3 tk3 m3 F3 N3 ⟨t3, e3⟩
  have F4 := has.fr F3 (has.cons e3 has.nil)
  repeat' walk1
  rename Fr _ _ _ _ => F5
  exact hret _ _ _ F5.keep
end Mine
end
section
open PySem PySem.W PyProof.Rows PySem.Calls
namespace Mine
set_option maxRecDepth 100000
set_option maxHeartbeats 8000000


local macro_rules | `(tactic| walk_at "no key 0") => `(tactic| skip)
local macro_rules | `(tactic| walk_at "no key 1") => `(tactic| skip)
local macro_rules | `(tactic| walk_at "no key 2") => `(tactic| skip)
local macro_rules | `(tactic| walk_at "no key 3") => `(tactic| skip)
local macro_rules | `(tactic| walk_at "no key 4") => `(tactic| skip)
local macro_rules | `(tactic| walk_at "no key 5") => `(tactic| skip)
local macro_rules | `(tactic| walk_at "no key 6") => `(tactic| skip)
local macro_rules | `(tactic| walk_at "call builtin:len") => `(tactic| (refine my_len (by assumption) (by assumption) (by assumption) ?_; (try dsimp only)))

local macro_rules | `(tactic| walk_at "subscriptTail Name Name ref int") => `(tactic| (refine my_getval (by assumption) (by assumption) (by assumption) (by omega) (by assumption) ?_; (try dsimp only)))
local macro_rules | `(tactic| walk_at "compareOp Lt") => `(tactic| (refine lt_use (by assumption) (by assumption) (by assumption) rfl (by dsimp only [Around.deeper]; omega) (by dsimp only [Around.deeper]; omega) ?_; intro _ _ _ _; (try dsimp only)))

theorem bisR2_ok (w : World) (mean : ExcName → Option Value) (mg mb : Str → Option Value) (A : Around) (s : Shared) (Q E : Value → Shared → Prop)
    (l : Addr) (vs : List Value) (x : Value) (lt : Nat → Bool)
    (X : (hd.heap_39 w.params).In s.heap) (T : Top hd.view_39 (looseW hd.view_39 [Str.ofString "insort_right", Str.ofString "bisect_right", Str.ofString "bisect_left", Str.ofString "_twin_re_1", Str.ofString "_twin_re_2"]) mean mg mb s.heap)
    (hh : A.handled = none) (hd0 : A.depth + 5 < recursionLimit) (hu : A.units + 30 < cLine) (hl : s.heap.IsList l vs.toArray) (hb : vs.length ≤ 100)
    (hlt : ∀ i v, vs[i]? = some v → LtOk PySem.Challenge.rw_pg0173_02.row.prog w s.heap x v (lt i))
    (hret : ∀ t h' tk, Kept s.heap h' → Q (.int (bisR lt vs.length 0 vs.length) t) { s with heap := h', toks := tk }) :
    wpAny (model PySem.Challenge.rw_pg0173_02.row.prog w) A (call (.ref 63) [.ref l, x]) Q E s := by
  w_top off
  obtain ⟨hA, dp, fr, gd, un⟩ := A
  obtain rfl : hA = none := hh
  dsimp only at hd0 hu
  revert X; k_fill; intro X
  have hd1 : (Around.mk none dp fr gd un).depth < recursionLimit := by dsimp only; omega
  (refine' enter ?kX ?kT ?k8 ?k6 ?k7 ?k9 ?kB ?c2 ?c3 ?c4 ?c5 ?_; (case kX => assumption); (case kT => assumption); (case k6 => k_is); (case k7 => k_is); (case k8 => assumption); (case k9 => first | exact BindsTo.of_eq rfl | exact kp_binds (by assumption) (fun _ => rfl)); (case c5 => decide); (case kB => exact locs rfl); (case c2 => exact rfl); (case c3 => exact rfl); (case c4 => exact rfl))
  intro L h1 tk1 F N
  obtain ⟨m0, t0, F0, q0⟩ : ∃ m t0, Fr s.heap L h1 m ∧ has ((Str.ofString "lo", .int 0 t0) :: (Str.ofString "hi", .none) :: bisM l x) m := ⟨_, _, F, has.cons rfl (has.cons rfl (has.cons rfl (has.cons rfl (has.cons rfl has.nil))))⟩
  clear F
  have F1 := has.fr F0 q0
  clear F0 q0
  refine seq2 (g := s.heap) (s := s) (L := L) (news := []) (fun m _ => has (bisM l x) m ∧ ∃ t1 t2, has [(Str.ofString "lo", .int 0 t1), (Str.ofString "hi", .int vs.length t2)] m) ?_ ?_
  · repeat' walk1
    rename Fr _ _ _ _ => F2; rename News _ _ _ _ => N2
    exact Cut.go F2 N2 ⟨has.cons rfl (has.cons rfl (has.cons rfl has.nil)), _, _, has.cons rfl (has.cons rfl has.nil)⟩
  clear F1 N
  intro h2 tk2 m2 F2 N2 ⟨q2, t1, t2, q3⟩
  have F3 := has.fr F2 q2
  refine seq1 (g := s.heap) (s := s) (L := L) (news := []) (fun m _ => ∃ t, m "lo" = some (.int (bisR lt vs.length 0 vs.length) t)) ?_ ?_
  · refine one (ifYes (g := s.heap) (s := s) (L := L) (news := []) (fun m => m = m2) ?_ ?_)
    · repeat' walk1
      rename Fr _ _ _ _ => F4; rename News _ _ _ _ => N4
      exact TestIs.mk F4 N4 (has.eq q2)
    rintro h3 tk3 _ F4 N4 rfl
    clear F3 F2 N2
    refine one (whileR (fun n m => has (bisM l x) m ∧ ∃ lo hi t1 t2 f, has [(Str.ofString "lo", .int (lo : Nat) t1), (Str.ofString "hi", .int (hi : Nat) t2)] m ∧ n = hi - lo ∧ hi - lo ≤ f ∧ hi ≤ vs.length ∧ bisR lt f lo hi = bisR lt vs.length 0 vs.length) F4 N4
      ⟨q2, 0, vs.length, t1, t2, vs.length, q3, rfl, by omega, by omega, rfl⟩ ?_)
    clear F4 N4 q2 q3
    rintro n m h tk F5 N5 ⟨q5, lo, hi, t3, t4, f, q6, rfl, hf, hhi, hinv⟩
    have F6 := has.fr F5 (has.append q5 q6)
    clear F5
    by_cases hlh : lo < hi
    · have hmid : ((lo : Int) + (hi : Int)).fdiv 2 = (((lo + hi) / 2 : Nat) : Int) := by rw [Int.fdiv_eq_ediv_of_nonneg _ (by omega)]; omega
      obtain ⟨v, hv⟩ : ∃ v, vs[(lo + hi) / 2]? = some v := ⟨_, List.getElem?_eq_getElem (by omega)⟩
      have H := hlt _ _ hv
      cases f with
      | zero => omega
      | succ f =>
      simp only [bisR, if_pos hlh] at hinv
      cases hb2 : lt ((lo + hi) / 2) with
      | true =>
        rw [hb2] at H hinv
        simp only [if_true] at hinv
        repeat' walk1
        all_goals (first | omega | skip)
        rename Fr _ _ _ _ => F7; rename News _ _ _ _ => N7
        exact Cut.go F7 N7 ⟨(lo + hi) / 2 - lo, by omega, has.cons rfl (has.cons rfl (has.cons rfl has.nil)), lo, (lo + hi) / 2, _, _, f, has.cons rfl (has.cons (congrArg (fun x => some (Value.int x _)) hmid) has.nil), rfl, by omega, by omega, hinv⟩
      | false =>
        rw [hb2] at H hinv
        simp only [Bool.false_eq_true, if_false] at hinv
        repeat' walk1
        all_goals (first | omega | skip)
        rename Fr _ _ _ _ => F7; rename News _ _ _ _ => N7
        have hmid2 : ((lo : Int) + (hi : Int)).fdiv 2 + 1 = (((lo + hi) / 2 + 1 : Nat) : Int) := by omega
        exact Cut.go F7 N7 ⟨hi - ((lo + hi) / 2 + 1), by omega, has.cons rfl (has.cons rfl (has.cons rfl has.nil)), (lo + hi) / 2 + 1, hi, _, _, f, has.cons (congrArg (fun x => some (Value.int x _)) hmid2) (has.cons rfl has.nil), rfl, by omega, by omega, hinv⟩
    · have hlo : bisR lt f lo hi = lo := by cases f <;> simp [bisR, hlh]
      rw [hlo] at hinv
      repeat' walk1
      all_goals (first | omega | skip)
      rename Fr _ _ _ _ => F7; rename News _ _ _ _ => N7
      exact Aft.mk F7 N7 ⟨t3, by rw [← hinv]; rfl⟩
  clear F2 N2 F3 q2 q3
  intro h3 tk3 m3 F3 N3 ⟨t3, e3⟩
  have F4 := has.fr F3 (has.cons e3 has.nil)
  repeat' walk1
  rename Fr _ _ _ _ => F5
  exact hret _ _ _ F5.keep
end Mine
end
section
open PySem PySem.W PyProof.Rows PySem.Calls
namespace Mine
set_option maxRecDepth 100000
set_option maxHeartbeats 8000000

theorem LtOk.mono {prog : Program} {w : World} {h h' : Heap} {x v : Value} {b : Bool} (H : LtOk prog w h x v b) (k : Kept h h') : LtOk prog w h' x v b := fun A s Q E hh hd hu hk hret => H A s Q E hh hd hu (k.trans hk) hret

theorem bisR_use {w : World} {mean : ExcName → Option Value} {mg mb : Str → Option Value} {A : Around} {s : Shared} {Q E : Value → Shared → Prop}
    {l : Addr} {vs : List Value} {x : Value} {t0 : Tok} {lt : Nat → Bool} {g : Heap} {L : Addr} {m : Str → Option Value} {news : List (Addr × Obj)} {k : Nat} (F : Fr g L s.heap m) (N : News g L s.heap news) (hm : (l, W.listOf vs.toArray k) ∈ news)
    (X : (hd.heap_39 w.params).In g) (T : Top hd.view_39 (looseW hd.view_39 [Str.ofString "insort_right", Str.ofString "bisect_right", Str.ofString "bisect_left", Str.ofString "_twin_re_1", Str.ofString "_twin_re_2"]) mean mg mb g)
    (hh : A.handled = none) (hd0 : A.depth + 5 < recursionLimit) (hu : A.units + 30 < cLine) (hb : vs.length ≤ 100) {h₀ : Heap} (hk0 : Kept h₀ s.heap)
    (hlt : ∀ i v, vs[i]? = some v → LtOk PySem.Challenge.rw_pg0173_02.row.prog w h₀ x v (lt i))
    (hret : ∀ t h' tk, Fr g L h' m → News g L h' news → Q (.int (bisR lt vs.length 0 vs.length) t) { s with heap := h', toks := tk }) :
    wpAny (model PySem.Challenge.rw_pg0173_02.row.prog w) A (call (.ref 63) [.ref l, x, .int 0 t0, .none]) Q E s :=
  bisR_ok w mean mg mb A s Q E l vs x t0 lt (X.keeps F.keep) (T.keeps F.keep) hh hd0 hu ⟨_, (N _ hm).1, rfl, _, rfl⟩ hb (fun i v e => (hlt i v e).mono hk0) fun t h' tk hk => hret t h' tk (Fr.after F hk) (News.keepsAll N hk)

local macro_rules | `(tactic| walk_at "no key 0") => `(tactic| skip)
local macro_rules | `(tactic| walk_at "no key 1") => `(tactic| skip)
local macro_rules | `(tactic| walk_at "no key 2") => `(tactic| skip)
local macro_rules | `(tactic| walk_at "no key 3") => `(tactic| skip)
local macro_rules | `(tactic| walk_at "no key 4") => `(tactic| skip)
local macro_rules | `(tactic| walk_at "no key 5") => `(tactic| skip)
local macro_rules | `(tactic| walk_at "no key 6") => `(tactic| skip)
local macro_rules | `(tactic| walk_at "no key 7") => `(tactic| skip)
local macro_rules | `(tactic| walk_at "no key 8") => `(tactic| skip)
local macro_rules | `(tactic| walk_at "call ref") => `(tactic| (refine bisR_use (by assumption) (by assumption) (.head _) (by assumption) (by assumption) rfl (by dsimp only [Around.deeper]; omega) (by dsimp only [Around.deeper]; omega) (by omega) (by assumption) (by assumption) ?_; intro _ _ _ _ _; (try dsimp only)))

local macro_rules | `(tactic| walk_at "call builtin:list.insert") => `(tactic| (refine my_insert (by assumption) (by assumption) (by exact fun _ hp => nomatch hp) (by exact bisR_le _ _ _ _ (Nat.zero_le _)) (by omega) ?_; intro _ _ _; (try dsimp only)))

theorem insort_use {w : World} {mean : ExcName → Option Value} {mg mb : Str → Option Value} {A : Around} {s : Shared} {Q E : Value → Shared → Prop}
    {la : Addr} {vs : List Value} {x : Value} {lt : Nat → Bool} {g : Heap} {L : Addr} {m : Str → Option Value} {k : Nat} {rest : List (Addr × Obj)}
    (F : Fr g L s.heap m) (N : News g L s.heap ((la, W.listOf vs.toArray k) :: rest)) (hr : ∀ p ∈ rest, p.1 ≠ la)
    (X : (hd.heap_39 w.params).In g) (T : Top hd.view_39 (looseW hd.view_39 [Str.ofString "insort_right", Str.ofString "bisect_right", Str.ofString "bisect_left", Str.ofString "_twin_re_1", Str.ofString "_twin_re_2"]) mean mg mb g)
    (hh : A.handled = none) (hd0 : A.depth + 7 < recursionLimit) (hu : A.units + 40 < cLine) (hb : vs.length ≤ 90)
    (hlt : ∀ i v, vs[i]? = some v → LtOk PySem.Challenge.rw_pg0173_02.row.prog w s.heap x v (lt i))
    (hret : ∀ h' tk, Fr g L h' m → News g L h' ((la, W.listOf (vs.take (bisR lt vs.length 0 vs.length) ++ x :: vs.drop (bisR lt vs.length 0 vs.length)).toArray (k + 1)) :: rest) → Q .none { s with heap := h', toks := tk }) :
    wpAny (model PySem.Challenge.rw_pg0173_02.row.prog w) A (call (.ref 54) [.ref la, x]) Q E s := by
  w_top off
  obtain ⟨hA, dp, fr, gd, un⟩ := A
  obtain rfl : hA = none := hh
  dsimp only at hd0 hu
  have X1 : (hd.heap_39 w.params).In s.heap := X.keeps F.keep
  have T1 := T.keeps F.keep
  have X2 : (hd.heap_39 w.params).In (s.heap.hide la) := X.keeps (hide_stays F N)
  have T2 := T.keeps (hide_stays F N)
  clear X T
  revert X1; k_fill; intro X1
  have hd1 : (Around.mk none dp fr gd un).depth < recursionLimit := by dsimp only; omega
  have hla := (N _ (.head _)).1
  dsimp only at hla
  (refine' enterM ?kl ?kX ?kT ?k8 ?k6 ?k7 ?k9 ?kB ?c2 ?c3 ?c4 ?c5 ?_; (case kl => assumption); (case kX => assumption); (case kT => assumption); (case k6 => k_is); (case k7 => k_is); (case k8 => assumption); (case k9 => first | exact BindsTo.of_eq rfl | exact kp_binds (by assumption) (fun _ => rfl)); (case c5 => decide); (case kB => exact locs rfl); (case c2 => exact rfl); (case c3 => exact rfl); (case c4 => exact rfl))
  intro L1 h1 tk1 F1 N1
  obtain ⟨m0, t0, F0, q0⟩ : ∃ m t0, Fr (s.heap.hide la) L1 h1 m ∧ has [(Str.ofString "a", .ref la), (Str.ofString "x", x), (Str.ofString "lo", .int 0 t0), (Str.ofString "hi", .none), (Str.ofString "key", .none)] m := ⟨_, _, F1, has.cons rfl (has.cons rfl (has.cons rfl (has.cons rfl (has.cons rfl has.nil))))⟩
  clear F1 X1 T1
  have F2 := has.fr F0 q0
  clear F0 q0
  have hk0 : Kept s.heap h1 := fun b o e => by
    by_cases hbl : b = la
    · subst hbl
      have := (N1 _ (.head _)).1
      dsimp only at this
      rw [hla] at e
      cases e
      exact this
    · exact F2.keep b o ((Heap.hide_ne _ hbl).trans e)
  repeat' walk1
  rename Fr _ _ _ _ => F3
  rename News _ _ _ _ => N3
  obtain ⟨F4, N4⟩ := backM F N hr F3 N3
  exact hret _ _ F4 N4
end Mine
end
section
open PySem PySem.Sre
set_option maxRecDepth 100000
namespace Mine

theorem step_done {m : M} (h : m.outcome.isSome = true) : m.step = m := by unfold M.step; rw [if_pos h]
/-- k steps -/
def steps : Nat → M → M
  | 0, m => m
  | k + 1, m => steps k m.step
theorem steps_done {m : M} (h : m.outcome.isSome = true) : ∀ k, steps k m = m
  | 0 => rfl
  | k + 1 => by unfold steps; rw [step_done h]; exact steps_done h k
theorem runFor_steps : ∀ (k : Nat) (m : M), M.runFor k m = steps k m
  | 0, _ => rfl
  | k + 1, m => by
    unfold M.runFor steps
    by_cases h : m.outcome.isSome = true
    · rw [if_pos h, step_done h, steps_done h]
    · rw [if_neg h]; exact runFor_steps k m.step
theorem steps_add : ∀ (a b : Nat) (m : M), steps (a + b) m = steps b (steps a m)
  | 0, b, m => by rw [Nat.zero_add]; rfl
  | a + 1, b, m => by
    rw [Nat.succ_add]
    show steps (a + b) m.step = steps b (steps a m.step)
    exact steps_add a b m.step

/-- m comes to m' in at most n steps -/
def Comes (n : Nat) (m m' : M) : Prop := ∃ k, k ≤ n ∧ steps k m = m'
theorem Comes.trans {a b : Nat} {m m' m'' : M} (x : Comes a m m') (y : Comes b m' m'') : Comes (a + b) m m'' := by
  obtain ⟨k, hk, e⟩ := x
  obtain ⟨j, hj, e'⟩ := y
  exact ⟨k + j, Nat.add_le_add hk hj, by rw [steps_add, e, e']⟩
theorem Comes.mono {a b : Nat} {m m' : M} (x : Comes a m m') (h : a ≤ b) : Comes b m m' := by
  obtain ⟨k, hk, e⟩ := x
  exact ⟨k, Nat.le_trans hk h, e⟩

def code1 : Array Nat := #[14, 4, 0, 1, 1, 6, 1, 16, 46, 1]
def code2 : Array Nat := #[14, 9, 4, 1, 2, 16, 10, 16, 13, 0, 7, 7, 16, 13, 16, 10, 15, 18, 5, 16, 10, 15, 13, 11, 16, 13, 5, 5, 0, 16, 10, 1, 15, 2, 0, 1]

/-- an attempt at s begins -/
def at1 (T : Array Nat) (s : Nat) (must first : Bool) (seen : Seen) (h : Nat) : M :=
  { code := code1, text := T, lim := T.size, start := s, lastStart := T.size, mustAdvance := must, pc := 5, pos := s, handed := h, outermost := first, marks := #[], frames := [{ wait := .nextStart, pc := 5, pos := s, outermost := first }], weight := 1, seen }

/-- where it ends -/
def End1 (_T : Array Nat) (r : Option (Nat × Nat)) (m : M) : Prop :=
  match r with
  | some (s, e) => (∃ x, m.outcome = some x ∧ x = .matched) ∧ m.start = s ∧ m.handed = e
  | none => ∃ x, m.outcome = some x ∧ x = .failed

/-- a dot at the beginning of a row -/
def dotAt (T : Array Nat) (s : Nat) : Bool := (s == 0 || T.getD (s - 1) 0 == 10) && (decide (s < T.size) && T.getD s 0 == 46)

theorem at1_yes (T : Array Nat) (s : Nat) (must first : Bool) (seen : Seen) (h : Nat) (hd : dotAt T s = true) : ∃ m', Comes 8 (at1 T s must first seen h) m' ∧ End1 T (some (s, s + 1)) m' := by
  unfold dotAt at hd
  rw [Bool.and_eq_true, Bool.and_eq_true, decide_eq_true_eq] at hd
  obtain ⟨h1, h2, h3⟩ := hd
  have e1 : (at1 T s must first seen h).step = { (at1 T s must first seen h) with pc := 7, seen := (seen.add 6).add 44 } := by
    show (if (s == 0 || T.getD (s - 1) 0 == 10) = true then _ else _) = _
    rw [if_pos h1]; rfl
  have e2 : ({ (at1 T s must first seen h) with pc := 7, seen := (seen.add 6).add 44 } : M).step = { (at1 T s must first seen h) with pc := 9, pos := s + 1, seen := ((seen.add 6).add 44).add 16 } := by
    show (if s ≥ T.size then _ else _) = _
    rw [if_neg (Nat.not_le.mpr h2)]
    show (match (Except.ok (T.getD s 0 == 46, ((seen.add 6).add 44).add 16) : Except String (Bool × Seen)) with | .error why => M.stick _ why | .ok (false, seen) => M.say _ false | .ok (true, seen) => _) = _
    rw [h3]
    rfl
  have e3 : ({ (at1 T s must first seen h) with pc := 9, pos := s + 1, seen := ((seen.add 6).add 44).add 16 } : M).step = { (at1 T s must first seen h) with pc := 9, pos := s + 1, handed := s + 1, seen := (((seen.add 6).add 44).add 16).add 1, answer := some true } := by
    show (if (first && ((false && _) || (must && (s + 1 == s)))) = true then _ else _) = _
    have z : (s + 1 == s) = false := by simp
    rw [z, Bool.false_and, Bool.false_or, Bool.and_false, Bool.and_false, if_neg Bool.false_ne_true]
    rfl
  refine ⟨steps 5 (at1 T s must first seen h), ⟨5, by decide, rfl⟩, ?_⟩
  show End1 T (some (s, s + 1)) (steps 2 ((at1 T s must first seen h).step.step.step))
  rw [e1, e2, e3]
  exact ⟨⟨_, rfl, rfl⟩, rfl, rfl⟩

theorem fail1 (T : Array Nat) (s : Nat) (must first : Bool) (seen : Seen) (h pc pos : Nat) (hs : s < T.size) :
    ({ (at1 T s must first seen h) with pc, pos, answer := some false } : M).step = at1 T (s + 1) false false seen (s + 1) := by
  show (if s < T.size then _ else _) = _
  rw [if_pos hs]
  rfl
theorem stop1 (T : Array Nat) (s : Nat) (must first : Bool) (seen : Seen) (h pc pos : Nat) (hs : ¬s < T.size) :
    End1 T none (({ (at1 T s must first seen h) with pc, pos, answer := some false } : M).step.step) := by
  have e : ({ (at1 T s must first seen h) with pc, pos, answer := some false } : M).step = { (at1 T s must first seen h) with frames := [], weight := 0, answer := some false } := by
    show (if s < T.size then _ else _) = _
    rw [if_neg hs]
    rfl
  rw [e]
  exact ⟨_, rfl, rfl⟩

/-- no dot here: some steps to a no -/
theorem at1_no (T : Array Nat) (s : Nat) (must first : Bool) (seen : Seen) (h : Nat) (hd : dotAt T s = false) :
    ∃ k pc pos seen', k ≤ 2 ∧ steps k (at1 T s must first seen h) = { (at1 T s must first seen' h) with pc, pos, answer := some false } := by
  unfold dotAt at hd
  by_cases h1 : (s == 0 || T.getD (s - 1) 0 == 10) = true
  · have e1 : (at1 T s must first seen h).step = { (at1 T s must first seen h) with pc := 7, seen := (seen.add 6).add 44 } := by
      show (if (s == 0 || T.getD (s - 1) 0 == 10) = true then _ else _) = _
      rw [if_pos h1]; rfl
    rw [h1, Bool.true_and] at hd
    by_cases h2 : s < T.size
    · rw [decide_eq_true h2, Bool.true_and] at hd
      have e2 : ({ (at1 T s must first seen h) with pc := 7, seen := (seen.add 6).add 44 } : M).step = { (at1 T s must first (((seen.add 6).add 44).add 16) h) with pc := 7, pos := s, answer := some false } := by
        show (if s ≥ T.size then _ else _) = _
        rw [if_neg (Nat.not_le.mpr h2)]
        show (match (Except.ok (T.getD s 0 == 46, ((seen.add 6).add 44).add 16) : Except String (Bool × Seen)) with | .error why => M.stick _ why | .ok (false, seen) => M.say _ false | .ok (true, seen) => _) = _
        rw [hd]
        rfl
      exact ⟨2, 7, s, _, Nat.le_refl _, by show (at1 T s must first seen h).step.step = _; rw [e1, e2]⟩
    · have e2 : ({ (at1 T s must first seen h) with pc := 7, seen := (seen.add 6).add 44 } : M).step = { (at1 T s must first (((seen.add 6).add 44).add 16) h) with pc := 7, pos := s, answer := some false } := by
        show (if s ≥ T.size then _ else _) = _
        rw [if_pos (Nat.le_of_not_lt h2)]
        rfl
      exact ⟨2, 7, s, _, Nat.le_refl _, by show (at1 T s must first seen h).step.step = _; rw [e1, e2]⟩
  · have e1 : (at1 T s must first seen h).step = { (at1 T s must first ((seen.add 6).add 44) h) with pc := 5, pos := s, answer := some false } := by
      show (if (s == 0 || T.getD (s - 1) 0 == 10) = true then _ else _) = _
      rw [if_neg h1]; rfl
    exact ⟨1, 5, s, _, by decide, e1⟩

/-- the first dot from s on, within n places -/
def nextDot (T : Array Nat) : Nat → Nat → Option Nat
  | 0, _ => none
  | n + 1, s => if dotAt T s then some s else nextDot T n (s + 1)

theorem run1 (T : Array Nat) : ∀ (n s : Nat) (must first : Bool) (seen : Seen) (h : Nat), s + n = T.size + 1 → ∃ m', Comes (10 * n + 10) (at1 T s must first seen h) m' ∧ End1 T ((nextDot T n s).map fun i => (i, i + 1)) m'
  | 0, s, must, first, seen, h, hn => by
    have hd : dotAt T s = false := by unfold dotAt; rw [decide_eq_false (by omega)]; simp
    obtain ⟨k, pc, pos, seen', hk, e⟩ := at1_no T s must first seen h hd
    exact ⟨steps (k + 2) (at1 T s must first seen h), ⟨k + 2, by omega, rfl⟩, by rw [steps_add, e]; exact stop1 T s must first seen' h pc pos (by omega)⟩
  | n + 1, s, must, first, seen, h, hn => by
    unfold nextDot
    by_cases hd : dotAt T s = true
    · rw [if_pos hd]
      obtain ⟨m', c, e⟩ := at1_yes T s must first seen h hd
      exact ⟨m', c.mono (by omega), e⟩
    · rw [if_neg hd]
      obtain ⟨k, pc, pos, seen', hk, e⟩ := at1_no T s must first seen h (by simpa using hd)
      by_cases hs : s < T.size
      · obtain ⟨m', c, e'⟩ := run1 T n (s + 1) false false seen' (s + 1) (by omega)
        have c1 : Comes (k + 1) (at1 T s must first seen h) (at1 T (s + 1) false false seen' (s + 1)) := ⟨k + 1, Nat.le_refl _, by rw [steps_add, e]; exact fail1 T s must first seen' h pc pos hs⟩
        exact ⟨m', (c1.trans c).mono (by omega), e'⟩
      · have hn0 : n = 0 := by omega
        subst hn0
        exact ⟨steps (k + 2) (at1 T s must first seen h), ⟨k + 2, by omega, rfl⟩, by rw [steps_add, e]; exact stop1 T s must first seen' h pc pos hs⟩

theorem search1 (T : Array Nat) (p : Nat) (must : Bool) (hp : p ≤ T.size) : ∃ m', Comes (10 * T.size + 20) (forSearch code1 T 0 p T.size must) m' ∧ End1 T ((nextDot T (T.size + 1 - p) p).map fun i => (i, i + 1)) m' := by
  by_cases hlt : p < T.size
  · have e : forSearch code1 T 0 p T.size must = at1 T p must true (({} : Seen).add 14) p := by
      show (if (decide (p > T.size) || decide (T.size - p < 1)) = true then _ else _) = _
      rw [if_neg (by simp; omega)]
      rfl
    rw [e]
    obtain ⟨m', c, e'⟩ := run1 T (T.size + 1 - p) p must true (({} : Seen).add 14) p (by omega)
    exact ⟨m', c.mono (by omega), e'⟩
  · have e0 : p = T.size := by omega
    subst e0
    have e : (nextDot T (T.size + 1 - T.size) T.size) = none := by
      rw [show T.size + 1 - T.size = 1 by omega]
      unfold nextDot nextDot dotAt
      simp
    rw [e]
    refine ⟨steps 1 (forSearch code1 T 0 T.size T.size must), ⟨1, by omega, rfl⟩, ?_⟩
    show End1 T none (steps 1 (if (decide (T.size > T.size) || decide (T.size - T.size < 1)) = true then _ else _))
    rw [if_pos (by simp)]
    exact ⟨_, rfl, rfl⟩
end Mine
end
section
open PySem PySem.Sre
set_option maxRecDepth 100000
namespace Mine

def st2 (T : Array Nat) (s pc pos h : Nat) (om : Bool) (frames : List Sre.Frame) (weight : Nat) (answer : Option Bool) (seen : Seen) : M :=
  { code := code2, text := T, lim := T.size, start := s, lastStart := T.size, pc, pos, handed := h, outermost := om, marks := #[], frames, weight, answer, seen }
def fr0 (s : Nat) : Sre.Frame := { wait := .nextStart, pc := 10, pos := s, outermost := true }
def frB (alt s : Nat) : Sre.Frame := { wait := .nextBranch, pc := alt, pos := s, outermost := true }
def frL (s : Nat) : Sre.Frame := { wait := .lookNot, pc := 26, pos := s, outermost := true }

def isAt2 (T : Array Nat) (s c : Nat) : Bool := decide (s < T.size) && T.getD s 0 == c

theorem lit2 (T : Array Nat) (s pc pos h : Nat) (om : Bool) (frames : List Sre.Frame) (weight : Nat) (seen : Seen) (c : Nat)
    (e : ∀ seen, (st2 T s pc pos h om frames weight none seen).step = if pos ≥ T.size then (st2 T s pc pos h om frames weight none (seen.add 16)).say false else
      match (Except.ok (T.getD pos 0 == c, seen.add 16) : Except String (Bool × Seen)) with
      | .error why => (st2 T s pc pos h om frames weight none (seen.add 16)).stick why
      | .ok (false, seen) => (st2 T s pc pos h om frames weight none seen).say false
      | .ok (true, seen) => st2 T s (pc + 2) (pos + 1) h om frames weight none seen) :
    (st2 T s pc pos h om frames weight none seen).step = if isAt2 T pos c = true then st2 T s (pc + 2) (pos + 1) h om frames weight none (seen.add 16) else st2 T s pc pos h om frames weight (some false) (seen.add 16) := by
  rw [e]
  unfold isAt2
  by_cases h1 : pos ≥ T.size
  · rw [if_pos h1, decide_eq_false (Nat.not_lt.mpr h1), Bool.false_and, if_neg Bool.false_ne_true]; rfl
  · rw [if_neg h1, decide_eq_true (Nat.lt_of_not_le h1), Bool.true_and]
    cases T.getD pos 0 == c with
    | true => rw [if_pos rfl]
    | false => rw [if_neg Bool.false_ne_true]; rfl

section
variable (T : Array Nat) (s : Nat) (h : Nat)
abbrev S0 (seen : Seen) : M := st2 T s 10 s h true [fr0 s] 1 none seen

theorem lit12 (pos weight : Nat) (frames seen) : (st2 T s 12 pos h true frames weight none seen).step = if isAt2 T pos 13 = true then st2 T s (12 + 2) (pos + 1) h true frames weight none (seen.add 16) else st2 T s 12 pos h true frames weight (some false) (seen.add 16) := lit2 T s 12 pos h true frames weight seen 13 fun _ => rfl
theorem lit14 (pos weight : Nat) (frames seen) : (st2 T s 14 pos h true frames weight none seen).step = if isAt2 T pos 10 = true then st2 T s (14 + 2) (pos + 1) h true frames weight none (seen.add 16) else st2 T s 14 pos h true frames weight (some false) (seen.add 16) := lit2 T s 14 pos h true frames weight seen 10 fun _ => rfl
theorem lit19 (pos weight : Nat) (frames seen) : (st2 T s 19 pos h true frames weight none seen).step = if isAt2 T pos 10 = true then st2 T s (19 + 2) (pos + 1) h true frames weight none (seen.add 16) else st2 T s 19 pos h true frames weight (some false) (seen.add 16) := lit2 T s 19 pos h true frames weight seen 10 fun _ => rfl
theorem lit24 (pos weight : Nat) (frames seen) : (st2 T s 24 pos h true frames weight none seen).step = if isAt2 T pos 13 = true then st2 T s (24 + 2) (pos + 1) h true frames weight none (seen.add 16) else st2 T s 24 pos h true frames weight (some false) (seen.add 16) := lit2 T s 24 pos h true frames weight seen 13 fun _ => rfl
theorem lit29 (pos weight : Nat) (frames seen) : (st2 T s 29 pos h false frames weight none seen).step = if isAt2 T pos 10 = true then st2 T s (29 + 2) (pos + 1) h false frames weight none (seen.add 16) else st2 T s 29 pos h false frames weight (some false) (seen.add 16) := lit2 T s 29 pos h false frames weight seen 10 fun _ => rfl

theorem br10 (seen) : (S0 T s h seen).step = st2 T s 12 s s true [frB 11 s, fr0 s] 2 none (seen.add 7) := rfl
theorem br11 (pc pos : Nat) (seen) : (st2 T s pc pos h true [frB 11 s, fr0 s] 2 (some false) seen).step = st2 T s 19 s s true [frB 18 s, fr0 s] 2 none seen := rfl
theorem br18 (pc pos : Nat) (seen) : (st2 T s pc pos h true [frB 18 s, fr0 s] 2 (some false) seen).step = st2 T s 24 s s true [frB 23 s, fr0 s] 2 none seen := rfl
theorem as26 (pos : Nat) (seen) : (st2 T s 26 pos h true [frB 23 s, fr0 s] 2 none seen).step = st2 T s 29 pos pos false [frL pos, frB 23 s, fr0 s] 3 none (seen.add 5) := rfl
theorem lk26 (pc pos p : Nat) (seen) : (st2 T s pc pos h false [frL p, frB 23 s, fr0 s] 3 (some false) seen).step = st2 T s 32 p h true [frB 23 s, fr0 s] 2 none seen := rfl
/-- from the jump to the end -/
theorem end2 (alt pc pos : Nat) (seen) (e : (st2 T s pc pos h true [frB alt s, fr0 s] 2 none seen).step = st2 T s 35 pos h true [frB alt s, fr0 s] 2 none (seen.add 15)) :
    End1 T (some (s, pos)) (steps 5 (st2 T s pc pos h true [frB alt s, fr0 s] 2 none seen)) := by
  show End1 T (some (s, pos)) (steps 4 ((st2 T s pc pos h true [frB alt s, fr0 s] 2 none seen).step))
  rw [e]
  exact ⟨⟨_, rfl, rfl⟩, rfl, rfl⟩

theorem at2_lf (seen : Seen) (hc : isAt2 T s 10 = true) : End1 T (some (s, s + 1)) (steps 9 (S0 T s h seen)) := by
  have h13 : isAt2 T s 13 = false := by
    unfold isAt2 at hc ⊢
    rw [Bool.and_eq_true, beq_iff_eq] at hc
    rw [hc.2]; simp
  show End1 T (some (s, s + 1)) (steps 5 ((S0 T s h seen).step.step.step.step))
  rw [br10, lit12, h13, if_neg Bool.false_ne_true, br11, lit19, hc, if_pos rfl]
  exact end2 T s s 18 21 (s + 1) _ rfl
theorem at2_crlf (seen : Seen) (hc : isAt2 T s 13 = true) (hn : isAt2 T (s + 1) 10 = true) : End1 T (some (s, s + 2)) (steps 8 (S0 T s h seen)) := by
  show End1 T (some (s, s + 2)) (steps 5 ((S0 T s h seen).step.step.step))
  rw [br10, lit12, hc, if_pos rfl, lit14, hn, if_pos rfl]
  exact end2 T s s 11 16 (s + 2) _ rfl
theorem at2_cr (seen : Seen) (hc : isAt2 T s 13 = true) (hn : isAt2 T (s + 1) 10 = false) : End1 T (some (s, s + 1)) (steps 15 (S0 T s h seen)) := by
  have h10 : isAt2 T s 10 = false := by
    unfold isAt2 at hc ⊢
    rw [Bool.and_eq_true, beq_iff_eq] at hc
    rw [hc.2]; simp
  show End1 T (some (s, s + 1)) (steps 5 ((S0 T s h seen).step.step.step.step.step.step.step.step.step.step))
  rw [br10, lit12, hc, if_pos rfl, lit14, hn, if_neg Bool.false_ne_true, br11, lit19, h10, if_neg Bool.false_ne_true, br18, lit24, hc, if_pos rfl, as26, lit29, hn, if_neg Bool.false_ne_true, lk26]
  exact end2 T s (s + 1) 23 32 (s + 1) _ rfl
end

/-- the first line end from s on, within n places -/
def nextNl (T : Array Nat) : Nat → Nat → Option Nat
  | 0, _ => none
  | n + 1, s => if isAt2 T s 10 || isAt2 T s 13 then some s else nextNl T n (s + 1)

theorem inSet2 (c : Nat) (seen : Seen) : ∃ seen', inSet code2 c 36 5 true seen = .ok (c == 10 || c == 13, seen') := by
  show ∃ seen', (if (c == 10) = true then (Except.ok (true, seen.add 16) : Except String (Bool × Seen)) else if (c == 13) = true then .ok (true, (seen.add 16).add 16) else .ok (false, ((seen.add 16).add 16).add 0)) = _
  cases c == 10 with
  | true => exact ⟨_, rfl⟩
  | false =>
    cases c == 13 with
    | true => exact ⟨_, rfl⟩
    | false => exact ⟨_, rfl⟩

theorem admitted2 (m : M) (hc : m.code = code2) (hl : m.lim = m.text.size) : ∀ (n s : Nat) (seen : Seen), ∃ seen', M.admitted m n s seen = .ok (nextNl m.text n s, seen')
  | 0, _, seen => ⟨seen, rfl⟩
  | n + 1, s, seen => by
    unfold M.admitted nextNl isAt2
    rw [hl]
    by_cases h : s ≥ m.text.size
    · rw [if_pos h]
      obtain ⟨seen', e⟩ : ∃ seen', (Except.ok (none, seen) : Except String (Option Nat × Seen)) = .ok (none, seen') := ⟨_, rfl⟩
      refine ⟨seen, ?_⟩
      rw [decide_eq_false (Nat.not_lt.mpr h), Bool.false_and, Bool.false_and, Bool.or_false, if_neg Bool.false_ne_true]
      have z : ∀ n s, m.text.size ≤ s → nextNl m.text n s = none := by
        intro n
        induction n with
        | zero => intro s _; rfl
        | succ n ih =>
          intro s hs
          unfold nextNl isAt2
          rw [decide_eq_false (Nat.not_lt.mpr hs), Bool.false_and, Bool.false_and, Bool.or_false, if_neg Bool.false_ne_true]
          exact ih _ (Nat.le_succ_of_le hs)
      rw [z n (s + 1) (Nat.le_succ_of_le h)]
    · rw [if_neg h]
      obtain ⟨seen', e⟩ := inSet2 (m.text.getD s 0) seen
      rw [hc, show code2.size = 36 from rfl, e]
      rw [decide_eq_true (Nat.lt_of_not_le h), Bool.true_and, Bool.true_and]
      cases hb : (m.text.getD s 0 == 10 || m.text.getD s 0 == 13) with
      | true => exact ⟨seen', rfl⟩
      | false =>
        rw [if_neg Bool.false_ne_true]
        exact admitted2 m hc hl n (s + 1) seen'

/-- the length of the line end at s -/
def nlEnd (T : Array Nat) (s : Nat) : Nat := if isAt2 T s 13 && isAt2 T (s + 1) 10 then s + 2 else s + 1

theorem nextNl_at (T : Array Nat) : ∀ (n s i : Nat), nextNl T n s = some i → (isAt2 T i 10 || isAt2 T i 13) = true
  | 0, _, _, h => nomatch h
  | n + 1, s, i, h => by
    unfold nextNl at h
    split at h
    · cases h; assumption
    · exact nextNl_at T n (s + 1) i h

theorem search2 (T : Array Nat) (p : Nat) (must : Bool) (hp : p ≤ T.size) : ∃ m', Comes 20 (forSearch code2 T 0 p T.size must) m' ∧ End1 T ((nextNl T (T.size + 1 - p) p).map fun i => (i, nlEnd T i)) m' := by
  by_cases hlt : p < T.size
  · have e : forSearch code2 T 0 p T.size must = M.attemptFrom { code := code2, text := T, lim := T.size, start := p, lastStart := T.size, pc := 10, pos := p, handed := p, marks := #[], mustAdvance := must, seen := ({} : Seen).add 14 } p true := by
      show (if (decide (p > T.size) || decide (T.size - p < 1)) = true then _ else _) = _
      rw [if_neg (by simp; omega)]
      rfl
    rw [e]
    obtain ⟨seen', ea⟩ := admitted2 { code := code2, text := T, lim := T.size, start := p, lastStart := T.size, pc := 10, pos := p, handed := p, marks := #[], mustAdvance := must, seen := ({} : Seen).add 14 } rfl rfl (T.size + 1 - p) p (({} : Seen).add 14)
    dsimp only at ea
    unfold M.attemptFrom
    have hf : M.hasFirstSet { code := code2, text := T, lim := T.size, start := p, lastStart := T.size, pc := 10, pos := p, handed := p, marks := #[], mustAdvance := must, seen := ({} : Seen).add 14 } = true := rfl
    rw [hf, if_neg (by decide)]
    dsimp only
    rw [ea]
    cases hn : nextNl T (T.size + 1 - p) p with
    | none => exact ⟨_, ⟨1, by decide, rfl⟩, _, rfl, rfl⟩
    | some i =>
      have hi := nextNl_at T _ _ _ hn
      show ∃ m', Comes 20 (S0 T i i seen') m' ∧ End1 T (some (i, nlEnd T i)) m'
      unfold nlEnd
      cases h10 : isAt2 T i 10 with
      | true =>
        have h13 : isAt2 T i 13 = false := by
          unfold isAt2 at h10 ⊢
          rw [Bool.and_eq_true, beq_iff_eq] at h10
          rw [h10.2]; simp
        rw [h13, Bool.false_and, if_neg Bool.false_ne_true]
        exact ⟨_, ⟨9, by decide, rfl⟩, at2_lf T i i seen' h10⟩
      | false =>
        rw [h10, Bool.false_or] at hi
        rw [hi, Bool.true_and]
        cases hnx : isAt2 T (i + 1) 10 with
        | true => rw [if_pos rfl]; exact ⟨_, ⟨8, by decide, rfl⟩, at2_crlf T i i seen' hi hnx⟩
        | false => rw [if_neg Bool.false_ne_true]; exact ⟨_, ⟨15, by decide, rfl⟩, at2_cr T i i seen' hi hnx⟩
  · have e0 : p = T.size := by omega
    subst e0
    have e : (nextNl T (T.size + 1 - T.size) T.size) = none := by
      rw [show T.size + 1 - T.size = 1 by omega]
      unfold nextNl nextNl isAt2
      simp
    rw [e]
    refine ⟨steps 1 (forSearch code2 T 0 T.size T.size must), ⟨1, by omega, rfl⟩, ?_⟩
    show End1 T none (steps 1 (if (decide (T.size > T.size) || decide (T.size - T.size < 1)) = true then _ else _))
    rw [if_pos (by simp)]
    exact ⟨_, rfl, rfl⟩
end Mine
end
section
open PySem
set_option maxRecDepth 100000
namespace Mine

theorem plainAttrs_re : PlainAttrs "re.Pattern" :=
  ⟨⟨"object.__getattribute__", by rw [typeLookup_type, builtinLookup_eq_fast]; kernel_rfl, by decide +kernel⟩, by rw [typeLookup_type, builtinLookup_eq_fast]; kernel_rfl⟩
theorem slot_re_sub : Slot "re.Pattern" "sub" "re.Pattern.sub" :=
  .of (owner := "re.Pattern") (n := "sub") (by rw [typeLookup_type, builtinLookup_eq_fast]; kernel_rfl) (by decide +kernel) (by decide +kernel) (by decide +kernel)
    (by first | exact .inl (by decide +kernel) | exact .inr (by decide +kernel)) (by rw [isSubtype_type]; kernel_rfl)
theorem type_re_sub : typeOf (.builtin "re.Pattern.sub") = pure (.type "method_descriptor") := by show builtinType _ = _; rw [builtinType_eq_fast]; kernel_rfl
theorem entry_re_sub : entryFor table "re.Pattern.sub" = some Builtin.«re.Pattern.sub» := entryFor_of_tree (by kernel_rfl)
theorem entry_re_loop : entryFor table "re.Pattern.sub.loop" = some Builtin.«re.Pattern.sub.loop» := entryFor_of_tree (by kernel_rfl)
theorem quiet_re_loop (args : Args) : (Code.builtin "re.Pattern.sub.loop" args).quiet = true := by
  show Code.quiet _ = true
  kernel_rfl
theorem owner_re : Manifest.owners.lookup (String.ofList ['n', 'r', 'e', 't', 't', 'a', 'P', '.', 'e', 'r'].reverse) = some Manifest.sig_re_Pattern := by kernel_rfl
theorem args_re_sub (a b c : Value) : argsOk "re.Pattern.sub" ⟨[a, b, c], []⟩ := by
  unfold argsOk; rw [signature?_of (id := "re.Pattern.sub") (n := ['b', 'u', 's']) (o := ['n', 'r', 'e', 't', 't', 'a', 'P', '.', 'e', 'r']) (by kernel_rfl) owner_re]; kernel_rfl
theorem nocall_str : typeLookup (.type "str") "__call__" = pure none := by rw [typeLookup_type, builtinLookup_eq_fast]; kernel_rfl
end Mine
end
section
open PySem PySem.Sre PySem.W PyProof.Rows PySem.Calls
open PySem.Builtin.Re
set_option maxRecDepth 100000
namespace Mine

/-- a compiled pattern of texts, without groups -/
def PatAt (h : Heap) (p : Addr) (code : Array Nat) : Prop :=
  ∃ pv fl tp sl1 sl2 n, h.get? p = some { cls := .type "re.Pattern", dict := none, data := .fields #[pv, fl, .int 0 0, .none, .none, .ref tp, .int 0 0], slots := sl1 } ∧ h.get? tp = some { cls := .type "tuple", dict := none, data := .seq (code.toList.map fun (n : Nat) => Value.int (n : Int) 0).toArray n, slots := sl2 }
theorem PatAt.at {h h' : Heap} {p : Addr} {code : Array Nat} (x : PatAt h p code) (k : Kept h h') : PatAt h' p code := by
  obtain ⟨pv, fl, tp, sl1, sl2, n, a, b⟩ := x
  exact ⟨pv, fl, tp, sl1, sl2, n, k _ _ a, k _ _ b⟩

section
variable {prog : Program} {w : World} {A : Around} {E : Value → Shared → Prop} {s : Shared}

theorem code_back (code : Array Nat) : (((code.toList.map fun (n : Nat) => Value.int (n : Int) 0).toArray.map reRawOf).map (·.toNat)) = code := by
  rw [List.map_toArray, List.map_toArray, List.map_map, List.map_map]
  have : (((fun x : Int => x.toNat) ∘ reRawOf) ∘ fun n : Nat => Value.int (n : Int) 0) = id := by funext n; simp [reRawOf]
  rw [this, List.map_id]

theorem whole_ok {p : Addr} {code : Array Nat} {x : Str} {t : Tok} {Q : ReTarget → Shared → Prop} (hp : PatAt s.heap p code)
    (h : Q { pattern := .ref p, string := .str x t, code, text := x.cps, kind := 0, groups := 0, pos := 0, lim := x.cps.size } s) :
    wpAny (model prog w) A (reWholeTarget (.ref p) (.str x t)) Q E s := by
  obtain ⟨pv, fl, tp, sl1, sl2, n, hp1, hp2⟩ := hp
  unfold reWholeTarget
  refine wpAny_bind ?_
  show wpAny _ _ (load p >>= _) _ _ _
  refine wpAny_bind (wpAny_load hp1 (wpAny_pure ?_))
  refine wpAny_bind ?_
  show wpAny _ _ (pure (x.cps, 0)) _ _ _
  refine wpAny_pure ?_
  dsimp only
  show wpAny _ _ (reNoCollectionInside (.str x t) 0 >>= _) _ _ _
  refine wpAny_bind ?_
  show wpAny _ _ (pure ()) _ _ _
  refine wpAny_pure ?_
  refine wpAny_bind ?_
  show wpAny _ _ (reRawItems (.ref tp)) _ _ _
  unfold reRawItems
  refine wpAny_bind ?_
  show wpAny _ _ (load tp >>= _) _ _ _
  refine wpAny_bind (wpAny_load hp2 (wpAny_pure (wpAny_pure (wpAny_pure ?_))))
  show Q { pattern := .ref p, string := .str x t, code := (((code.toList.map fun (n : Nat) => Value.int (n : Int) 0).toArray.map reRawOf).map (·.toNat)), text := x.cps, kind := 0, groups := 0, pos := 0, lim := x.cps.size } s
  rw [code_back]
  exact h

theorem drive_ok {Q : M → Shared → Prop} : ∀ (turns k : Nat) (m : M), k ≤ 4 * turns → (steps k m).outcome.isSome = true → Q (steps k m) s → wpAny (model prog w) A (reDrive (turns + 1) m) Q E s
  | 0, k, m, hk, ho, h => by
    have e : k = 0 := by omega
    subst e
    unfold reDrive
    dsimp only
    rw [runFor_steps]
    have ho' : m.outcome.isSome = true := ho
    have : steps reTurnSteps m = m := steps_done ho' _
    rw [this, if_pos ho']
    exact wpAny_pure h
  | turns + 1, k, m, hk, ho, h => by
    unfold reDrive
    dsimp only
    rw [runFor_steps]
    by_cases h4 : (steps reTurnSteps m).outcome.isSome = true
    · rw [if_pos h4]
      refine wpAny_pure ?_
      have e : steps reTurnSteps m = steps k m := by
        rcases Nat.le_total k 4 with hle | hle
        · obtain ⟨j, hj⟩ := Nat.le.dest hle
          show steps 4 m = _
          rw [← hj, steps_add, steps_done ho]
        · obtain ⟨j, hj⟩ := Nat.le.dest hle
          rw [← hj, steps_add]
          exact (steps_done h4 j).symm
      rw [e]; exact h
    · rw [if_neg h4]
      refine wpAny_bind (wpAny_rule ?_)
      have hk4 : 4 ≤ k := by
        rcases Nat.lt_or_ge k 4 with hlt | hge
        · obtain ⟨j, hj⟩ := Nat.le.dest (Nat.le_of_lt hlt)
          exfalso; apply h4
          show (steps 4 m).outcome.isSome = true
          rw [← hj, steps_add, steps_done ho]; exact ho
        · exact hge
      obtain ⟨j, hj⟩ := Nat.le.dest hk4
      have e : steps k m = steps j (steps reTurnSteps m) := by rw [← hj, steps_add]; rfl
      rw [e] at ho h
      exact drive_ok turns j _ (by omega) ho h

theorem forIn_rules (sn : Sre.Seen) : ∀ (l : List Nat) {Q : PUnit → Shared → Prop}, Q ⟨⟩ s → wpAny (model prog w) A (forIn l PUnit.unit fun i _ => do
    if sn.has i = true then rule (Sre.names.getD i "") 
    pure (ForInStep.yield PUnit.unit)) Q E s
  | [], Q, h => by rw [List.forIn_nil]; exact wpAny_pure h
  | i :: l, Q, h => by
    rw [List.forIn_cons]
    refine wpAny_bind ?_
    show wpAny _ _ (if sn.has i = true then (rule _ >>= fun _ => pure (ForInStep.yield PUnit.unit)) else pure (ForInStep.yield PUnit.unit)) _ _ _
    by_cases hi : sn.has i = true
    · rw [if_pos hi]
      exact wpAny_bind (wpAny_rule (wpAny_pure (forIn_rules sn l h)))
    · rw [if_neg hi]
      exact wpAny_pure (forIn_rules sn l h)

theorem found_ok {m m' : M} {T : Array Nat} {r : Option (Nat × Nat)} {n : Nat} {Q : Option M → Shared → Prop} (hc : Comes n m m') (hn : n ≤ 2 ^ 60) (he : End1 T r m')
    (hyes : ∀ i j, r = some (i, j) → m'.start = i → m'.handed = j → Q (some m') s) (hno : r = none → Q none s) :
    wpAny (model prog w) A (reRunToEnd m) Q E s := by
  obtain ⟨k, hk, rfl⟩ := hc
  unfold reRunToEnd
  have ho : (steps k m).outcome.isSome = true := by
    cases r with
    | none => obtain ⟨x, e, _⟩ := he; rw [e]; rfl
    | some q => obtain ⟨⟨x, e, _⟩, _⟩ := he; rw [e]; rfl
  refine wpAny_bind (drive_ok (2 ^ 64 - 1) k m (by omega) ho ?_)
  refine wpAny_bind (forIn_rules _ _ ?_)
  cases r with
  | none =>
    obtain ⟨x, e, rfl⟩ := he
    rw [e]
    exact wpAny_pure (hno rfl)
  | some q =>
    obtain ⟨⟨x, e, rfl⟩, a, b⟩ := he
    rw [e]
    exact wpAny_pure (hyes _ _ rfl a b)
end
end Mine
end
section
open PySem PySem.Sre PySem.W PyProof.Rows PySem.Calls
open PySem.Builtin.Re
set_option maxRecDepth 100000
namespace Mine

/-- the pieces that a substitution lays down -/
def outs (T : Array Nat) (find : Nat → Option (Nat × Nat)) (repl : List Nat) : Nat → Nat → List (List Nat)
  | 0, _ => []
  | n + 1, pos => match find pos with
    | none => if pos < T.size then [(T.extract pos T.size).toList] else []
    | some (i, j) => (if pos < i then [(T.extract pos i).toList] else []) ++ repl :: outs T find repl n j

section
variable {prog : Program} {w : World} {A : Around} {E : Value → Shared → Prop} {s : Shared}

theorem push_ok {D : Addr} {ys : List Value} {k : Nat} {v : Value} {Q : Unit → Shared → Prop} (hz : ys.length ≤ 16000000) (hD : s.heap.get? D = some (W.listOf ys.toArray k))
    (h : ∀ h' k', h'.get? D = some (W.listOf (ys ++ [v]).toArray k') → Heap.SameBut D s.heap h' → Q () { s with heap := h' }) :
    wpAny (model prog w) A (updateSeq D (·.push v)) Q E s := by
  refine wpAny_updateSeq hD rfl (h _ (k + 1) ?_ (Heap.SameBut.update ..)) (by rw [List.size_toArray]; exact Nat.le_trans hz (by decide)) (by rw [Array.size_push, List.size_toArray]; exact Nat.le_trans (Nat.succ_le_succ hz) (by decide))
  rw [Heap.get?_update_self _ hD rfl]
  simp [Obj.mapSeq, W.listOf]

theorem loop_ok {p D : Addr} {code T : Array Nat} {t u : Tok} {repl : List Nat} {find : Nat → Option (Nat × Nat)} {R : Result → Shared → Prop}
    (hT : T.size ≤ 1000000) (hrl : repl.length ≤ 10)
    (hsearch : ∀ q must, q ≤ T.size → ∃ n m', n ≤ 2 ^ 60 ∧ Comes n (forSearch code T 0 q T.size must) m' ∧ End1 T (find q) m')
    (hfind : ∀ q i j, find q = some (i, j) → q ≤ i ∧ i < j ∧ j ≤ T.size) :
    ∀ (fuel pos : Nat) (must : Bool) (n : Int) (s : Shared) (ys : List Value) (xs : List (List Nat)) (k : Nat), T.size < pos + fuel → pos ≤ T.size → s.heap.get? D = some (W.listOf ys.toArray k) →
      (∀ h', (∀ b o, b ≠ D → s.heap.get? b = some o → h'.get? b = some o) → PatAt h' p code) →
      StrsAt ys xs → ys.length + 2 * (T.size - pos) ≤ 8000000 → xs.flatten.length + 11 * (T.size - pos) ≤ 16000000 →
      (∀ t' h' tk', (∀ b o, b ≠ D → s.heap.get? b = some o → h'.get? b = some o) → R (.ok (.ret (.str (ofL (xs ++ outs T find repl fuel pos).flatten) t'))) { s with heap := h', toks := tk' }) →
      codeAny (model prog w) A (.builtin "re.Pattern.sub.loop" ⟨[.ref p, .str ⟨T⟩ t, .str (ofL repl) u, rawInt 0, rawInt 0, rawInt n, rawInt pos, rawInt pos, .bool must, .ref D, .bool false], []⟩) R s
  | 0, pos, must, n, s, ys, xs, k, hfu, hpos, hD, hp, hys, hyl, hlen, hR => absurd hfu (by omega)
  | fuel + 1, pos, must, n, s, ys, xs, k, hfu, hpos, hD, hp, hys, hyl, hlen, hR => by
    refine codeAny_builtin entry_re_loop ?_
    unfold Builtin.«re.Pattern.sub.loop»
    dsimp only [rawInt]
    refine wpAny_bind (whole_ok (hp _ fun b o _ e => e) ?_)
    dsimp only
    rw [if_pos (by decide)]
    refine wpAny_bind (m := reLiteralCannotBeTurned _) ?_
    show wpAny _ _ (pure ()) _ _ _
    refine wpAny_pure ?_
    simp only [Int.toNat_natCast]
    obtain ⟨ns, m', hns, hc, he⟩ := hsearch pos must hpos
    refine wpAny_bind ?_
    rw [if_neg (by simp)]
    unfold reNextFound
    refine found_ok hc hns he (fun i j hij hst hha => ?_) (fun hno => ?_)
    · obtain ⟨h1, h2, h3⟩ := hfind pos i j hij
      dsimp only
      rw [hst, hha]
      have hout : outs T find repl (fuel + 1) pos = (if pos < i then [(T.extract pos i).toList] else []) ++ repl :: outs T find repl fuel j := by
        show (match find pos with | none => _ | some (i, j) => _) = _
        rw [hij]
      have hne : (j == i) = false := by simp; omega
      -- behind the piece ahead of the match
      have rest : ∀ (s₁ : Shared) (ys₁ : List Value) (xs₁ : List (List Nat)) (k₁ : Nat), (∃ h tk, s₁ = { s with heap := h, toks := tk } ∧ (∀ b o, b ≠ D → s.heap.get? b = some o → h.get? b = some o)) → s₁.heap.get? D = some (W.listOf ys₁.toArray k₁) →
          StrsAt ys₁ xs₁ → ys₁.length ≤ ys.length + 1 → xs₁ = xs ++ (if pos < i then [(T.extract pos i).toList] else []) → xs₁.flatten.length ≤ xs.flatten.length + (i - pos) →
          wpAny (model prog w) (A.under (.builtin "re.Pattern.sub.loop" ⟨[.ref p, .str ⟨T⟩ t, .str (ofL repl) u, .int 0 0, .int 0 0, .int n 0, .int pos 0, .int pos 0, .bool must, .ref D, .bool false], []⟩)) (do
              updateSeq D fun x => x.push (.str (ofL repl) u)
              again (.builtin "re.Pattern.sub.loop" ⟨[.ref p, .str ⟨T⟩ t, .str (ofL repl) u, .int 0 0, .int 0 0, .int (n + 1) 0, .int j 0, .int j 0, .bool (j == i), .ref D, .bool false], []⟩))
            (fun fin s' => match fin with | .done f => R (.ok f) s' | .again c' => c'.quiet = true ∧ codeAny (model prog w) A c' R s') (fun e s' => R (.error e) s') s₁ := by
        rintro s₁ ys₁ xs₁ k₁ ⟨h₁, tk₁, rfl, keep₁⟩ hD₁ hys₁ hl₁ hx₁ hxl₁
        refine wpAny_bind (push_ok (by omega) hD₁ fun h₂ k₂ hD₂ hs₂ => ?_)
        refine wpAny_pure ⟨quiet_re_loop _, ?_⟩
        have keep₂ : ∀ b o, b ≠ D → s.heap.get? b = some o → h₂.get? b = some o := fun b o hb e => hs₂.extBut b o hb (keep₁ b o hb e)
        refine loop_ok hT hrl hsearch hfind fuel j _ (n + 1) _ (ys₁ ++ [.str (ofL repl) u]) (xs₁ ++ [repl]) k₂ (by omega) h3 hD₂ (fun h' hk => hp h' fun b o hb e => hk b o hb (keep₂ b o hb e)) (hys₁.snoc _ _) (by rw [List.length_append]; simp; omega)
          (by rw [List.flatten_append, List.length_append, show [repl].flatten.length = repl.length by simp]; omega) fun t' h' tk' hk => ?_
        have := hR t' h' tk' fun b o hb e => hk b o hb (keep₂ b o hb e)
        rw [hout, ← List.append_assoc, ← hx₁] at this
        rw [List.append_assoc]
        exact this
      by_cases hlt : pos < i
      · rw [if_pos hlt]
        refine wpAny_bind ?_
        show wpAny _ _ (mkStr ⟨T.extract pos i⟩) _ _ _
        refine wpAny_mkStr ?_ (by show (T.extract pos i).size ≤ _; rw [Array.size_extract]; refine Nat.le_trans (Nat.sub_le _ _) (Nat.le_trans (Nat.min_le_right _ _) (Nat.le_trans hT (by decide))))
        refine wpAny_bind (push_ok (by omega) hD fun h₁ k₁ hD₁ hs₁ => ?_)
        exact rest _ (ys ++ [.str (ofL (T.extract pos i).toList) s.toks]) (xs ++ [(T.extract pos i).toList]) k₁ ⟨h₁, _, rfl, fun b o hb e => hs₁.extBut b o hb e⟩ hD₁ (hys.snoc _ _) (by simp) (by rw [if_pos hlt]) (by
          rw [List.flatten_append, List.length_append, show [(T.extract pos i).toList].flatten.length = (T.extract pos i).toList.length by simp]; simp; omega)
      · rw [if_neg hlt]
        exact rest s ys xs k ⟨s.heap, s.toks, rfl, fun b o _ e => e⟩ hD hys (by omega) (by rw [if_neg hlt, List.append_nil]) (by omega)
    · have hout : outs T find repl (fuel + 1) pos = if pos < T.size then [(T.extract pos T.size).toList] else [] := by
        show (match find pos with | none => _ | some (i, j) => _) = _
        rw [hno]
      rw [hout] at hR
      dsimp only
      have rest : ∀ (s₁ : Shared) (ys₁ : List Value) (xs₁ : List (List Nat)) (k₁ : Nat) (A' : Around), (∃ h tk, s₁ = { s with heap := h, toks := tk } ∧ (∀ b o, b ≠ D → s.heap.get? b = some o → h.get? b = some o)) → s₁.heap.get? D = some (W.listOf ys₁.toArray k₁) →
          StrsAt ys₁ xs₁ → xs₁ = xs ++ (if pos < T.size then [(T.extract pos T.size).toList] else []) → xs₁.flatten.length ≤ 16000000 →
          wpAny (model prog w) A' (do
              let joiner ← reSlice T 0 0 0
              let l ← seqItems? (.ref D)
              if (l.getD #[]).isEmpty = true then do
                  let text ← pure joiner
                  if false = true then do
                      let n ← holding [text] (do newTuple [text, ← mkInt n])
                      ret n
                    else ret text
                else do
                  let text ← call (.builtin (if (0 == 0) = true then "str.join" else "bytes.join")) [joiner, .ref D]
                  if false = true then do
                      let n ← holding [text] (do newTuple [text, ← mkInt n])
                      ret n
                    else ret text)
            (fun fin s' => match fin with | .done f => R (.ok f) s' | .again c' => c'.quiet = true ∧ codeAny (model prog w) A c' R s') (fun e s' => R (.error e) s') s₁ := by
        rintro s₁ ys₁ xs₁ k₁ A' ⟨h₁, tk₁, rfl, keep₁⟩ hD₁ hys₁ hx₁ hxl
        refine wpAny_bind ?_
        show wpAny _ _ (mkStr ⟨T.extract 0 0⟩) _ _ _
        refine wpAny_mkStr ?_ (by show (T.extract 0 0).size ≤ _; rw [Array.size_extract]; omega)
        have e0 : (⟨T.extract 0 0⟩ : Str) = ofL [] := by
          show (⟨_⟩ : Str) = ⟨_⟩
          simp
        rw [e0]
        refine wpAny_bind ?_
        show wpAny _ _ (load D >>= _) _ _ _
        refine wpAny_bind (wpAny_load hD₁ (wpAny_pure ?_))
        dsimp only [Option.getD]
        cases ys₁ with
        | nil =>
          rw [if_pos (by rfl)]
          refine wpAny_bind (wpAny_pure ?_)
          rw [if_neg Bool.false_ne_true]
          refine wpAny_pure ?_
          cases hys₁
          have := hR tk₁ h₁ (tk₁ + 1) keep₁
          rw [← hx₁] at this
          exact this
        | cons y ys₁ =>
          rw [if_neg (by simp)]
          refine wpAny_bind ?_
          rw [if_pos (by decide)]
          refine join_use (t := tk₁) (D := D) (ys := y :: ys₁) ⟨_, hD₁, rfl, _, rfl⟩ hys₁ (Nat.le_trans hxl (by decide)) fun t' k' => ?_
          rw [if_neg Bool.false_ne_true]
          refine wpAny_pure ?_
          have := hR t' h₁ k' keep₁
          rw [← hx₁] at this
          exact this
      by_cases hlt : pos < T.size
      · rw [if_pos hlt]
        refine wpAny_bind ?_
        show wpAny _ _ (mkStr ⟨T.extract pos T.size⟩) _ _ _
        refine wpAny_mkStr ?_ (by show (T.extract pos T.size).size ≤ _; rw [Array.size_extract]; refine Nat.le_trans (Nat.sub_le _ _) (Nat.le_trans (Nat.min_le_right _ _) (Nat.le_trans hT (by decide))))
        refine wpAny_bind (push_ok (by omega) hD fun h₁ k₁ hD₁ hs₁ => ?_)
        exact rest _ (ys ++ [.str (ofL (T.extract pos T.size).toList) s.toks]) (xs ++ [(T.extract pos T.size).toList]) k₁ _ ⟨h₁, _, rfl, fun b o hb e => hs₁.extBut b o hb e⟩ hD₁ (hys.snoc _ _) (by rw [if_pos hlt]) (by
          rw [List.flatten_append, List.length_append, show [(T.extract pos T.size).toList].flatten.length = T.size - pos by simp]; omega)
      · rw [if_neg hlt]
        exact rest s ys xs k _ ⟨s.heap, s.toks, rfl, fun b o _ e => e⟩ hD hys (by rw [if_neg hlt, List.append_nil]) (by omega)
end
end Mine
end
section
open PySem PySem.Sre PySem.W PyProof.Rows PySem.Calls
open PySem.Builtin.Re
set_option maxRecDepth 100000
namespace Mine

theorem named_sub (a b : Value) : reNamed "re.Pattern.sub" "sub" ["repl", "string", "count"] 2 [a, b] [] = pure [some a, some b, none] := by
  kernel_rfl

section
variable {prog : Program} {w : World} {A : Around} {E : Value → Shared → Prop} {s : Shared}

theorem sub_call {p : Addr} {code T : Array Nat} {t u : Tok} {repl : List Nat} {find : Nat → Option (Nat × Nat)} {Q : Value → Shared → Prop}
    (hT : T.size ≤ 1000000) (hrl : repl.length ≤ 10) (hbs : repl.contains 92 = false)
    (hsearch : ∀ q must, q ≤ T.size → ∃ n m', n ≤ 2 ^ 60 ∧ Comes n (forSearch code T 0 q T.size must) m' ∧ End1 T (find q) m')
    (hfind : ∀ q i j, find q = some (i, j) → q ≤ i ∧ i < j ∧ j ≤ T.size) (hp : PatAt s.heap p code)
    (h : ∀ t' h' tk', Kept s.heap h' → Q (.str (ofL (outs T find repl (T.size + 1) 0).flatten) t') { s with heap := h', toks := tk' }) :
    wpAny (model prog w) A (call (.builtin "re.Pattern.sub") [.ref p, .str (ofL repl) u, .str ⟨T⟩ t]) Q E s := by
  have hTy : s.TypeIs (.ref p) "re.Pattern" := by obtain ⟨pv, fl, tp, sl1, sl2, n, a, b⟩ := hp; exact ⟨_, a, rfl⟩
  refine wpAny_call (codeAny_call_builtin slot_re_sub.plain entry_re_sub (slot_re_sub.check _ _ _ _ _ _ _ _ hTy (args_re_sub _ _ _) ?_))
  unfold Builtin.«re.Pattern.sub» reSubstitute
  dsimp only
  rw [named_sub]
  refine wpAny_bind (wpAny_pure ?_)
  dsimp only
  refine wpAny_bind (wpAny_pure ?_)
  refine wpAny_bind (wpAny_specialOf (typeIs_str _ _ _) nocall_str ?_)
  dsimp only [Option.isSome]
  rw [if_neg Bool.false_ne_true]
  refine wpAny_bind ?_
  show wpAny _ _ (pure (some (ofL repl))) _ _ _
  refine wpAny_pure ?_
  dsimp only
  refine wpAny_bind (wpAny_pure ?_)
  have hb : (!(ofL repl).cps.contains 92) = true := by
    show (!(repl.toArray).contains 92) = true
    rw [List.contains_toArray, hbs]; rfl
  rw [hb]
  rw [if_neg Bool.false_ne_true, if_pos rfl]
  refine wpAny_bind (wpAny_pure ?_)
  dsimp only
  refine wpAny_bind (wpAny_holding (whole_ok hp ?_))
  rw [if_neg (by decide)]
  refine wpAny_bind (wpAny_newList ?_)
  refine wpAny_pure ⟨quiet_re_loop _, ?_⟩
  refine loop_ok (D := s.heap.objs.size) (ys := []) (xs := []) (k := 0) hT hrl hsearch hfind (T.size + 1) 0 false 0 _ (by omega) (Nat.zero_le _) (Heap.get?_push_size _ rfl) (fun h' hk => hp.at fun b o e => hk b o (Nat.ne_of_lt (Heap.lt_size e)) (Heap.get?_push_of_some _ e)) .nil (by simp; omega) (by simp; omega) fun t' h' tk' hk => ?_
  exact h t' h' tk' fun b o e => hk b o (Nat.ne_of_lt (Heap.lt_size e)) (Heap.get?_push_of_some _ e)

/-- what the two searches find -/
def find1 (T : Array Nat) (q : Nat) : Option (Nat × Nat) := (nextDot T (T.size + 1 - q) q).map fun i => (i, i + 1)
def find2 (T : Array Nat) (q : Nat) : Option (Nat × Nat) := (nextNl T (T.size + 1 - q) q).map fun i => (i, nlEnd T i)

theorem nextDot_in (T : Array Nat) : ∀ (n q i : Nat), nextDot T n q = some i → q ≤ i ∧ i < T.size
  | 0, _, _, h => nomatch h
  | n + 1, q, i, h => by
    unfold nextDot at h
    split at h
    · rename_i hd
      cases h
      unfold dotAt at hd
      rw [Bool.and_eq_true, Bool.and_eq_true, decide_eq_true_eq] at hd
      exact ⟨Nat.le_refl _, hd.2.1⟩
    · have := nextDot_in T n (q + 1) i h
      omega
theorem nextNl_in (T : Array Nat) : ∀ (n q i : Nat), nextNl T n q = some i → q ≤ i ∧ i < T.size
  | 0, _, _, h => nomatch h
  | n + 1, q, i, h => by
    unfold nextNl at h
    split at h
    · rename_i hd
      cases h
      unfold isAt2 at hd
      rw [← Bool.and_or_distrib_left, Bool.and_eq_true, decide_eq_true_eq] at hd
      exact ⟨Nat.le_refl _, hd.1⟩
    · have := nextNl_in T n (q + 1) i h
      omega
theorem find1_in (T : Array Nat) (q i j : Nat) (h : find1 T q = some (i, j)) : q ≤ i ∧ i < j ∧ j ≤ T.size := by
  obtain ⟨a, ha, e⟩ := Option.map_eq_some_iff.mp h
  cases e
  have := nextDot_in T _ _ _ ha
  omega
theorem find2_in (T : Array Nat) (q i j : Nat) (h : find2 T q = some (i, j)) : q ≤ i ∧ i < j ∧ j ≤ T.size := by
  obtain ⟨a, ha, e⟩ := Option.map_eq_some_iff.mp h
  cases e
  have := nextNl_in T _ _ _ ha
  unfold nlEnd
  split
  · rename_i hb
    rw [Bool.and_eq_true] at hb
    have h2 := hb.2
    unfold isAt2 at h2
    rw [Bool.and_eq_true, decide_eq_true_eq] at h2
    omega
  · omega

theorem sub1 {p : Addr} {T : Array Nat} {t u : Tok} {repl : List Nat} {Q : Value → Shared → Prop} (hT : T.size ≤ 1000000) (hrl : repl.length ≤ 10) (hbs : repl.contains 92 = false) (hp : PatAt s.heap p code1)
    (h : ∀ t' h' tk', Kept s.heap h' → Q (.str (ofL (outs T (find1 T) repl (T.size + 1) 0).flatten) t') { s with heap := h', toks := tk' }) :
    wpAny (model prog w) A (call (.builtin "re.Pattern.sub") [.ref p, .str (ofL repl) u, .str ⟨T⟩ t]) Q E s :=
  sub_call hT hrl hbs (fun q must hq => by obtain ⟨m', c, e⟩ := search1 T q must hq; exact ⟨_, m', by omega, c, e⟩) (find1_in T) hp h
theorem sub2 {p : Addr} {T : Array Nat} {t u : Tok} {repl : List Nat} {Q : Value → Shared → Prop} (hT : T.size ≤ 1000000) (hrl : repl.length ≤ 10) (hbs : repl.contains 92 = false) (hp : PatAt s.heap p code2)
    (h : ∀ t' h' tk', Kept s.heap h' → Q (.str (ofL (outs T (find2 T) repl (T.size + 1) 0).flatten) t') { s with heap := h', toks := tk' }) :
    wpAny (model prog w) A (call (.builtin "re.Pattern.sub") [.ref p, .str (ofL repl) u, .str ⟨T⟩ t]) Q E s :=
  sub_call hT hrl hbs (fun q must hq => by obtain ⟨m', c, e⟩ := search2 T q must hq; exact ⟨_, m', by decide, c, e⟩) (find2_in T) hp h
end
end Mine
end
section
open PySem PySem.Sre PySem.W PyProof.Rows PySem.Calls
set_option maxRecDepth 100000
namespace Mine

def subst1 (d : List Nat) : List Nat := (outs d.toArray (find1 d.toArray) [46, 46] (d.toArray.size + 1) 0).flatten
def subst2 (d : List Nat) : List Nat := (outs d.toArray (find2 d.toArray) [13, 10] (d.toArray.size + 1) 0).flatten
/-- what quotedata makes -/
def quoted (d : List Nat) : List Nat := subst1 (subst2 d)

theorem outs_le (T : Array Nat) (find : Nat → Option (Nat × Nat)) (repl : List Nat) (hfind : ∀ q i j, find q = some (i, j) → q ≤ i ∧ i < j ∧ j ≤ T.size) :
    ∀ (n pos : Nat), pos ≤ T.size → (outs T find repl n pos).flatten.length ≤ (T.size - pos) * (1 + repl.length)
  | 0, _, _ => by simp [outs]
  | n + 1, pos, hp => by
    unfold outs
    cases e : find pos with
    | none =>
      dsimp only
      split
      · rw [show [(T.extract pos T.size).toList].flatten.length = T.size - pos by simp]
        exact Nat.le_mul_of_pos_right _ (by omega)
      · simp
    | some q =>
      obtain ⟨i, j⟩ := q
      obtain ⟨h1, h2, h3⟩ := hfind pos i j e
      have ih := outs_le T find repl hfind n j h3
      dsimp only
      rw [List.flatten_append, List.length_append, List.flatten_cons, List.length_append]
      have hh : ((if pos < i then [(T.extract pos i).toList] else [] : List (List Nat))).flatten.length ≤ i - pos := by
        split
        · simp; omega
        · simp
      have e2 : (T.size - pos) = (T.size - j) + (j - i) + (i - pos) := by omega
      rw [e2, Nat.add_mul, Nat.add_mul]
      have h4 : 1 + repl.length ≤ (j - i) * (1 + repl.length) := Nat.le_mul_of_pos_left _ (by omega)
      have h5 : i - pos ≤ (i - pos) * (1 + repl.length) := Nat.le_mul_of_pos_right _ (by omega)
      omega
theorem subst2_le (d : List Nat) : (subst2 d).length ≤ d.length * 3 := by
  have := outs_le d.toArray (find2 d.toArray) [13, 10] (find2_in _) (d.toArray.size + 1) 0 (Nat.zero_le _)
  unfold subst2
  simpa using this

section
variable {prog : Program} {w : World} {A : Around} {E : Value → Shared → Prop} {s : Shared} {g : Heap} {L : Addr} {m : Str → Option Value} {news : List (Addr × Obj)}

theorem re_method {p : Addr} {code : Array Nat} {pl : Sem Bool} {Q : Value × List Value → Shared → Prop} (P : PatAt g p code) (F : Fr g L s.heap m) (h : Q (.builtin "re.Pattern.sub", [.ref p]) s) :
    wpAny (model prog w) A (getMethod (.ref p) "sub" pl) Q E s := by
  obtain ⟨pv, fl, tp, sl1, sl2, n, a, b⟩ := P.at fun b o e => F.keep b o e
  exact getMethod_builtin ⟨_, a, rfl⟩ plainAttrs_re slot_re_sub type_re_sub (fun c e => by cases e; exact ⟨_, a, rfl⟩) h

theorem news_kept {h' : Heap} (F : Fr g L s.heap m) (N : News g L s.heap news) (hk : Kept s.heap h') : News g L h' news := fun p hp => ⟨hk _ _ (N p hp).1, (N p hp).2⟩

theorem use2 {p : Addr} {d : List Nat} {t u : Tok} {Q : Value → Shared → Prop} (P : PatAt g p code2) (F : Fr g L s.heap m) (N : News g L s.heap news) (hd : d.length ≤ 1000000)
    (h : ∀ t' h' tk', Fr g L h' m → News g L h' news → Q (.str (ofL (subst2 d)) t') { s with heap := h', toks := tk' }) :
    wpAny (model prog w) A (call (.builtin "re.Pattern.sub") [.ref p, .str (ofL [13, 10]) u, .str (ofL d) t]) Q E s :=
  sub2 (T := d.toArray) (repl := [13, 10]) (by simpa using hd) (by decide) (by decide) (P.at fun b o e => F.keep b o e) fun t' h' tk' hk => h t' h' tk' (Fr.after F hk) (news_kept F N hk)
theorem use1 {p : Addr} {d : List Nat} {t u : Tok} {Q : Value → Shared → Prop} (P : PatAt g p code1) (F : Fr g L s.heap m) (N : News g L s.heap news) (hd : d.length ≤ 1000000)
    (h : ∀ t' h' tk', Fr g L h' m → News g L h' news → Q (.str (ofL (subst1 d)) t') { s with heap := h', toks := tk' }) :
    wpAny (model prog w) A (call (.builtin "re.Pattern.sub") [.ref p, .str (ofL [46, 46]) u, .str (ofL d) t]) Q E s :=
  sub1 (T := d.toArray) (repl := [46, 46]) (by simpa using hd) (by decide) (by decide) (P.at fun b o e => F.keep b o e) fun t' h' tk' hk => h t' h' tk' (Fr.after F hk) (news_kept F N hk)
end
end Mine
end
section
open PySem PySem.W PyProof.Rows PySem.Calls
namespace Mine
set_option maxRecDepth 100000
set_option maxHeartbeats 8000000

local macro_rules | `(tactic| walk_at "no key 0") => `(tactic| skip)
local macro_rules | `(tactic| walk_at "no key 1") => `(tactic| skip)
local macro_rules | `(tactic| walk_at "no key 2") => `(tactic| skip)
local macro_rules | `(tactic| walk_at "no key 3") => `(tactic| skip)
local macro_rules | `(tactic| walk_at "no key 4") => `(tactic| skip)
local macro_rules | `(tactic| walk_at "no key 5") => `(tactic| skip)
local macro_rules | `(tactic| walk_at "no key 6") => `(tactic| skip)
local macro_rules | `(tactic| walk_at "no key 7") => `(tactic| skip)
local macro_rules | `(tactic| walk_at "no key 8") => `(tactic| skip)
local macro_rules | `(tactic| walk_at "no key 9") => `(tactic| skip)
local macro_rules | `(tactic| walk_at "getMethod ref") => `(tactic| (refine re_method (by assumption) (by assumption) ?_; (try dsimp only)))
local macro_rules | `(tactic| walk_at "call builtin:re.Pattern.sub") => `(tactic| (first
  | (refine use2 (by assumption) (by assumption) (by assumption) (by omega) ?_; intro _ _ _ _ _; (try dsimp only))
  | (refine use1 (by assumption) (by assumption) (by assumption) (by omega) ?_; intro _ _ _ _ _; (try dsimp only))))

theorem quote_ok (w : World) (mean : ExcName → Option Value) (mg mb : Str → Option Value) (A : Around) (s : Shared) (Q E : Value → Shared → Prop)
    (d : List Nat) (t : Tok)
    (X : (hd.heap_39 w.params).In s.heap) (T : Top hd.view_39 (looseW hd.view_39 [Str.ofString "insort_right", Str.ofString "bisect_right", Str.ofString "bisect_left", Str.ofString "_twin_re_1", Str.ofString "_twin_re_2"]) mean mg mb s.heap)
    (hh : A.handled = none) (hd0 : A.depth + 5 < recursionLimit) (hu : A.units + 30 < cLine)
    (hlen : d.length ≤ 1000)
    (hret : ∀ t h' tk, Kept s.heap h' → Q (.str (ofL (quoted d)) t) { s with heap := h', toks := tk }) :
    wpAny (model PySem.Challenge.rw_pg0173_02.row.prog w) A (call (.ref 89) [.str (ofL d) t]) Q E s := by
  w_top off
  obtain ⟨hA, dp, fr, gd, un⟩ := A
  obtain rfl : hA = none := hh
  dsimp only at hd0 hu
  revert X; k_fill; intro X
  have hd1 : (Around.mk none dp fr gd un).depth < recursionLimit := by dsimp only; omega
  (refine' enter ?kX ?kT ?k8 ?k6 ?k7 ?k9 ?kB ?c2 ?c3 ?c4 ?c5 ?_; (case kX => assumption); (case kT => assumption); (case k6 => k_is); (case k7 => k_is); (case k8 => assumption); (case k9 => first | exact BindsTo.of_eq rfl | exact kp_binds (by assumption) (fun _ => rfl)); (case c5 => decide); (case kB => exact locs rfl); (case c2 => exact rfl); (case c3 => exact rfl); (case c4 => exact rfl))
  intro L h1 tk1 F N
  obtain ⟨m0, F0, q0⟩ : ∃ m, Fr s.heap L h1 m ∧ has [(Str.ofString "data", .str (ofL d) t)] m := ⟨_, F, has.cons rfl has.nil⟩
  clear F
  have F1 := has.fr F0 q0
  clear F0 q0
  have P1 : PatAt s.heap 77 code1 := ⟨_, _, 76, _, _, _, X _ _ rfl, X _ _ rfl⟩
  have P2 : PatAt s.heap 82 code2 := ⟨_, _, 81, _, _, _, X _ _ rfl, X _ _ rfl⟩
  have hlen2 := subst2_le d
  iterate 21 (first | (k_unfold; (try dsimp only)) | walk1 | (dsimp only; walk1) | (leave1; (try dsimp only)) | skip)
  dsimp only [flowVal]
  exact hret _ _ _ (by assumption : Fr _ _ _ _).keep
end Mine
end
section
open PySem PySem.W PyProof.Rows PySem.Calls
namespace Mine
end Mine
end
section
open PySem PySem.W PyProof.Rows PySem.Calls
namespace Mine
set_option maxRecDepth 100000
set_option maxHeartbeats 8000000
section
variable {w : World} {mean : ExcName → Option Value} {mg mb : Str → Option Value} {A : Around} {s : Shared} {Q E : Value → Shared → Prop} {g : Heap} {L : Addr} {m : Str → Option Value} {nx : List (Addr × Obj)}
theorem lev_use {la : List Nat} {ta : Tok} {lb : List Nat} {tb : Tok} {c : Int} {tc : Tok} (F : Fr g L s.heap m) (N : News g L s.heap nx)
    (X : (hd.heap_39 w.params).In g) (T : Top hd.view_39 (looseW hd.view_39 [Str.ofString "insort_right", Str.ofString "bisect_right", Str.ofString "bisect_left", Str.ofString "_twin_re_1", Str.ofString "_twin_re_2"]) mean mg mb g)
    (hh : A.handled = none) (hd0 : A.depth + 5 < recursionLimit) (hu : A.units + 30 < cLine) (hlow : ∀ x, x ∈ la ∨ x ∈ lb → Txt.lower (ofL [x]) = ofL [x]) (hla : la.length ≤ 40) (hlb : lb.length ≤ 40)
    (hret : ∀ t h' tk, Fr g L h' m → News g L h' nx → Q (.int (levF la lb c) t) { s with heap := h', toks := tk }) :
    wpAny (model PySem.Challenge.rw_pg0173_02.row.prog w) A (call (.ref 45) [.str (ofL la) ta, .str (ofL lb) tb, .int c tc]) Q E s :=
  lev_ok w mean mg mb A s Q E la ta lb tb c tc (X.keeps F.keep) (T.keeps F.keep) hd0 hu hh hlow hla hlb fun v t h' tk hv hk => by
    subst hv
    exact hret t h' tk (Fr.after F hk) (News.keepsAll N hk)
theorem bisL_use {l : Addr} {vs : List Value} {x : Value} {lt : Nat → Bool} (F : Fr g L s.heap m) (N : News g L s.heap nx)
    (X : (hd.heap_39 w.params).In g) (T : Top hd.view_39 (looseW hd.view_39 [Str.ofString "insort_right", Str.ofString "bisect_right", Str.ofString "bisect_left", Str.ofString "_twin_re_1", Str.ofString "_twin_re_2"]) mean mg mb g)
    (hh : A.handled = none) (hd0 : A.depth + 5 < recursionLimit) (hu : A.units + 30 < cLine) (hl : s.heap.IsList l vs.toArray) (hb : vs.length ≤ 100)
    (hlt : ∀ i v, vs[i]? = some v → LtOk PySem.Challenge.rw_pg0173_02.row.prog w s.heap v x (lt i))
    (hret : ∀ t h' tk, Fr g L h' m → News g L h' nx → Q (.int (bisL lt vs.length 0 vs.length) t) { s with heap := h', toks := tk }) :
    wpAny (model PySem.Challenge.rw_pg0173_02.row.prog w) A (call (.ref 72) [.ref l, x]) Q E s :=
  bisL_ok w mean mg mb A s Q E l vs x lt (X.keeps F.keep) (T.keeps F.keep) hh hd0 hu hl hb hlt fun t h' tk hk => hret t h' tk (Fr.after F hk) (News.keepsAll N hk)
theorem bisR2_use {l : Addr} {vs : List Value} {x : Value} {lt : Nat → Bool} (F : Fr g L s.heap m) (N : News g L s.heap nx)
    (X : (hd.heap_39 w.params).In g) (T : Top hd.view_39 (looseW hd.view_39 [Str.ofString "insort_right", Str.ofString "bisect_right", Str.ofString "bisect_left", Str.ofString "_twin_re_1", Str.ofString "_twin_re_2"]) mean mg mb g)
    (hh : A.handled = none) (hd0 : A.depth + 5 < recursionLimit) (hu : A.units + 30 < cLine) (hl : s.heap.IsList l vs.toArray) (hb : vs.length ≤ 100)
    (hlt : ∀ i v, vs[i]? = some v → LtOk PySem.Challenge.rw_pg0173_02.row.prog w s.heap x v (lt i))
    (hret : ∀ t h' tk, Fr g L h' m → News g L h' nx → Q (.int (bisR lt vs.length 0 vs.length) t) { s with heap := h', toks := tk }) :
    wpAny (model PySem.Challenge.rw_pg0173_02.row.prog w) A (call (.ref 63) [.ref l, x]) Q E s :=
  bisR2_ok w mean mg mb A s Q E l vs x lt (X.keeps F.keep) (T.keeps F.keep) hh hd0 hu hl hb hlt fun t h' tk hk => hret t h' tk (Fr.after F hk) (News.keepsAll N hk)
end
end Mine
end
section
open PySem PySem.W PyProof.Rows PySem.Calls PySem.SeqAt MeetsSeq MeetsSeq2 MeetsSeq3
set_option maxRecDepth 100000
set_option maxHeartbeats 4000000
open AutoSeq1 (wpAny_loadPart')
namespace Mine
/-- lists of ints, in the order of Python -/
def ltL : List Int → List Int → Bool
  | _, [] => false
  | [], _ :: _ => true
  | a :: r, b :: t => if a = b then ltL r t else decide (a < b)

theorem ints_drop {vs : List Value} {ns : List Int} (h : IntsAre vs ns) {i : Nat} (hi : i < vs.length) : ∃ x t, vs[i]? = some (.int x t) ∧ ns.drop i = x :: ns.drop (i + 1) := by
  obtain ⟨x, t, e1, e2⟩ := ints_at h (List.getElem?_eq_getElem hi)
  refine ⟨x, t, by rw [List.getElem?_eq_getElem hi, e1], ?_⟩
  have hl : i < ns.length := by rw [← ints_len h]; exact hi
  rw [List.drop_eq_getElem_cons hl]
  have : ns[i] = x := by rw [List.getElem?_eq_getElem hl] at e2; exact Option.some.inj e2
  rw [this]

theorem lt_loopAt (l b : Addr) (xs ys : List Value) (n n2 : Nat) (dd dd2 : Option Addr) (sl sl2 : Array (Option Value)) (ns ms : List Int) (hi : IntsAre xs ns) (hj : IntsAre ys ms) (k : Nat) :
    ∀ i : Nat, xs.length - i = k → Meets (Builtin.«list.__eq__.loop» ⟨[.ref l, .ref b, rawInt i, rawInt 0], []⟩)
      (fun A R s => s.heap.get? l = some { cls := .type "list", dict := dd, data := .seq xs.toArray n, slots := sl } ∧ s.heap.get? b = some { cls := .type "list", dict := dd2, data := .seq ys.toArray n2, slots := sl2 } ∧
        i ≤ xs.length ∧ i ≤ ys.length ∧ ltL (ns.drop i) (ms.drop i) = ltL ns ms ∧ R (.ok (.ret (.bool (ltL ns ms)))) s) := by
  induction k with
  | zero =>
    intro i hk prog w A R s h
    obtain ⟨hp, g, d, tk, os⟩ := s; obtain ⟨hl, hb, hix, hiy, he, h⟩ := h
    wp_walk using wpAny_loadPart' hl, wpAny_loadPart' hb
    have hie : i = xs.length := by omega
    have hi1 : xs.toArray[((i : Nat) : Int).toNat]? = none := by simp; omega
    rw [hi1]
    wp_walk using wpAny_loadPart' hl, wpAny_loadPart' hb
    have hd : ns.drop i = [] := by rw [List.drop_eq_nil_iff, ← ints_len hi]; omega
    show R (.ok (.ret (.bool (decide (xs.toArray.size < ys.toArray.size))))) _
    have e : decide (xs.toArray.size < ys.toArray.size) = ltL ns ms := by
      rw [← he, hd]
      cases hm : ms.drop i with
      | nil =>
        rw [List.drop_eq_nil_iff, ← ints_len hj] at hm
        have : ¬ xs.toArray.size < ys.toArray.size := by simp; omega
        rw [decide_eq_false this]
        rfl
      | cons a r =>
        have h2 : i < ms.length := by
          rcases Nat.lt_or_ge i ms.length with q | q
          · exact q
          · rw [List.drop_of_length_le q] at hm; cases hm
        rw [← ints_len hj] at h2
        have : xs.toArray.size < ys.toArray.size := by simp; omega
        rw [decide_eq_true this]
        rfl
    rw [e]
    exact h
  | succ k ih =>
    intro i hk prog w A R s h
    obtain ⟨hp, g, d, tk, os⟩ := s; obtain ⟨hl, hb, hix, hiy, he, h⟩ := h
    wp_walk using wpAny_loadPart' hl, wpAny_loadPart' hb
    have hlt : i < xs.length := by omega
    obtain ⟨x, tx, ex, edx⟩ := ints_drop hi hlt
    have hi1 : xs.toArray[((i : Nat) : Int).toNat]? = some (.int x tx) := by simpa using ex
    rcases Nat.lt_or_ge i ys.length with hlt2 | hge2
    · obtain ⟨y, ty, ey, edy⟩ := ints_drop hj hlt2
      have hi2 : ys.toArray[((i : Nat) : Int).toNat]? = some (.int y ty) := by simpa using ey
      have hc : ((i : Int) + 1) = ((i + 1 : Nat) : Int) := by push_cast; rfl
      rw [hi1, hi2]
      rw [edx, edy] at he
      refine wpAny_bind (wpAny_eqBool_int ?_)
      by_cases hxy : x = y
      · subst hxy
        rw [beq_self_eq_true]
        wp_walk
        rw [hc]
        exact ⟨plainId_quiet plain_eq_loop _, codeAny_builtin entry_eq_loop (by
          rw [Around.under_plainId plain_eq_loop _]
          exact ih (i + 1) (by omega) prog w A R _ ⟨hl, hb, hlt, hlt2, by rw [← he]; simp [ltL], h⟩)⟩
      · have : (x == y) = false := by simpa using hxy
        rw [this]
        wp_walk using wpAny_loadPart' hl, wpAny_loadPart' hb
        rw [hi1, hi2]
        dsimp only
        refine wpAny_bind ?_
        refine PyProof.Rows.lt_int ?_
        refine wpAny_pure ?_
        have e : decide (x < y) = ltL ns ms := by rw [← he]; simp [ltL, hxy]
        show R (.ok (.ret (.bool (decide (x < y))))) _
        rw [e]
        exact h
    · have hi2 : ys.toArray[((i : Nat) : Int).toNat]? = none := by simp; omega
      rw [hi1, hi2]
      wp_walk using wpAny_loadPart' hl, wpAny_loadPart' hb
      have hd : ms.drop i = [] := by rw [List.drop_eq_nil_iff, ← ints_len hj]; omega
      show R (.ok (.ret (.bool (decide (xs.toArray.size < ys.toArray.size))))) _
      have e : decide (xs.toArray.size < ys.toArray.size) = ltL ns ms := by
        rw [← he, hd]
        have : ¬ xs.toArray.size < ys.toArray.size := by simp; omega
        rw [decide_eq_false this]
        cases ns.drop i <;> rfl
      rw [e]
      exact h

theorem list_ltAt (l b : Addr) (xs ys : List Value) (n n2 : Nat) (dd dd2 : Option Addr) (sl sl2 : Array (Option Value)) (ns ms : List Int) (hi : IntsAre xs ns) (hj : IntsAre ys ms) :
    Meets (Builtin.«list.__lt__» ⟨[.ref l, .ref b], []⟩)
      (fun A R s => s.heap.get? l = some { cls := .type "list", dict := dd, data := .seq xs.toArray n, slots := sl } ∧ s.heap.get? b = some { cls := .type "list", dict := dd2, data := .seq ys.toArray n2, slots := sl2 } ∧
        R (.ok (.ret (.bool (ltL ns ms)))) s) := by
  intro prog w A R s h
  obtain ⟨hp, g, d, tk, os⟩ := s; obtain ⟨hl, hb, h⟩ := h
  have f3 := AutoSeq1.sub_list_list
  wp_walk using wpAny_loadPart' hl, wpAny_loadPart' hb
  exact ⟨plainId_quiet plain_eq_loop _, codeAny_builtin entry_eq_loop (by
    rw [Around.under_plainId plain_eq_loop _]
    exact lt_loopAt l b xs ys n n2 dd dd2 sl sl2 ns ms hi hj _ 0 rfl prog w A R _ ⟨hl, hb, Nat.zero_le _, Nat.zero_le _, by simp, h⟩)⟩
section
variable {prog : Program} {w : World} {A : Around} {E : Value → Shared → Prop} {s : Shared}
theorem call_list_lt {l b : Addr} {xs ys : List Value} {ns ms : List Int} {Q : Value → Shared → Prop} (hl : s.heap.IsList l xs.toArray) (hb : s.heap.IsList b ys.toArray) (hi : IntsAre xs ns) (hj : IntsAre ys ms) (h : Q (.bool (ltL ns ms)) s) :
    wpAny (model prog w) A (call (.builtin "list.__lt__") [.ref l, .ref b]) Q E s := by
  obtain ⟨⟨cls, dd, data, sl⟩, ho, hc, n, hd⟩ := id hl
  obtain ⟨⟨cls2, dd2, data2, sl2⟩, ho2, hc2, n2, hd2⟩ := id hb
  simp only at hc hd hc2 hd2
  subst hc hd hc2 hd2
  exact call_meets F.slot_list_lt ⟨_, ho, rfl⟩ F.entry_list_lt (F.args_list_lt_2 _ _) (list_ltAt l b xs ys n n2 dd dd2 sl sl2 ns ms hi hj) ⟨ho, ho2, h⟩
theorem lt_lists {l b : Addr} {xs ys : List Value} {ns ms : List Int} {Q : Value → Shared → Prop} (hl : s.heap.IsList l xs.toArray) (hb : s.heap.IsList b ys.toArray) (hi : IntsAre xs ns) (hj : IntsAre ys ms) (hu : A.units < cLine) (h : Q (.bool (ltL ns ms)) s) :
    wpAny (model prog w) A (compareOp .Lt (.ref l) (.ref b)) Q E s := by
  obtain ⟨⟨cls, dd, data, sl⟩, ho, hc, n, hd⟩ := id hl
  obtain ⟨⟨cls2, dd2, data2, sl2⟩, ho2, hc2, n2, hd2⟩ := id hb
  simp only at hc hd hc2 hd2
  subst hc hd hc2 hd2
  exact richCompare_meets_room (op := .Lt) ⟨_, ho, rfl⟩ ⟨_, ho2, rfl⟩ F.slot_list_lt F.entry_list_lt (F.args_list_lt_2 _ _) (list_ltAt l b xs ys n n2 dd dd2 sl sl2 ns ms hi hj)
    ⟨ho, ho2, show Value.bool (ltL ns ms) ≠ Value.notImplemented ∧ Q (.bool (ltL ns ms)) s from ⟨(fun x => nomatch x), h⟩⟩ hu
theorem oneLt_lists {l b : Addr} {xs ys : List Value} {ns ms : List Int} {Q : Bool → Shared → Prop} (hl : s.heap.IsList l xs.toArray) (hb : s.heap.IsList b ys.toArray) (hi : IntsAre xs ns) (hj : IntsAre ys ms) (hu : A.units < cLine) (h : Q (ltL ns ms) s) :
    wpAny (model prog w) A (oneLt' true (.ref l) (.ref b)) Q E s := by
  rw [oneLt'_eq]
  simp only [if_true]
  refine wpAny_bind (wpAny_cRoomFor hu ?_)
  refine wpAny_bind (wpAny_callSpecialIfBound?_slot hl.typeIs F.slot_list_lt (call_list_lt hl hb hi hj ?_))
  exact wpAny_truthy_bool h
theorem ltOk_rows {h : Heap} {l b : Addr} {xs ys : List Value} {ns ms : List Int} (hl : h.IsList l xs.toArray) (hb : h.IsList b ys.toArray) (hi : IntsAre xs ns) (hj : IntsAre ys ms) : LtOk prog w h (.ref l) (.ref b) (ltL ns ms) := by
  intro A s Q E _ _ hu hk hQ
  exact lt_lists (hl.at fun o e => hk _ _ e) (hb.at fun o e => hk _ _ e) hi hj (by omega) (hQ s.heap s.toks fun _ _ e => e)
end
end Mine
end
section
open PySem PySem.W PyProof.Rows PySem.Calls
set_option maxRecDepth 100000
set_option maxHeartbeats 4000000
namespace Mine
/-- the sort's questions, answered by lt; all asked of places below n -/
def Runs {α : Type} (lt : Nat → Nat → Bool) (n : Nat) : KasT α → (α → Prop) → Prop
  | .ret a, P => P a
  | .ask i j k, P => i < n ∧ j < n ∧ Runs lt n (k (lt i j)) P
theorem Runs.mono {α : Type} {lt : Nat → Nat → Bool} {n : Nat} {P P' : α → Prop} (hp : ∀ a, P a → P' a) : ∀ {t : KasT α}, Runs lt n t P → Runs lt n t P'
  | .ret a, h => hp a h
  | .ask _ _ _, h => ⟨h.1, h.2.1, Runs.mono hp h.2.2⟩
theorem Runs.bind {α β : Type} {lt : Nat → Nat → Bool} {n : Nat} {P : β → Prop} {f : α → KasT β} : ∀ {t : KasT α}, Runs lt n t (fun a => Runs lt n (f a) P) → Runs lt n (t.bind f) P
  | .ret _, h => h
  | .ask _ _ _, h => ⟨h.1, h.2.1, Runs.bind h.2.2⟩

structure Ord (lt : Nat → Nat → Bool) : Prop where
  refl : ∀ i, lt i i = false
  trans : ∀ i j k, lt j i = false → lt k j = false → lt k i = false
  asymm : ∀ i j, lt i j = true → lt j i = false

section
variable {lt : Nat → Nat → Bool} {n : Nat}
def at0 (p : Array Nat) (k : Nat) : Nat := p.getD k 0
def Ok (n : Nat) (p : Array Nat) : Prop := p.Perm (List.range n).toArray
theorem Ok.size {p : Array Nat} (h : Ok n p) : p.size = n := by have := Array.Perm.size_eq h; simpa using this
theorem Ok.low {p : Array Nat} (h : Ok n p) {k : Nat} (hk : k < n) : at0 p k < n := by
  have hs := h.size
  have e : at0 p k = p[k]'(by omega) := by unfold at0; simp [Array.getD, hs, hk]
  rw [e]
  have hm : p[k]'(by omega) ∈ p := Array.getElem_mem _
  have := (Array.Perm.mem_iff h).mp hm
  simpa using this
theorem at0_eq {p q : Array Nat} {i j : Nat} (h : p[i]? = q[j]?) : at0 p i = at0 q j := by
  unfold at0
  rw [Array.getD_eq_getD_getElem?, Array.getD_eq_getD_getElem?, h]
theorem rev_ok {p : Array Nat} (h : Ok n p) (i j : Nat) : Ok n (kas_rev p i j) := (mirror_perm _ _ _ _).trans h
theorem bub_ok {p : Array Nat} (h : Ok n p) (i j : Nat) : Ok n (bubble p i j) := (bubble_perm _ _ _).trans h
theorem at_rev {p : Array Nat} (h : Ok n p) {i j : Nat} (hj : j ≤ n) (k : Nat) : at0 (kas_rev p i j) k = if i ≤ k ∧ k < j then at0 p (i + j - 1 - k) else at0 p k := by
  have e := getElem?_mirror_all (xs := p) (i := i) (j := j) (by rw [h.size]; exact hj) k
  split
  · rename_i hc
    rw [if_pos hc] at e
    exact at0_eq e
  · rename_i hc
    rw [if_neg hc] at e
    exact at0_eq e
theorem at_bub {p : Array Nat} (h : Ok n p) {s d : Nat} (hs : s < n) (hd : d ≤ s) (k : Nat) : at0 (bubble p s d) k = if k = s - d then at0 p s else if s - d < k ∧ k ≤ s then at0 p (k - 1) else at0 p k := by
  have e := getElem?_bubble (xs := p) (src := s) (by rw [h.size]; exact hs) d hd k
  split
  · rename_i hc
    rw [if_pos hc] at e
    exact at0_eq e
  · rename_i hc
    rw [if_neg hc] at e
    split
    · rename_i hc2
      rw [if_pos hc2] at e
      exact at0_eq e
    · rename_i hc2
      rw [if_neg hc2] at e
      exact at0_eq e
def Asc (lt : Nat → Nat → Bool) (p : Array Nat) (m : Nat) : Prop := ∀ i j, i ≤ j → j < m → lt (at0 p j) (at0 p i) = false
def Desc (lt : Nat → Nat → Bool) (p : Array Nat) (m : Nat) : Prop := ∀ i j, i ≤ j → j < m → lt (at0 p i) (at0 p j) = false
def Same (lt : Nat → Nat → Bool) (p : Array Nat) (a b : Nat) : Prop := ∀ i j, a ≤ i → i < b → a ≤ j → j < b → lt (at0 p i) (at0 p j) = false
variable (O : Ord lt)
include O
theorem Asc.one (p : Array Nat) : Asc lt p 1 := fun i j h1 h2 => by
  obtain rfl : i = 0 := by omega
  obtain rfl : j = 0 := by omega
  exact O.refl _
theorem Asc.snoc {p : Array Nat} {m : Nat} (h : Asc lt p m) (h1 : 1 ≤ m) (hl : lt (at0 p m) (at0 p (m - 1)) = false) : Asc lt p (m + 1) := fun i j hij hj => by
  by_cases e : j = m
  · subst e
    by_cases e2 : i = j
    · subst e2; exact O.refl _
    · exact O.trans _ _ _ (h i (j - 1) (by omega) (by omega)) hl
  · exact h i j hij (by omega)
theorem Desc.snoc {p : Array Nat} {m : Nat} (h : Desc lt p m) (h1 : 1 ≤ m) (hl : lt (at0 p (m - 1)) (at0 p m) = false) : Desc lt p (m + 1) := fun i j hij hj => by
  by_cases e : j = m
  · subst e
    by_cases e2 : i = j
    · subst e2; exact O.refl _
    · exact O.trans _ _ _ hl (h i (j - 1) (by omega) (by omega))
  · exact h i j hij (by omega)
omit O in
theorem Desc.rev {p : Array Nat} (ok : Ok n p) {a b m : Nat} (h : Desc lt p m) (hs : Same lt p a b) (hb : b ≤ m) (hm : m ≤ n) : Desc lt (kas_rev p a b) m := fun i j hij hj => by
  rw [at_rev ok (Nat.le_trans hb hm), at_rev ok (Nat.le_trans hb hm)]
  split <;> split
  · exact hs _ _ (by omega) (by omega) (by omega) (by omega)
  · exact h _ _ (by omega) hj
  · exact h _ _ (by omega) (by omega)
  · exact h _ _ hij hj
omit O in
theorem Desc.turn {p : Array Nat} (ok : Ok n p) {m : Nat} (h : Desc lt p m) (hm : m ≤ n) : Asc lt (kas_rev p 0 m) m := fun i j hij hj => by
  rw [at_rev ok hm, at_rev ok hm, if_pos ⟨by omega, by omega⟩, if_pos ⟨by omega, by omega⟩]
  exact h _ _ (by omega) (by omega)
theorem run_asc {p : Array Nat} (ok : Ok n p) : ∀ (f m : Nat), 1 ≤ m → m + f ≤ n → Asc lt p m → Runs lt n (kas_asc p f m) (fun m' => Asc lt p m' ∧ m ≤ m' ∧ m' ≤ m + f ∧ (m' = m + f ∨ lt (at0 p m') (at0 p (m' - 1)) = true))
  | 0, m, h1, h2, h => ⟨h, Nat.le_refl _, Nat.le_refl _, .inl rfl⟩
  | f + 1, m, h1, h2, h => by
    refine ⟨ok.low (by omega), ok.low (by omega), ?_⟩
    cases e : lt (p.getD m 0) (p.getD (m - 1) 0) with
    | true => exact ⟨h, Nat.le_refl _, by omega, .inr e⟩
    | false =>
      simp only [Bool.false_eq_true, if_false]
      refine (run_asc ok f (m + 1) (by omega) (by omega) (Asc.snoc O h h1 e)).mono fun m' q => ⟨q.1, by omega, by omega, q.2.2.2.elim (fun x => .inl (by omega)) .inr⟩
def DescEnd (lt : Nat → Nat → Bool) (n N : Nat) (r : Array Nat × Nat × Nat) : Prop := Ok n r.1 ∧ Desc lt r.1 r.2.1 ∧ r.2.2 + 1 ≤ r.2.1 ∧ r.2.1 ≤ N ∧ Same lt r.1 (r.2.1 - (r.2.2 + 1)) r.2.1
theorem run_desc {N : Nat} (hN : N ≤ n) : ∀ (f : Nat) (p : Array Nat) (m q : Nat), Ok n p → m + f = N → q + 1 ≤ m → Desc lt p m → Same lt p (m - (q + 1)) m → Runs lt n (kas_desc f p m q) (DescEnd lt n N)
  | 0, p, m, q, ok, h1, h2, h, hs => ⟨ok, h, h2, by dsimp only; omega, hs⟩
  | f + 1, p, m, q, ok, h1, h2, h, hs => by
    refine ⟨ok.low (by omega), ok.low (by omega), ?_⟩
    cases e : lt (p.getD m 0) (p.getD (m - 1) 0) with
    | true =>
      have e' : lt (at0 p m) (at0 p (m - 1)) = true := e
      simp only [if_true]
      have one : ∀ p' : Array Nat, Same lt p' (m + 1 - (0 + 1)) (m + 1) := fun p' i j a1 a2 a3 a4 => by
        obtain rfl : i = m := by omega
        obtain rfl : j = i := by omega
        exact O.refl _
      by_cases hq : q > 0
      · rw [if_pos hq]
        have ok' := rev_ok ok (m - (q + 1)) m
        have hd' := Desc.rev ok h hs (Nat.le_refl m) (by omega)
        refine run_desc hN f _ (m + 1) 0 ok' (by omega) (by omega) (Desc.snoc O hd' (by omega) ?_) (one _)
        rw [at_rev ok (by omega), at_rev ok (by omega), if_pos ⟨by omega, by omega⟩, if_neg (by omega)]
        refine O.trans _ (at0 p (m - 1)) _ (O.asymm _ _ e') ?_
        exact hs _ _ (by omega) (by omega) (by omega) (by omega)
      · rw [if_neg hq]
        exact run_desc hN f p (m + 1) 0 ok (by omega) (by omega) (Desc.snoc O h (by omega) (O.asymm _ _ e')) (one _)
    | false =>
      have e' : lt (at0 p m) (at0 p (m - 1)) = false := e
      simp only [Bool.false_eq_true, if_false]
      refine ⟨ok.low (by omega), ok.low (by omega), ?_⟩
      cases e2 : lt (p.getD (m - 1) 0) (p.getD m 0) with
      | true => exact ⟨ok, h, h2, by dsimp only; omega, hs⟩
      | false =>
        have e2' : lt (at0 p (m - 1)) (at0 p m) = false := e2
        simp only [Bool.false_eq_true, if_false]
        refine run_desc hN f p (m + 1) (q + 1) ok (by omega) (by omega) (Desc.snoc O h (by omega) e2') fun i j a1 a2 a3 a4 => ?_
        have up : ∀ i, m - (q + 1) ≤ i → i < m → lt (at0 p m) (at0 p i) = false ∧ lt (at0 p i) (at0 p m) = false := fun i b1 b2 =>
          ⟨O.trans _ _ _ (hs (m - 1) i (by omega) (by omega) b1 b2) e', O.trans _ _ _ e2' (hs i (m - 1) b1 b2 (by omega) (by omega))⟩
        by_cases c1 : i = m
        · by_cases c2 : j = m
          · subst c1; subst c2; exact O.refl _
          · subst c1; exact (up j (by omega) (by omega)).1
        · by_cases c2 : j = m
          · subst c2; exact (up i (by omega) (by omega)).2
          · exact hs i j (by omega) (by omega) (by omega) (by omega)
def CountEnd (lt : Nat → Nat → Bool) (n N : Nat) (r : Nat × Array Nat) : Prop := Ok n r.2 ∧ Asc lt r.2 r.1 ∧ 1 ≤ r.1 ∧ r.1 ≤ N
theorem run_tail {N m : Nat} {p : Array Nat} (hN : N ≤ n) (ok : Ok n p) (h1 : 1 ≤ m) (hm : m ≤ N) (h : Desc lt p m) : Runs lt n (kas_tail3 m N p) (CountEnd lt n N) := by
  unfold kas_tail3
  refine Runs.bind ((run_asc O (rev_ok ok 0 m) (N - m) m h1 (by omega) (Desc.turn ok h (by omega))).mono fun m' q => ?_)
  exact ⟨rev_ok ok 0 m, q.1, by dsimp only; omega, by dsimp only; omega⟩
theorem run_descPart {N m : Nat} {p : Array Nat} (hN : N ≤ n) (ok : Ok n p) (h1 : 1 ≤ m) (hm : m + 1 ≤ N) (hs : Same lt p 0 m) (hl : lt (at0 p m) (at0 p (m - 1)) = true) : Runs lt n (kas_descPart m N p) (CountEnd lt n N) := by
  unfold kas_descPart
  have hd : Desc lt p m := fun i j a b => hs i j (Nat.zero_le _) (by omega) (Nat.zero_le _) b
  refine Runs.bind ((run_desc O hN (N - (m + 1)) p (m + 1) 0 ok (by omega) (by omega) (Desc.snoc O hd h1 (O.asymm _ _ hl)) fun i j a1 a2 a3 a4 => ?_).mono fun r q => ?_)
  · obtain rfl : i = m := by omega
    obtain rfl : j = i := by omega
    exact O.refl _
  · obtain ⟨q1, q2, q3, q4, q5⟩ := q
    split
    · exact run_tail O hN (rev_ok q1 _ _) (by omega) q4 (Desc.rev q1 q2 q5 (Nat.le_refl _) (by omega))
    · exact run_tail O hN q1 (by omega) q4 q2
theorem run_count {N : Nat} {p : Array Nat} (hN : N ≤ n) (h1 : 1 ≤ N) (ok : Ok n p) : Runs lt n (kas_count N p) (CountEnd lt n N) := by
  unfold kas_count
  refine Runs.bind ((run_asc O ok (N - 1) 1 (Nat.le_refl _) (by omega) (Asc.one O p)).mono fun m q => ?_)
  obtain ⟨q1, q2, q3, q4⟩ := q
  by_cases e : (m == N) = true
  · rw [if_pos e]
    exact ⟨ok, q1, q2, by dsimp only; omega⟩
  · rw [if_neg e]
    have hne : m ≠ N := fun x => e (by rw [x]; exact beq_self_eq_true _)
    have hl : lt (at0 p m) (at0 p (m - 1)) = true := q4.elim (fun x => absurd x (by omega)) id
    by_cases e2 : m > 1
    · rw [if_pos e2]
      refine ⟨ok.low (by omega), ok.low (by omega), ?_⟩
      cases e3 : lt (p.getD 0 0) (p.getD (m - 1) 0) with
      | true => exact ⟨ok, q1, q2, by dsimp only; omega⟩
      | false =>
        have e3' : lt (at0 p 0) (at0 p (m - 1)) = false := e3
        simp only [Bool.false_eq_true, if_false]
        have hs : Same lt p 0 m := fun i j a1 a2 a3 a4 => by
          have h0 : lt (at0 p i) (at0 p (m - 1)) = false := O.trans _ (at0 p 0) _ e3' (q1 0 i (by omega) a2)
          exact O.trans _ (at0 p (m - 1)) _ (q1 j (m - 1) (by omega) (by omega)) h0
        refine run_descPart O hN (rev_ok ok 0 m) q2 (by omega) (fun i j a1 a2 a3 a4 => ?_) ?_
        · rw [at_rev ok (by omega), at_rev ok (by omega), if_pos ⟨by omega, by omega⟩, if_pos ⟨by omega, by omega⟩]
          exact hs _ _ (by omega) (by omega) (by omega) (by omega)
        · rw [at_rev ok (by omega), at_rev ok (by omega), if_neg (by omega), if_pos ⟨by omega, by omega⟩]
          cases e4 : lt (at0 p m) (at0 p (0 + m - 1 - (m - 1))) with
          | true => rfl
          | false =>
            have := O.trans _ _ _ (hs (0 + m - 1 - (m - 1)) (m - 1) (by omega) (by omega) (by omega) (by omega)) e4
            rw [this] at hl
            cases hl
    · rw [if_neg e2]
      obtain rfl : m = 1 := by omega
      refine run_descPart O hN ok (Nat.le_refl _) (by omega) (fun i j a1 a2 a3 a4 => ?_) hl
      obtain rfl : i = 0 := by omega
      obtain rfl : j = 0 := by omega
      exact O.refl _
theorem run_place {p : Array Nat} {k : Nat} (ok : Ok n p) (hk : k < n) (hs : Asc lt p k) : ∀ (f l r : Nat), l ≤ r → r ≤ k → r - l ≤ f → (∀ i, i < l → lt (at0 p k) (at0 p i) = false) → (∀ i, r ≤ i → i < k → lt (at0 p i) (at0 p k) = false) →
    Runs lt n (kas_place p k f l r) (fun l' => l' ≤ k ∧ (∀ i, i < l' → lt (at0 p k) (at0 p i) = false) ∧ ∀ i, l' ≤ i → i < k → lt (at0 p i) (at0 p k) = false)
  | 0, l, r, h1, h2, h3, h4, h5 => ⟨by omega, h4, fun i a b => h5 i (by omega) b⟩
  | f + 1, l, r, h1, h2, h3, h4, h5 => by
    unfold kas_place
    by_cases hlr : l ≥ r
    · rw [if_pos hlr]
      exact ⟨by omega, h4, fun i a b => h5 i (by omega) b⟩
    · rw [if_neg hlr]
      refine ⟨ok.low hk, ok.low (by omega), ?_⟩
      cases e : lt (p.getD k 0) (p.getD ((l + r) / 2) 0) with
      | true =>
        have e' : lt (at0 p k) (at0 p ((l + r) / 2)) = true := e
        simp only [if_true]
        refine run_place ok hk hs f l ((l + r) / 2) (by omega) (by omega) (by omega) h4 fun i a b => ?_
        exact O.trans _ _ _ (O.asymm _ _ e') (hs ((l + r) / 2) i a b)
      | false =>
        have e' : lt (at0 p k) (at0 p ((l + r) / 2)) = false := e
        simp only [Bool.false_eq_true, if_false]
        refine run_place ok hk hs f ((l + r) / 2 + 1) r (by omega) h2 (by omega) (fun i a => ?_) h5
        exact O.trans _ _ _ (hs i ((l + r) / 2) (by omega) (by omega)) e'
theorem run_bin : ∀ (f : Nat) (p : Array Nat) (k : Nat), Ok n p → k + f = n → Asc lt p k → Runs lt n (kas_bin f p k) (fun p' => Ok n p' ∧ Asc lt p' n)
  | 0, p, k, ok, h1, h => ⟨ok, by rwa [show n = k by omega]⟩
  | f + 1, p, k, ok, h1, h => by
    refine Runs.bind ((run_place O ok (by omega) h k 0 k (Nat.zero_le _) (Nat.le_refl _) (by omega) (fun i a => absurd a (Nat.not_lt_zero _)) (fun i a b => absurd b (by omega))).mono fun l q => ?_)
    obtain ⟨q1, q2, q3⟩ := q
    refine run_bin f _ (k + 1) (bub_ok ok _ _) (by omega) fun i j hij hj => ?_
    rw [at_bub ok (by omega) (by omega), at_bub ok (by omega) (by omega)]
    have e : k - (k - l) = l := by omega
    rw [e]
    split
    · split
      · exact O.refl _
      · split
        · exfalso; omega
        · exact q2 i (by omega)
    · split
      · split
        · exact q3 _ (by omega) (by omega)
        · split
          · exact h _ _ (by omega) (by omega)
          · exact h _ _ (by omega) (by omega)
      · split
        · exfalso; omega
        · split
          · exfalso; omega
          · exact h i j hij (by omega)
theorem run_sort (h1 : 1 ≤ n) : Runs lt n (kas_sort n) (fun p => Ok n p ∧ Asc lt p n) := by
  unfold kas_sort
  refine Runs.bind ((run_count O (Nat.le_refl n) h1 (Array.Perm.refl _)).mono fun r q => ?_)
  obtain ⟨q1, q2, q3, q4⟩ := q
  split
  · exact run_bin O _ _ _ q1 (by omega) (by rwa [show max r.1 1 = r.1 by omega])
  · exact ⟨q1, by rwa [show n = r.1 by omega]⟩
end
end Mine
end
section
open PySem PySem.W PyProof.Rows PySem.Calls
set_option maxRecDepth 100000
set_option maxHeartbeats 4000000
namespace Mine
/-- not above, lists of ints -/
def leL (a b : List Int) : Prop := ltL b a = false
theorem ltL_refl : ∀ a : List Int, ltL a a = false
  | [] => rfl
  | x :: a => by simp [ltL, ltL_refl a]
theorem ltL_asymm : ∀ a b : List Int, ltL a b = true → ltL b a = false
  | _, [], h => by cases ‹List Int› <;> simp [ltL] at h
  | [], _ :: _, _ => rfl
  | x :: a, y :: b, h => by
    unfold ltL at h ⊢
    by_cases e : x = y
    · subst e
      simp only [if_true] at h ⊢
      exact ltL_asymm a b h
    · rw [if_neg e] at h
      rw [if_neg (Ne.symm e)]
      have := of_decide_eq_true h
      exact decide_eq_false (by omega)
theorem ltL_trans : ∀ a b c : List Int, ltL b a = false → ltL c b = false → ltL c a = false
  | [], b, c, _, h2 => by
    cases c with
    | nil => rfl
    | cons => rfl
  | x :: a, b, c, h1, h2 => by
    cases b with
    | nil => simp [ltL] at h1
    | cons y b =>
      cases c with
      | nil => simp [ltL] at h2
      | cons z c =>
        unfold ltL at h1 h2 ⊢
        by_cases e1 : y = x
        · subst e1
          rw [if_pos rfl] at h1
          by_cases e2 : z = y
          · subst e2
            rw [if_pos rfl] at h2 ⊢
            exact ltL_trans a b c h1 h2
          · rw [if_neg e2] at h2 ⊢
            exact h2
        · rw [if_neg e1] at h1
          have h1' := of_decide_eq_false h1
          by_cases e2 : z = y
          · subst e2
            rw [if_neg e1]
            exact h1
          · rw [if_neg e2] at h2
            have h2' := of_decide_eq_false h2
            rw [if_neg (by omega)]
            exact decide_eq_false (by omega)
theorem ltL_eq : ∀ a b : List Int, ltL a b = false → ltL b a = false → a = b
  | [], [], _, _ => rfl
  | [], _ :: _, h, _ => by simp [ltL] at h
  | _ :: _, [], _, h => by simp [ltL] at h
  | x :: a, y :: b, h1, h2 => by
    unfold ltL at h1 h2
    by_cases e : x = y
    · subst e
      simp only [if_true] at h1 h2
      rw [ltL_eq a b h1 h2]
    · rw [if_neg e] at h1
      rw [if_neg (Ne.symm e)] at h2
      have := of_decide_eq_false h1
      have := of_decide_eq_false h2
      exact absurd (by omega) e
def IsSort (nss out : List (List Int)) : Prop := out.Perm nss ∧ out.Pairwise leL
theorem IsSort.unique {nss a b : List (List Int)} (h1 : IsSort nss a) (h2 : IsSort nss b) : a = b :=
  List.Perm.eq_of_pairwise (le := leL) (fun x y _ _ p q => ltL_eq x y q p) h1.2 h2.2 (h1.1.trans h2.1.symm)
theorem ord_rows (nss : List (List Int)) : Ord (fun i j => ltL (nss.getD i []) (nss.getD j [])) :=
  ⟨fun i => ltL_refl _, fun i j k h1 h2 => ltL_trans _ _ _ h1 h2, fun i j h => ltL_asymm _ _ h⟩
theorem map_range (nss : List (List Int)) : (List.range nss.length).map (fun i => nss.getD i []) = nss := by
  apply List.ext_getElem
  · simp
  · intro i h1 h2
    have h3 : i < nss.length := h2
    simp [List.getElem?_eq_getElem h3]
theorem ok_sort {nss : List (List Int)} {p : Array Nat} (ok : Ok nss.length p) (hs : Asc (fun i j => ltL (nss.getD i []) (nss.getD j [])) p nss.length) : IsSort nss (p.toList.map fun i => nss.getD i []) := by
  refine ⟨?_, ?_⟩
  · have h : p.toList.Perm (List.range nss.length) := by simpa [Ok, Array.perm_iff_toList_perm] using ok
    have h2 := h.map (fun i => nss.getD i [])
    rwa [map_range] at h2
  · rw [List.pairwise_iff_getElem]
    intro i j hi hj hij
    rw [List.length_map, Array.length_toList] at hi hj
    have hsz := ok.size
    have e : ∀ k (hk : k < p.size), p.toList[k]'(by rw [Array.length_toList]; exact hk) = at0 p k := fun k hk => by
      unfold at0; simp [Array.getD, hk]
    rw [List.getElem_map, List.getElem_map, e i hi, e j hj]
    exact hs i j (by omega) (by omega)
section
variable {prog : Program} {w : World} {A : Around} {E : Value → Shared → Prop} {s : Shared} {g : Heap} {L : Addr} {m : Str → Option Value} {nx : List (Addr × Obj)}
theorem runs_wp {α : Type} {lt : Nat → Nat → Bool} {n : Nat} {P : α → Prop} {vs : List Value} {Q : α → Shared → Prop}
    (ask : ∀ i j (C : Bool → Shared → Prop), i < n → j < n → C (lt i j) s → kas_ask prog w A oneType' vs i j C s) (hq : ∀ a, P a → Q a s) : ∀ {t : KasT α}, Runs lt n t P → t.kasWp (kas_ask prog w A oneType' vs) Q s
  | .ret a, h => hq a h
  | .ask i j k, h => ask i j _ h.1 h.2.1 (runs_wp ask hq h.2.2)
theorem sorted_rows {B : Addr} {rs : List Value} {nss : List (List Int)} {Q : Value → Shared → Prop} (F : Fr g L s.heap m) (N : News g L s.heap nx) (lB : LAt nx B rs) (rB : RowsAt nx rs nss) (h2 : 2 ≤ nss.length) (h64 : nss.length < 64) (hu : A.in1.in1.units < cLine)
    (h : ∀ D ys bs h' nx', Fr g L h' m → News g L h' nx' → (∀ p ∈ nx, p ∈ nx') → LAt nx' D ys → RowsAt nx' ys bs → IsSort nss bs → Q (.ref D) { s with heap := h' }) :
    wpAny (model prog w) A (call (.builtin "sorted") [.ref B]) Q E s := by
  have hlen := rB.len
  refine kas_sorted (vs := rs) (T := .type "list") F N (lB.list N) (by omega) (by omega) (fun h' F' N' v hv => ?_) rfl fun D e1 h' F' N' hD => ?_
  · obtain ⟨i, hi⟩ := List.mem_iff_getElem?.mp hv
    obtain ⟨D, vs, ns, rfl, l, _, _⟩ := rB.at hi
    obtain ⟨k, hk⟩ := l
    exact (show Looks (model prog w) h' (typeOf (.ref D)) _ from (Looks.ld (N' _ hk).1).andThen .now)
  · have N1 : News g L h' nx := fun p hp => N' p (.tail _ hp)
    refine runs_wp (lt := fun i j => ltL (nss.getD i []) (nss.getD j [])) (n := nss.length) (fun i j C hi hj hC => ?_) (fun p hp => ?_) (by rw [hlen]; exact run_sort (ord_rows nss) (by omega))
    · unfold kas_ask
      rw [keyLt'_oneType]
      obtain ⟨D1, v1, n1, e1, l1, i1, x1⟩ := rB.at (List.getElem?_eq_getElem (show i < rs.length by omega))
      obtain ⟨D2, v2, n2, e2, l2, i2, x2⟩ := rB.at (List.getElem?_eq_getElem (show j < rs.length by omega))
      have a1 : rs.getD i .none = .ref D1 := by rw [List.getD_eq_getElem?_getD, List.getElem?_eq_getElem (by omega), Option.getD_some, e1]
      have a2 : rs.getD j .none = .ref D2 := by rw [List.getD_eq_getElem?_getD, List.getElem?_eq_getElem (by omega), Option.getD_some, e2]
      have b1 : nss.getD i [] = n1 := by rw [List.getD_eq_getElem?_getD, x1, Option.getD_some]
      have b2 : nss.getD j [] = n2 := by rw [List.getD_eq_getElem?_getD, x2, Option.getD_some]
      rw [a1, a2]
      (try dsimp only at hC)
      rw [b1, b2] at hC
      exact oneLt_lists (l1.list N1) (l2.list N1) i1 i2 hu hC
    · refine KasFin.intro (news := (D, seqObj "list" #[] e1) :: nx) (g := fun o => (D, o) :: nx) F' N' (.head fun q hq => Nat.ne_of_lt (hD q hq)) fun h'' c F'' N'' => ?_
      refine h D _ _ h'' _ F'' N'' (fun p hp => .tail _ hp) ⟨c, .head _⟩ (RowsAt.up (fun a vs l => l.mono fun p hp => .tail _ hp) (rB.pick (p := p.toList) fun i hi => ?_)) (ok_sort hp.1 hp.2)
      have := (Array.Perm.mem_iff hp.1).mp (Array.mem_toList_iff.mp hi)
      rw [hlen]
      simpa using this
end
end Mine
end
section
open PySem PySem.W PyProof.Rows PySem.Calls
set_option maxRecDepth 100000
namespace Mine
section
variable {prog : Program} {w : World} {A : Around} {s : Shared} {K : Frag} {p : Program} {loose : List Str} {mean : ExcName → Option Value} {mg mb : Str → Option Value}
  {name qual : Str} {params : Arguments} {body : List Stmt} {scope : Scope} {dV kV doc pm cdv ct oc : Value} {an od : Option Addr} {osl : Array (Option Value)} {f : Addr} {binds : List (Str × Value)} {Q E : Value → Shared → Prop}
  {pos : List Value} {kw : List (Str × Value)}
/-- a call of a def with cells -/
theorem enterC (X : K.In s.heap) (T : Top p loose mean mg mb s.heap) (hroom : A.depth < recursionLimit)
    (ho : K.lookup f = some ⟨oc, od, .func (fnOf name qual params body scope dV kV doc pm an cdv ct), osl⟩) (hcd : codeIn K cdv qual = true)
    (hbind : BindsTo s (fnOf name qual params body scope dV kV doc pm an cdv ct) ⟨pos, kw⟩ binds)
    (hkind : ∀ n, ∀ x ∈ binds, scope.names.lookup x.1 = some .local ∨ (scope.names.lookup x.1 = some .cell ∧ ((cellsFrom n scope.names []).lookup x.1).isSome = true))
    (hnd : ((cellsFrom 0 scope.names []).map (·.1)).Nodup)
    (hco : scope.isCoroutine = false) (hgen : scope.isGenerator = false) (hk : scope.kind = .function)
    (h : ∀ L h₁ tk cells, Fr s.heap L h₁ (bindL (envOfC qual scope L f cdv).kindOf binds fun _ => none) → News s.heap L h₁ cells → CellsAre (bindC (envOfC qual scope L f cdv).kindOf binds fun _ => none) (cellsFrom (L + 1) scope.names []) cells →
      wpAny (model prog w) (A.deeper (envOfC qual scope L f cdv)) (execs body (envOfC qual scope L f cdv)) (fun fl s' => Q (flowVal fl) s') (fun _ _ => False) { s with heap := h₁, toks := tk }) :
    wpAny (model prog w) A (call (.ref f) pos kw) Q E s := by
  refine wpAny_call ?_
  refine codeAny_call_function hroom (X _ _ ho) rfl hco hgen rfl (codeRec_of X hcd) (hbind _ _ _ _ ?_)
  refine wpAny_newFunctionEnv_cells hk (hkind _) fun env' he s' x => ?_
  subst he
  refine ⟨T.nolimit.keeps x.toInCall.keep, codeAny_func ?_⟩
  obtain ⟨h₁, tk, rfl, _⟩ := x.done
  obtain ⟨cells, NC, Y⟩ := Cl.news (h₀ := s.heap) (Nat.le_refl _) fun n c hm => ⟨x.cell n c (lookup_of_mem_nodup (cellsFrom_names scope.names 0 (s.heap.objs.size + 1) [] [] rfl ▸ hnd) hm), x.above n c hm⟩
  refine wpAny_mono (h s.heap.objs.size h₁ tk cells ⟨x.toInCall.ns, x.toInCall.keep, Nat.le_refl _⟩ NC Y) (fun fl s' hq => ?_) fun _ _ x => x.elim
  cases fl <;> exact hq
end
end Mine
end
section
open PySem PySem.W PyProof.Rows PySem.Calls
set_option maxRecDepth 100000
namespace Mine
section
variable {prog : Program} {w : World} {A : Around}
theorem turn2a (elt t1 i1 t2 i2 : Expr) (scope : Scope) (pos : Pos) (it acc : Value) (env : Env) :
    compTurn (.ListComp elt [⟨t1, i1, [], 0⟩, ⟨t2, i2, [], 0⟩] scope pos) 0 it acc env = (standAt i1.pos >>= fun _ => pyNext it >>= fun r => match r with
      | none => pure (.done .next)
      | some v => letOwnedTupleGo t1 it v >>= fun _ => assign t1 env v >>= fun _ =>
        (eval i2 env >>= fun x => standAt i2.pos >>= fun _ => foldedSetIterable i2 env x >>= fun x => holding [x] (pyIter x) >>= fun it2 =>
          runOwn (.compStart (.ListComp elt [⟨t1, i1, [], 0⟩, ⟨t2, i2, [], 0⟩] scope pos) 1 it2 acc env) env >>= fun _ => again (.compLoop (.ListComp elt [⟨t1, i1, [], 0⟩, ⟨t2, i2, [], 0⟩] scope pos) 0 it acc env))) := by rfl
theorem turn2b (elt t1 i1 t2 i2 : Expr) (scope : Scope) (pos : Pos) (it acc : Value) (env : Env) :
    compTurn (.ListComp elt [⟨t1, i1, [], 0⟩, ⟨t2, i2, [], 0⟩] scope pos) 1 it acc env = (standAt i2.pos >>= fun _ => pyNext it >>= fun r => match r with
      | none => pure (.done .next)
      | some v => letOwnedTupleGo t2 it v >>= fun _ => assign t2 env v >>= fun _ =>
        (eval elt env >>= fun x => call (.builtin "list.append") [acc, x] >>= fun _ => pure ()) >>= fun _ =>
          again (.compLoop (.ListComp elt [⟨t1, i1, [], 0⟩, ⟨t2, i2, [], 0⟩] scope pos) 1 it acc env)) := by rfl
theorem start2 {elt t1 i1 t2 i2 : Expr} {scope : Scope} {pos : Pos} {it acc : Value} {env : Env} {R : Result → Shared → Prop} {s : Shared}
    (h0 : codeAny (model prog w) A (.compLoop (.ListComp elt [⟨t1, i1, [], 0⟩, ⟨t2, i2, [], 0⟩] scope pos) 1 it acc env) R s)
    (h : wpAny (model prog w) A (pyIter it) (fun it' s' => codeAny (model prog w) A (.compLoop (.ListComp elt [⟨t1, i1, [], 0⟩, ⟨t2, i2, [], 0⟩] scope pos) 1 it' acc env) R s')
      (notedBy (model prog w) A env fun x s' => R (.error x) s') s) :
    codeAny (model prog w) A (.compStart (.ListComp elt [⟨t1, i1, [], 0⟩, ⟨t2, i2, [], 0⟩] scope pos) 1 it acc env) R s := by
  refine codeAny_of_tree ?_
  show wpAny _ _ ((compStart (.ListComp elt [⟨t1, i1, [], 0⟩, ⟨t2, i2, [], 0⟩] scope pos) 1 it acc env).onRaise (fun x => do noteFrame x env; standAt theWindowsPlace)) _ _ s
  refine wpAny_notedAt ?_
  unfold compStart
  show wpAny _ _ (ask >>= _) _ _ s
  refine wpAny_bind (wpAny_askSetting (wpAny_ite ?_))
  split
  · first
      | exact wpAny_bind (wpAny_pure (wpAny_pure (And.intro rfl h0)))
      | exact wpAny_pure (And.intro rfl h0)
  · first
      | exact wpAny_bind (wpAny_rule (wpAny_bind (wpAny_standAt (wpAny_bind (wpAny_mono h (fun it' s' h' => wpAny_pure (And.intro rfl h')) fun _ _ x => x)))))
      | (refine wpAny_bind (wpAny_rule ?_); show wpAny _ _ (standAt i2.pos >>= _) _ _ s; exact wpAny_bind (wpAny_standAt (wpAny_bind (wpAny_mono h (fun it' s' h' => wpAny_pure (And.intro rfl h')) fun _ _ x => x))))
theorem loopIn {elt t1 i1 t2 i2 : Expr} {scope : Scope} {pos : Pos} {it acc : Value} {cenv : Env} {R : Result → Shared → Prop} {s : Shared} (n : Nat) (J : Nat → Shared → Prop)
    (turn : ∀ i s, i < n → J i s → wpAny (model prog w) A (pyNext it) (fun r s₁ => ∃ v, r = some v ∧ wpAny (model prog w) A (letOwnedTupleGo t2 it v) (fun _ s₂ =>
      wpAny (model prog w) A (assign t2 cenv v) (fun _ s₃ => wpAny (model prog w) A (eval elt cenv) (fun x s₅ => wpAny (model prog w) A (call (.builtin "list.append") [acc, x]) (fun _ s₆ => J (i + 1) s₆) (fun _ _ => False) s₅) (fun _ _ => False) s₃) (fun _ _ => False) s₂) (fun _ _ => False) s₁) (fun _ _ => False) s)
    (done : ∀ s, J n s → wpAny (model prog w) A (pyNext it) (fun r s₁ => r = none ∧ R (.ok .next) s₁) (fun _ _ => False) s) (h0 : J 0 s) :
    codeAny (model prog w) A (.compLoop (.ListComp elt [⟨t1, i1, [], 0⟩, ⟨t2, i2, [], 0⟩] scope pos) 1 it acc cenv) R s := by
  refine codeAny_loop rfl (fun k s => ∃ i, i ≤ n ∧ k = n - i ∧ J i s) (fun k s hI => ?_) (n - 0) ⟨0, Nat.zero_le _, rfl, h0⟩
  obtain ⟨i, hi, rfl, hJ⟩ := hI
  show wpAny _ A ((compTurn (.ListComp elt [⟨t1, i1, [], 0⟩, ⟨t2, i2, [], 0⟩] scope pos) 1 it acc cenv).onRaise (fun x => do noteFrame x cenv; theTreesLotGoes x)) _ _ s
  refine wpAny_noted ?_
  rw [turn2b]
  refine wpAny_bind (wpAny_standAt (wpAny_bind ?_))
  by_cases hlt : i < n
  · refine wpAny_mono (turn i s hlt hJ) (fun r s₁ h₁ => ?_) fun _ _ f => f.elim
    obtain ⟨v, rfl, h₁⟩ := h₁
    refine wpAny_bind (wpAny_mono h₁ (fun _ s₂ h₂ => wpAny_bind (wpAny_mono h₂ (fun _ s₃ h₃ => wpAny_bind (wpAny_bind (wpAny_mono h₃ (fun x s₄ h₄ => ?_) fun _ _ f => f.elim))) fun _ _ f => f.elim)) fun _ _ f => f.elim)
    exact wpAny_bind (wpAny_mono h₄ (fun _ s₆ h₆ => wpAny_pure (wpAny_pure ⟨rfl, n - (i + 1), by omega, i + 1, hlt, rfl, h₆⟩)) fun _ _ f => f.elim)
  · have e : i = n := by omega
    subst e
    refine wpAny_mono (done s hJ) (fun r s₁ h₁ => ?_) fun _ _ f => f.elim
    obtain ⟨rfl, h₁⟩ := h₁
    exact wpAny_pure h₁
theorem loopOut {elt t1 i1 t2 i2 : Expr} {scope : Scope} {pos : Pos} {it acc : Value} {cenv : Env} {R : Result → Shared → Prop} {s : Shared} (n : Nat) (J : Nat → Shared → Prop)
    (turn : ∀ i s, i < n → J i s → wpAny (model prog w) A (pyNext it) (fun r s₁ => ∃ v, r = some v ∧ wpAny (model prog w) A (letOwnedTupleGo t1 it v) (fun _ s₂ =>
      wpAny (model prog w) A (assign t1 cenv v) (fun _ s₃ => wpAny (model prog w) A (eval i2 cenv) (fun xv s₄ => wpAny (model prog w) A (pyIter xv) (fun it2 s₅ =>
        codeAny (model prog w) A (.compStart (.ListComp elt [⟨t1, i1, [], 0⟩, ⟨t2, i2, [], 0⟩] scope pos) 1 it2 acc cenv) (fun r s₆ => r = .ok .next ∧ J (i + 1) s₆) s₅) (fun _ _ => False) s₄) (fun _ _ => False) s₃) (fun _ _ => False) s₂) (fun _ _ => False) s₁) (fun _ _ => False) s)
    (done : ∀ s, J n s → wpAny (model prog w) A (pyNext it) (fun r s₁ => r = none ∧ R (.ok .next) s₁) (fun _ _ => False) s) (h0 : J 0 s) (hs : ∀ x, foldedSetIterable i2 cenv x = pure x) :
    codeAny (model prog w) A (.compLoop (.ListComp elt [⟨t1, i1, [], 0⟩, ⟨t2, i2, [], 0⟩] scope pos) 0 it acc cenv) R s := by
  refine codeAny_loop rfl (fun k s => ∃ i, i ≤ n ∧ k = n - i ∧ J i s) (fun k s hI => ?_) (n - 0) ⟨0, Nat.zero_le _, rfl, h0⟩
  obtain ⟨i, hi, rfl, hJ⟩ := hI
  show wpAny _ A ((compTurn (.ListComp elt [⟨t1, i1, [], 0⟩, ⟨t2, i2, [], 0⟩] scope pos) 0 it acc cenv).onRaise (fun x => do noteFrame x cenv; theTreesLotGoes x)) _ _ s
  refine wpAny_noted ?_
  rw [turn2a]
  refine wpAny_bind (wpAny_standAt (wpAny_bind ?_))
  by_cases hlt : i < n
  · refine wpAny_mono (turn i s hlt hJ) (fun r s₁ h₁ => ?_) fun _ _ f => f.elim
    obtain ⟨v, rfl, h₁⟩ := h₁
    refine wpAny_bind (wpAny_mono h₁ (fun _ s₂ h₂ => wpAny_bind (wpAny_mono h₂ (fun _ s₃ h₃ => wpAny_bind (wpAny_mono h₃ (fun x s₄ h₄ => wpAny_bind (wpAny_standAt (wpAny_bind (wpAny_of_eq (hs x) ?_)))) fun _ _ f => f.elim)) fun _ _ f => f.elim)) fun _ _ f => f.elim)
    refine wpAny_bind (wpAny_holding (wpAny_mono h₄ (fun it2 s₅ h₅ => ?_) fun _ _ f => f.elim))
    refine wpAny_bind (wpAny_runOwn (codeAny_mono h₅ fun r s₆ h₆ => ?_))
    obtain ⟨rfl, h₆⟩ := h₆
    exact wpAny_pure ⟨rfl, n - (i + 1), by omega, i + 1, hlt, rfl, h₆⟩
  · have e : i = n := by omega
    subst e
    refine wpAny_mono (done s hJ) (fun r s₁ h₁ => ?_) fun _ _ f => f.elim
    obtain ⟨rfl, h₁⟩ := h₁
    exact wpAny_pure h₁
end
end Mine
end
section
open PySem PySem.W PyProof.Rows PySem.Calls
set_option maxRecDepth 100000
namespace Mine
section
variable {prog : Program} {w : World} {A : Around} {env : Env} {s : Shared}
/-- the second clause's source: what it looks at stood ahead of the comprehension, but for what is new -/
def SrcO (prog : Program) (w : World) (A : Around) (s0 s : Shared) (x : Str) (px : Pos) (n : Nat) (P' : Nat → Value → Prop) (it : Value) (s₂ : Shared) : Prop :=
  ∃ I fp wr P St h tk, it = .ref I ∧ s₂ = { s with heap := h, toks := tk } ∧ Binds prog w A (.Name x px) [x] I fp wr n P St ∧ St 0 h ∧ (∀ b ∈ fp, b ∈ wr ∨ ∃ o, s0.heap.get? b = some o) ∧ (∀ b ∈ wr, s.heap.get? b = none) ∧ Kept s.heap h ∧ ∀ i vals, P i vals → ∃ v, vals = [v] ∧ P' i v

theorem srcListO (hh : A.handled = none) {l : Addr} {items : List Value} {n : Nat} {s0 s : Shared} {x : Str} {px : Pos} {E : Value → Shared → Prop} (hl0 : ∃ o, s0.heap.get? l = some o) (hl : s.heap.IsList l items.toArray) (hn : items.length = n) :
    wpAny (model prog w) A (pyIter (.ref l)) (fun it s₂ => SrcO prog w A s0 s x px n (fun i v => items[i]? = some v) it s₂) E s := by
  subst hn
  refine wpAny_pyIter_list hl ?_
  have hlt : l < s.heap.objs.size := by obtain ⟨_, e, _⟩ := hl; exact Heap.lt_size e
  refine ⟨s.heap.objs.size, _, _, _, _, _, _, rfl, rfl, Binds.name (x := x) (px := px) (Walks.list hh s.heap.objs.size l (Nat.ne_of_lt hlt) items.toArray) (fun i h st b hb => ?_), ⟨⟨_, Heap.get?_push_size _ rfl, rfl, rfl⟩, hl.push _⟩, fun b hb => ?_, fun b hb => ?_, fun b o e => Heap.get?_push_of_some _ e, ?_⟩
  · obtain ⟨⟨o, ho, _⟩, _⟩ := st
    exact ⟨o, by rw [List.mem_singleton.mp hb]; exact ho⟩
  · simp only [List.mem_cons, List.not_mem_nil, or_false] at hb
    rcases hb with rfl | rfl
    · exact .inl (.head _)
    · exact .inr hl0
  · rw [List.mem_singleton.mp hb]; exact none_of_size (Nat.le_refl _)
  · rintro i vals ⟨v, rfl, hv⟩
    refine ⟨v, rfl, ?_⟩
    simpa using hv

theorem compR2 {elt iter1 iter2 : Expr} {x1 x2 : Str} {px1 px2 : Pos} {scope : Scope} {cl : List (Str × Addr)} {pos : Pos} {n1 n2 : Nat} {P1 P2 : Nat → Value → Prop} {Q : Value → Shared → Prop} {E : Value → Shared → Prop}
    (hclos : closureFor scope env = pure cl) (hcell : ∀ y ∈ scope.names, y.2 ≠ .cell) (hkind : scope.kind = .function) (hnames : ∀ y ∈ scope.names, y.2 = .local → scope.names.lookup y.1 = some .local)
    (hx1 : scope.names.lookup x1 = some .local) (hx2 : scope.names.lookup x2 = some .local) (hne : x1 ≠ x2) (hn : n1 * n2 ≤ 1000) (J : Nat → Nat → List Value → Prop) (J0 : J 0 0 [])
    (hiter1 : wpAny (model prog w) A (eval iter1 env) (fun xv s₁ => wpAny (model prog w) A (pyIter xv) (fun it s₂ => SrcC prog w A s n1 P1 it s₂) E s₁) E s)
    (hiter2 : ∀ i C h tk m, i < n1 → Fr s.heap C h m → wpAny (model prog w) A (eval iter2 (compEnvC scope cl C env)) (fun xv s₁ => wpAny (model prog w) A (pyIter xv) (fun it s₂ => SrcO prog w A s { s with heap := h, toks := tk } x2 px2 n2 P2 it s₂) (fun _ _ => False) s₁) (fun _ _ => False) { s with heap := h, toks := tk })
    (turn : ∀ i j ys C h tk m v1 v2, i < n1 → j < n2 → J i j ys → P1 i v1 → P2 j v2 → Fr s.heap C h m → has [(x1, v1), (x2, v2)] m →
      wpAny (model prog w) A (eval elt (compEnvC scope cl C env)) (fun y s' => ∃ h' tk', s' = { s with heap := h', toks := tk' } ∧ Kept h h' ∧ J i (j + 1) (ys ++ [y])) (fun _ _ => False) { s with heap := h, toks := tk })
    (next : ∀ i ys, i < n1 → J i n2 ys → J (i + 1) 0 ys)
    (done : ∀ D ys k h' tk, J n1 0 ys → Kept s.heap h' → h'.get? D = some (W.listOf (List.toArray ys) k) → s.heap.get? D = none → s.heap.objs.size ≤ D → Q (.ref D) { s with heap := h', toks := tk })
    (hs : ∀ x, foldedSetIterable iter1 env x = pure x := by intro _; rfl) (hs2 : ∀ C x, foldedSetIterable iter2 (compEnvC scope cl C env) x = pure x := by intro _ _; rfl) :
    wpAny (model prog w) A (eval (.ListComp elt [⟨.Name x1 px1, iter1, [], 0⟩, ⟨.Name x2 px2, iter2, [], 0⟩] scope pos) env) Q E s := by
  rw [eval_ListComp]
  refine wpAny_comprehension_free (use := none) rfl hs hclos hkind hnames (wpAny_mono hiter1 (fun xv s₁ h₁ => wpAny_mono h₁ (fun it s₂ h₂ => ?_) fun _ _ e => e) fun _ _ e => e)
  obtain ⟨I, fp, wr, P, St, h, tk, rfl, rfl, B, hlive, hst, hfp, hwr, hk0, hsz0, hP⟩ := h₂
  replace B := Binds.name (x := x1) (px := px1) B hlive
  refine wpAny_newObj_type (wpAny_newFunctionEnv hcell (by intro y hy; simp at hy) (fun h₁ hns₁ hsb₁ => ?_) hkind)
  dsimp only at hns₁ hsb₁ ⊢
  generalize hH2 : h.push { cls := .type "list", dict := none, data := .seq ([] : List Value).toArray } = H2 at hns₁ hsb₁ ⊢
  have hC : H2.objs.size = h.objs.size + 1 := by rw [← hH2, Heap.size_push]
  generalize hDD : h.objs.size = D at hC ⊢
  generalize hCC : H2.objs.size = C at hC hns₁ hsb₁ ⊢
  subst hC
  have hDC : D ≠ D + 1 := Nat.ne_of_lt (Nat.lt_succ_self _)
  have old : ∀ b o, h.get? b = some o → h₁.get? b = some o := fun b o e => by
    have hb : b < D := hDD ▸ Heap.lt_size e
    exact hsb₁.extBut b o (Nat.ne_of_lt (Nat.lt_succ_of_lt hb)) (Heap.get?_push_of_some _ (hH2 ▸ Heap.get?_push_of_some _ e))
  have hDf : D ∉ fp := fun hm => Nat.lt_irrefl _ (hDD ▸ hfp _ hm)
  have hCf : D + 1 ∉ fp := fun hm => Nat.not_succ_lt_self (hDD ▸ hfp _ hm)
  have hDw : D ∉ wr := fun h => hDf (B.sub _ h)
  have hCw : D + 1 ∉ wr := fun h => hCf (B.sub _ h)
  have hacc : h₁.get? D = some (W.listOf ([] : List Value).toArray 0) := by
    have : H2.get? D = some (W.listOf ([] : List Value).toArray 0) := by rw [← hH2, ← hDD]; exact Heap.get?_push_size _ rfl
    exact hsb₁.extBut _ _ hDC (Heap.get?_push_of_some _ this)
  have hst₁ : St 0 h₁ := B.frame _ _ _ hst fun b _ o e => old b o e
  have hk1 : Kept s.heap h₁ := hk0.trans old
  have fresh : ∀ a, D ≤ a → s.heap.get? a = none := fun a ha => by
    cases e : s.heap.get? a with
    | none => rfl
    | some o' => exact absurd (Heap.lt_size e) (Nat.not_lt.mpr (Nat.le_trans hsz0 (hDD ▸ ha)))
  have hfC : s.heap.get? (D + 1) = none := fresh (D + 1) (Nat.le_succ _)
  have hfD : s.heap.get? D = none := fresh D (Nat.le_refl _)
  have hCl : (compEnvC scope cl (D + 1) env).locals = D + 1 := rfl
  have hcls : ((compEnvC scope cl (D + 1) env).scope.kind == .class || ((compEnvC scope cl (D + 1) env).scope.kind == .module && (compEnvC scope cl (D + 1) env).locals != (compEnvC scope cl (D + 1) env).globals)) = false := by simp [compEnvC, relabel, hkind]
  have frOf : ∀ H m, H.Ns (D + 1) m → Kept s.heap H → Fr s.heap (D + 1) H m := fun H m a b => ⟨a, b, Nat.le_trans hsz0 (hDD ▸ Nat.le_succ _)⟩
  have loop : ∀ s₃ : Shared, (∃ tk', s₃ = { s with heap := h₁, toks := tk' }) →
      codeAny (model prog w) A (.compLoop (.ListComp elt [⟨.Name x1 px1, iter1, [], 0⟩, ⟨.Name x2 px2, iter2, [], 0⟩] scope pos) 0 (.ref I) (.ref D) (compEnvC scope cl (D + 1) env)) (compPost (model prog w) A E none Q (.ref D) (D + 1)) s₃ := by
    rintro s₃ ⟨tk', rfl⟩
    refine loopOut n1 (fun i s' => ∃ H tk m ys k, s' = { s with heap := H, toks := tk } ∧ St i H ∧ H.get? D = some (W.listOf ys.toArray k) ∧ H.Ns (D + 1) m ∧ Kept s.heap H ∧ J i 0 ys ∧ ys.length ≤ i * n2) ?_ ?_ ⟨h₁, tk', _, [], 0, rfl, hst₁, hacc, hns₁, hk1, J0, Nat.zero_le _⟩ (hs2 (D + 1))
    · rintro i s' hi ⟨H, tk, m, ys, k, rfl, hst', hacc', hn', hk', hJ, hlen⟩
      refine B.step (compEnvC scope cl (D + 1) env) i _ m _ hi hst' (fun y hy => lookup_relabel_local (by rw [List.mem_singleton.mp hy]; exact hx1)) hcls hCf hn' fun vals h₂ tk₂ hPv hst₂ hn₂ hk₂ => ?_
      obtain ⟨v1, rfl, hv1⟩ := hPv
      have hk2 : Kept s.heap h₂ := fun b o e => hk₂ b o (fun hb => by rw [hwr b hb] at e; cases e) (fun hb => by rw [hCl] at hb; rw [hb, hfC] at e; cases e) (hk' b o e)
      have hD₂ : h₂.get? D = some (W.listOf ys.toArray k) := hk₂ D _ hDw hDC hacc'
      refine wpAny_mono (hiter2 i (D + 1) h₂ tk₂ _ hi (frOf _ _ hn₂ hk2)) (fun xv s₄ h₄ => wpAny_mono h₄ (fun it2 s₅ h₅ => ?_) fun _ _ e => e) fun _ _ e => e
      obtain ⟨I2, fp2, wr2, P', St2, h3, tk3, rfl, rfl, B2, hst3, hfp2, hwr2, hk3, hP2⟩ := h₅
      have hD2f : D ∉ fp2 := fun hm => by
        rcases hfp2 D hm with hw | ⟨o, ho⟩
        · have := hwr2 D hw; dsimp only at this; rw [hD₂] at this; cases this
        · rw [hfD] at ho; cases ho
      have hC2f : D + 1 ∉ fp2 := fun hm => by
        rcases hfp2 _ hm with hw | ⟨o, ho⟩
        · have := hwr2 _ hw
          obtain ⟨oL, _, _, hoL, _⟩ := hn₂
          dsimp only at this
          rw [show h₂.get? (D + 1) = some oL from hoL] at this; cases this
        · rw [hfC] at ho; cases ho
      have hD2w : D ∉ wr2 := fun h => hD2f (B2.sub _ h)
      have hC2w : D + 1 ∉ wr2 := fun h => hC2f (B2.sub _ h)
      have st1Of : ∀ H' : Heap, (∀ b o, b ≠ D → b ≠ D + 1 → h₂.get? b = some o → H'.get? b = some o) → St (i + 1) H' := fun H' hh => B.frame _ _ _ hst₂ fun b hb o e => hh b o (fun q => hDf (q ▸ hb)) (fun q => hCf (q ▸ hb)) e
      have inner : ∀ s₃ : Shared, (∃ tk', s₃ = { s with heap := h3, toks := tk' }) → codeAny (model prog w) A (.compLoop (.ListComp elt [⟨.Name x1 px1, iter1, [], 0⟩, ⟨.Name x2 px2, iter2, [], 0⟩] scope pos) 1 (.ref I2) (.ref D) (compEnvC scope cl (D + 1) env))
          (fun r s₆ => r = .ok .next ∧ ∃ H tk m ys k, s₆ = { s with heap := H, toks := tk } ∧ St (i + 1) H ∧ H.get? D = some (W.listOf ys.toArray k) ∧ H.Ns (D + 1) m ∧ Kept s.heap H ∧ J (i + 1) 0 ys ∧ ys.length ≤ (i + 1) * n2) s₃ := by
        rintro s₃ ⟨tk', rfl⟩
        refine loopIn n2 (fun j s' => ∃ H tk m ys k, s' = { s with heap := H, toks := tk } ∧ (∀ b o, b ≠ D → b ≠ D + 1 → h₂.get? b = some o → H.get? b = some o) ∧ St2 j H ∧ H.get? D = some (W.listOf ys.toArray k) ∧ H.Ns (D + 1) m ∧ m x1 = some v1 ∧ Kept s.heap H ∧ J i j ys ∧ ys.length ≤ i * n2 + j) ?_ ?_
          ⟨h3, tk', _, ys, k, rfl, fun b o _ _ e => hk3 b o e, hst3, hk3 _ _ hD₂, hn₂.at' fun o e => hk3 _ o e, by simp [bindAll], hk2.trans hk3, hJ, hlen⟩
        · rintro j s' hj ⟨H, tk, m, ys, k, rfl, hh, hst', hacc', hn', hm1, hk', hJ, hlen⟩
          refine B2.step (compEnvC scope cl (D + 1) env) j _ m _ hj hst' (fun y hy => lookup_relabel_local (by rw [List.mem_singleton.mp hy]; exact hx2)) hcls hC2f hn' fun vals h₄ tk₄ hPv hst₄ hn₄ hk₄ => ?_
          obtain ⟨v2, rfl, hv2⟩ := hP2 _ _ hPv
          have hk4 : Kept s.heap h₄ := fun b o e => hk₄ b o (fun hb => by have := hwr2 b hb; dsimp only at this; rw [hk2 b o e] at this; cases this) (fun hb => by rw [hCl] at hb; rw [hb, hfC] at e; cases e) (hk' b o e)
          have hD₄ : h₄.get? D = some (W.listOf ys.toArray k) := hk₄ D _ hD2w hDC hacc'
          have hh4 : ∀ b o, b ≠ D → b ≠ D + 1 → h₂.get? b = some o → h₄.get? b = some o := fun b o a1 a2 e => hk₄ b o (fun hb => by have := hwr2 b hb; dsimp only at this; rw [e] at this; cases this) a2 (hh b o a1 a2 e)
          have hm : has [(x1, v1), (x2, v2)] (bindAll [x2] [v2] m) := has.cons (by simp [bindAll, hne, hm1]) (has.cons (by simp [bindAll]) has.nil)
          refine wpAny_mono (turn i j ys (D + 1) h₄ tk₄ _ v1 v2 hi hj hJ (hP _ _ hv1) hv2 (frOf _ _ hn₄ hk4) hm) (fun y s₅ h₅ => ?_) fun _ _ f => f
          obtain ⟨h5, tk5, rfl, hk5, hJ5⟩ := h₅
          have hb1 : i * n2 + j < n1 * n2 := by
            have h1 : (i + 1) * n2 ≤ n1 * n2 := Nat.mul_le_mul_right _ hi
            have h2 : (i + 1) * n2 = i * n2 + n2 := Nat.succ_mul _ _
            omega
          have hsz : ys.length ≤ 1000 := by omega
          refine wpAny_list_append_plain (items := ys.toArray) (hsz := by rw [List.size_toArray]; exact Nat.le_trans hsz (by decide)) ⟨k, hk5 _ _ hD₄⟩ fun h₆ hl₆ hs₆ => ?_
          obtain ⟨k', hD₆⟩ := hl₆
          refine ⟨h₆, _, _, ys ++ [y], k', rfl, fun b o a1 a2 e => hs₆.extBut b o a1 (hk5 _ _ (hh4 b o a1 a2 e)), B2.frame _ _ _ hst₄ fun b hb o e => hs₆.extBut b o (fun q => hD2f (q ▸ hb)) (hk5 _ _ e), by simpa [W.listOf] using hD₆, (hn₄.at' fun o e => hk5 _ o e).sameBut hs₆ (Ne.symm hDC), hm _ (.head _), fun b o e => hs₆.extBut b o (fun q => by rw [q, hfD] at e; cases e) (hk5 _ _ (hk4 b o e)), hJ5, by rw [List.length_append]; simp; omega⟩
        · rintro s' ⟨H, tk, m, ys, k, rfl, hh, hst', hacc', hn', hm1, hk', hJ, hlen⟩
          refine B2.done _ _ _ hst' fun h₄ tk₄ hk₄ => ⟨rfl, rfl, h₄, tk₄, m, ys, k, rfl, st1Of _ (fun b o a1 a2 e => hk₄ b o (fun hb => by have := hwr2 b hb; dsimp only at this; rw [e] at this; cases this) (hh b o a1 a2 e)), hk₄ _ _ hD2w hacc', hn'.at' fun o e => hk₄ _ o hC2w e, fun b o e => hk₄ b o (fun hb => by have := hwr2 b hb; dsimp only at this; rw [hk2 b o e] at this; cases this) (hk' b o e), next i ys hi hJ, ?_⟩
          have h2 : (i + 1) * n2 = i * n2 + n2 := Nat.succ_mul _ _
          omega
      exact start2 (inner _ ⟨_, rfl⟩) (B2.self 0 _ _ _ hst3 (inner _ ⟨_, rfl⟩))
    · rintro s' ⟨H, tk, m, ys, k, rfl, hst', hacc', hn', hk', hJ, hlen⟩
      refine B.done _ _ _ hst' fun h₂ tk₂ hk₂ => ⟨rfl, ?_⟩
      refine ⟨m, hn'.at' fun o e => hk₂ _ o hCw e, fun h'' hs => ?_⟩
      have hk3 : Kept s.heap h₂ := fun b o e => hk₂ b o (fun hb => by rw [hwr b hb] at e; cases e) (hk' b o e)
      exact done D ys k h'' tk₂ hJ (fun b o e => hs.extBut b o (fun q => by rw [q, hfC] at e; cases e) (hk3 b o e)) (hs.extBut _ _ hDC (hk₂ _ _ hDw hacc')) hfD (hDD ▸ hsz0)
  exact codeAny_compStart_list (loop _ ⟨_, rfl⟩) (B.self 0 _ _ _ hst₁ (loop _ ⟨_, rfl⟩))
end
end Mine
end
section
open PySem PySem.Sre PySem.W PyProof.Rows PySem.Calls
set_option maxRecDepth 100000
namespace Mine
/-- line ends made alike; the flag: a carriage return has just been turned -/
def nl : Bool → List Nat → List Nat
  | _, [] => []
  | b, c :: r => if c = 13 then 13 :: 10 :: nl true r else if c = 10 then (if b = true then nl false r else 13 :: 10 :: nl false r) else c :: nl false r
/-- dots doubled; the flag: at a row's head -/
def dt : Bool → List Nat → List Nat
  | _, [] => []
  | b, c :: r => if b = true ∧ c = 46 then 46 :: 46 :: dt false r else c :: dt (c == 10) r

theorem outs_is {d : List Nat} {find : Nat → Option (Nat × Nat)} {repl : List Nat} {f : Nat → List Nat} (hin : ∀ q i j, find q = some (i, j) → q ≤ i ∧ i < j ∧ j ≤ d.length)
    (h0 : ∀ pos, pos ≤ d.length → find pos = none → f pos = d.drop pos) (h1 : ∀ pos i j, pos ≤ d.length → find pos = some (i, j) → f pos = (d.drop pos).take (i - pos) ++ (repl ++ f j)) :
    ∀ (n pos : Nat), d.length < pos + n → pos ≤ d.length → (outs d.toArray find repl n pos).flatten = f pos
  | 0, pos, a, b => absurd a (by omega)
  | n + 1, pos, a, b => by
    unfold outs
    cases e : find pos with
    | none =>
      dsimp only
      rw [h0 pos b e]
      split
      · simp [List.take_of_length_le]
      · rename_i hlt
        rw [List.size_toArray] at hlt
        rw [List.drop_of_length_le (by omega)]
        rfl
    | some q =>
      obtain ⟨i, j⟩ := q
      obtain ⟨c1, c2, c3⟩ := hin pos i j e
      dsimp only
      rw [List.flatten_append, List.flatten_cons, outs_is hin h0 h1 n j (by omega) c3, h1 pos i j b e]
      congr 1
      split
      · simp
      · rw [show i - pos = 0 by omega]
        rfl

theorem isAt_eq (d : List Nat) (s c : Nat) : isAt2 d.toArray s c = decide (d[s]? = some c) := by
  unfold isAt2
  rw [List.size_toArray]
  by_cases h : s < d.length
  · have e : d.toArray.getD s 0 = d[s] := by simp [Array.getD, h]
    rw [decide_eq_true h, Bool.true_and, e, List.getElem?_eq_getElem h]
    by_cases h2 : d[s] = c
    · rw [h2]; simp
    · have : (d[s] == c) = false := by simpa using h2
      rw [this, decide_eq_false (by simpa using h2)]
  · rw [decide_eq_false h, List.getElem?_eq_none (by omega)]
    simp
theorem drop_at {d : List Nat} {s c : Nat} (h : d[s]? = some c) : d.drop s = c :: d.drop (s + 1) := by
  obtain ⟨hl, e⟩ := List.getElem?_eq_some_iff.mp h
  rw [List.drop_eq_getElem_cons hl, e]
theorem nl_true {r : List Nat} (h : r[0]? ≠ some 10) : nl true r = nl false r := by
  cases r with
  | nil => rfl
  | cons c r =>
    have hc : c ≠ 10 := fun e => h (by rw [e]; rfl)
    unfold nl
    rw [if_neg hc, if_neg hc]
theorem nextNl_is (d : List Nat) : ∀ (k s : Nat), s + k = d.length + 1 → match nextNl d.toArray k s with
    | none => nl false (d.drop s) = d.drop s
    | some i => s ≤ i ∧ nl false (d.drop s) = (d.drop s).take (i - s) ++ nl false (d.drop i) ∧ (d[i]? = some 10 ∨ d[i]? = some 13)
  | 0, s, h => by
    rw [List.drop_of_length_le (by omega)]
    rfl
  | k + 1, s, h => by
    unfold nextNl
    rw [isAt_eq, isAt_eq]
    by_cases hc : d[s]? = some 10 ∨ d[s]? = some 13
    · have : (decide (d[s]? = some 10) || decide (d[s]? = some 13)) = true := by simpa using hc
      rw [if_pos this]
      exact ⟨Nat.le_refl _, by rw [Nat.sub_self, List.take_zero, List.nil_append], hc⟩
    · have : ¬ (decide (d[s]? = some 10) || decide (d[s]? = some 13)) = true := by simpa using hc
      rw [if_neg this]
      have ih := nextNl_is d k (s + 1) (by omega)
      by_cases hs : s < d.length
      · have e : d.drop s = d[s] :: d.drop (s + 1) := List.drop_eq_getElem_cons hs
        have e1 : d[s] ≠ 10 := fun q => hc (.inl (by rw [List.getElem?_eq_getElem hs, q]))
        have e2 : d[s] ≠ 13 := fun q => hc (.inr (by rw [List.getElem?_eq_getElem hs, q]))
        have e3 : nl false (d[s] :: d.drop (s + 1)) = d[s] :: nl false (d.drop (s + 1)) := by
          rw [nl, if_neg e2, if_neg e1]
        cases hn : nextNl d.toArray k (s + 1) with
        | none =>
          rw [hn] at ih
          dsimp only at ih ⊢
          rw [e, e3, ih]
        | some i =>
          rw [hn] at ih
          dsimp only at ih ⊢
          obtain ⟨i1, i2, i3⟩ := ih
          refine ⟨by omega, ?_, i3⟩
          rw [e, e3, i2, show i - s = (i - (s + 1)) + 1 by omega, List.take_succ_cons, List.cons_append]
      · obtain rfl : s = d.length := by omega
        obtain rfl : k = 0 := by omega
        show nl false (d.drop d.length) = d.drop d.length
        rw [List.drop_of_length_le (Nat.le_refl _)]
        rfl
theorem subst2_is (d : List Nat) : subst2 d = nl false d := by
  unfold subst2
  have h := outs_is (d := d) (find := find2 d.toArray) (repl := [13, 10]) (f := fun pos => nl false (d.drop pos)) (fun q i j e => by have := find2_in _ q i j e; simpa using this) (fun pos hp e => ?_) (fun pos i j hp e => ?_) (d.toArray.size + 1) 0 (by simp) (Nat.zero_le _)
  · simpa using h
  · unfold find2 at e
    have := nextNl_is d (d.length + 1 - pos) pos (by omega)
    cases hn : nextNl d.toArray (d.length + 1 - pos) pos with
    | none => rw [hn] at this; exact this
    | some i => rw [List.size_toArray, hn] at e; cases e
  · unfold find2 at e
    have := nextNl_is d (d.length + 1 - pos) pos (by omega)
    cases hn : nextNl d.toArray (d.length + 1 - pos) pos with
    | none => rw [List.size_toArray, hn] at e; cases e
    | some i' =>
      rw [List.size_toArray, hn] at e
      rw [hn] at this
      dsimp only at this
      obtain ⟨a1, a2, a3⟩ := this
      cases e
      (try dsimp only)
      rw [a2]
      congr 1
      unfold nlEnd
      rw [isAt_eq, isAt_eq]
      rcases a3 with a3 | a3
      · rw [drop_at a3, a3]
        rfl
      · rw [drop_at a3, a3]
        by_cases h10 : d[i + 1]? = some 10
        · rw [h10, drop_at h10]
          rfl
        · have e4 : (decide (some 13 = some 13) && decide (d[i + 1]? = some 10)) = false := by rw [decide_eq_false h10]; simp
          rw [e4, if_neg (by simp)]
          show 13 :: 10 :: nl true (d.drop (i + 1)) = 13 :: 10 :: nl false (d.drop (i + 1))
          rw [nl_true (by rw [List.getElem?_drop]; simpa using h10)]

def headAt (d : List Nat) (s : Nat) : Bool := s == 0 || d.getD (s - 1) 0 == 10
theorem dotAt_eq (d : List Nat) (s : Nat) : dotAt d.toArray s = (headAt d s && decide (d[s]? = some 46)) := by
  have h := isAt_eq d s 46
  unfold isAt2 at h
  unfold dotAt headAt
  rw [h]
  congr 2
  simp [Array.getD_eq_getD_getElem?, List.getD_eq_getElem?_getD]
theorem headAt_succ {d : List Nat} {s c : Nat} (h : d[s]? = some c) : headAt d (s + 1) = (c == 10) := by
  unfold headAt
  rw [Nat.add_sub_cancel, List.getD_eq_getElem?_getD, h]
  simp
theorem nextDot_is (d : List Nat) : ∀ (k s : Nat), s + k = d.length + 1 → match nextDot d.toArray k s with
    | none => dt (headAt d s) (d.drop s) = d.drop s
    | some i => s ≤ i ∧ dt (headAt d s) (d.drop s) = (d.drop s).take (i - s) ++ dt (headAt d i) (d.drop i) ∧ headAt d i = true ∧ d[i]? = some 46
  | 0, s, h => by
    rw [List.drop_of_length_le (by omega)]
    rfl
  | k + 1, s, h => by
    unfold nextDot
    rw [dotAt_eq]
    by_cases hc : headAt d s = true ∧ d[s]? = some 46
    · have : (headAt d s && decide (d[s]? = some 46)) = true := by simpa using hc
      rw [if_pos this]
      exact ⟨Nat.le_refl _, by rw [Nat.sub_self, List.take_zero, List.nil_append], hc⟩
    · have : ¬ (headAt d s && decide (d[s]? = some 46)) = true := by simpa using hc
      rw [if_neg this]
      have ih := nextDot_is d k (s + 1) (by omega)
      by_cases hs : s < d.length
      · have e : d.drop s = d[s] :: d.drop (s + 1) := List.drop_eq_getElem_cons hs
        have e0 := List.getElem?_eq_getElem hs
        have e3 : dt (headAt d s) (d[s] :: d.drop (s + 1)) = d[s] :: dt (headAt d (s + 1)) (d.drop (s + 1)) := by
          rw [dt, if_neg (fun q => hc ⟨q.1, by rw [e0, q.2]⟩), headAt_succ e0]
        cases hn : nextDot d.toArray k (s + 1) with
        | none =>
          rw [hn] at ih
          dsimp only at ih ⊢
          rw [e, e3, ih]
        | some i =>
          rw [hn] at ih
          dsimp only at ih ⊢
          obtain ⟨i1, i2, i3⟩ := ih
          refine ⟨by omega, ?_, i3⟩
          rw [e, e3, i2, show i - s = (i - (s + 1)) + 1 by omega, List.take_succ_cons, List.cons_append]
      · obtain rfl : s = d.length := by omega
        obtain rfl : k = 0 := by omega
        show dt (headAt d d.length) (d.drop d.length) = d.drop d.length
        rw [List.drop_of_length_le (Nat.le_refl _)]
        rfl
theorem subst1_is (d : List Nat) : subst1 d = dt true d := by
  unfold subst1
  have h := outs_is (d := d) (find := find1 d.toArray) (repl := [46, 46]) (f := fun pos => dt (headAt d pos) (d.drop pos)) (fun q i j e => by have := find1_in _ q i j e; simpa using this) (fun pos hp e => ?_) (fun pos i j hp e => ?_) (d.toArray.size + 1) 0 (by simp) (Nat.zero_le _)
  · simpa [headAt] using h
  · unfold find1 at e
    have := nextDot_is d (d.length + 1 - pos) pos (by omega)
    cases hn : nextDot d.toArray (d.length + 1 - pos) pos with
    | none => rw [hn] at this; exact this
    | some i => rw [List.size_toArray, hn] at e; cases e
  · unfold find1 at e
    have := nextDot_is d (d.length + 1 - pos) pos (by omega)
    cases hn : nextDot d.toArray (d.length + 1 - pos) pos with
    | none => rw [List.size_toArray, hn] at e; cases e
    | some i' =>
      rw [List.size_toArray, hn] at e
      rw [hn] at this
      dsimp only at this
      obtain ⟨a1, a2, a3, a4⟩ := this
      cases e
      (try dsimp only)
      rw [a2]
      congr 1
      rw [drop_at a4, a3, headAt_succ a4]
      rfl
theorem quoted_is (d : List Nat) : quoted d = dt true (nl false d) := by
  unfold quoted
  rw [subst2_is, subst1_is]
end Mine
end
section
open PySem PySem.W PyProof.Rows PySem.Calls
set_option maxRecDepth 100000
namespace Mine
def dotsL : List (List Nat) := [[], [46]]
def kindsL : List (List Nat) := [[10, 10], [10, 13], [13, 13], []]
def endsL : List (List Nat) := [[10], [13, 10], [13]]
def firstOf (a : Nat) : List Nat := dotsL.getD a [] ++ [97]
def secondOf (b : Nat) : List Nat := dotsL.getD b [] ++ [98]
def sent2 (a b : Nat) : List Nat := [13, 10] ++ dotsL.getD a [] ++ firstOf a ++ [13, 10] ++ dotsL.getD b [] ++ secondOf b
def ends4 (p q : Nat) : List (List Nat) := endsL.take p ++ kindsL.getD q [] :: endsL.drop p
def mailOf (a b : Nat) (e f : List Nat) : List Nat := e ++ firstOf a ++ f ++ secondOf b
def mailsOf (a b : Nat) (es : List (List Nat)) : List (List Nat) := es.flatMap fun e => es.map fun f => mailOf a b e f
def boardOf (a b p q : Nat) : List (List Nat) := (mailsOf a b (ends4 p q)).filter fun m => decide (quoted m = sent2 a b)
theorem cellsAt {cm : Str → Option Value} {cs : List (Str × Addr)} {cells : List (Addr × Obj)} {n : Str} {c : Addr} (h : CellsAre cm cs cells) (hm : (n, c) ∈ cs) : CAt cells c (cm n) := by
  induction h with
  | nil => cases hm
  | cons hd _ ih =>
    cases hm with
    | head => exact ⟨_, .head _, hd⟩
    | tail _ hm =>
      obtain ⟨o, ho, hd'⟩ := ih hm
      exact ⟨o, .tail _ ho, hd'⟩
theorem fmod_nat (z : Int) (k : Nat) (hk : 0 < k) : ∃ j : Nat, z.fmod k = j ∧ j < k := by
  have h1 := Int.fmod_nonneg_of_pos z (b := (k : Int)) (by omega)
  have h2 := Int.fmod_lt_of_pos z (b := (k : Int)) (by omega)
  exact ⟨(z.fmod k).toNat, by omega, by omega⟩
theorem strs_get {vs : List Value} {ns : List (List Nat)} (h : StrsAt vs ns) {i : Nat} (hi : i < ns.length) : ∃ x t, vs[i]? = some (.str (ofL x) t) ∧ ns[i]? = some x := by
  have hl : i < vs.length := by rw [h.len]; exact hi
  obtain ⟨x, t, e1, e2⟩ := h.at (List.getElem?_eq_getElem hl)
  exact ⟨x, t, by rw [List.getElem?_eq_getElem hl, e1], e2⟩
theorem add_two {prog : Program} {w : World} {A : Around} {E : Value → Shared → Prop} {s : Shared} {t u : Tok} (x y : List Nat) {Q : Value → Shared → Prop} (hs : x.length + y.length ≤ 16777216) (h : ∀ t' k, Q (.str (ofL (x ++ y)) t') { s with toks := k }) :
    wpAny (model prog w) A (binaryOp .Add (.str (ofL x) t) (.str (ofL y) u)) Q E s := by
  refine add_use (by rw [ofL_len, ofL_len]; exact hs) fun t' k => ?_
  rw [ofL_cps, ofL_cps]
  exact h t' k
theorem insert_nx {prog : Program} {w : World} {A : Around} {E : Value → Shared → Prop} {s : Shared} {g : Heap} {L : Addr} {m : Str → Option Value} {nx : List (Addr × Obj)} {D : Addr} {vs : List Value} {r : Nat} {u : Tok} {y : Value} {Q : Value → Shared → Prop}
    (F : Fr g L s.heap m) (N : News g L s.heap nx) (l : LAt nx D vs) (hr : r ≤ vs.length) (hb : vs.length ≤ 100)
    (h : ∀ h' nx', Fr g L h' m → News g L h' nx' → (∀ a ws, a ≠ D → LAt nx a ws → LAt nx' a ws) → (∀ c v, CAt nx c v → CAt nx' c v) → LAt nx' D (vs.take r ++ y :: vs.drop r) → Q .none { s with heap := h' }) :
    wpAny (model prog w) A (call (.builtin "list.insert") [.ref D, .int r u, y]) Q E s := by
  have l0 := l
  obtain ⟨k, hk⟩ := l
  have N' : News g L s.heap ((D, W.listOf vs.toArray k) :: nx.filter fun p => decide (p.1 ≠ D)) := fun p hp => by
    rcases List.mem_cons.mp hp with rfl | hp
    · exact N _ hk
    · exact N _ (List.mem_filter.mp hp).1
  refine my_insert F N' (fun p hp => by simpa using (List.mem_filter.mp hp).2) hr hb fun h' F' N'' => ?_
  refine h h' _ F' N'' (fun a ws hne ⟨k2, hk2⟩ => ⟨k2, .tail _ (List.mem_filter.mpr ⟨hk2, by simpa using hne⟩)⟩) (fun c v hc => ?_) ⟨k + 1, .head _⟩
  have hne := l0.off N hc
  obtain ⟨o, ho, hd⟩ := hc
  exact ⟨o, .tail _ (List.mem_filter.mpr ⟨ho, by simpa using Ne.symm hne⟩), hd⟩
theorem newList_nx {prog : Program} {w : World} {A : Around} {E : Value → Shared → Prop} {s : Shared} {g : Heap} {L : Addr} {m : Str → Option Value} {nx : List (Addr × Obj)} {items : List Value} {Q : Value → Shared → Prop}
    (F : Fr g L s.heap m) (N : News g L s.heap nx) (hz : items.length ≤ 1000)
    (h : ∀ h' D nx', Fr g L h' m → News g L h' nx' → (∀ p ∈ nx, p ∈ nx') → LAt nx' D items → (∀ a vs, LAt nx a vs → a ≠ D) → Q (.ref D) { s with heap := h' }) : wpAny (model prog w) A (newList items) Q E s :=
  newListN F N hz fun h' D F' N' off => h h' D _ F' N' (fun p hp => .tail _ hp) ⟨0, .head _⟩ fun a vs ⟨k, hk⟩ e => off _ hk e.symm
theorem ends4_len (p q : Nat) (hp : p < 4) : (ends4 p q).length = 4 := by
  unfold ends4
  rw [List.length_append, List.length_cons, List.length_take, List.length_drop]
  have : endsL.length = 3 := rfl
  omega
theorem mails_len (a b : Nat) {es : List (List Nat)} (h : es.length = 4) : (mailsOf a b es).length = 16 := by
  match es, h with
  | [e0, e1, e2, e3], _ => rfl
theorem mails_step (a b : Nat) {es : List (List Nat)} (h : es.length = 4) {i j : Nat} {e f : List Nat} (hi : es[i]? = some e) (hj : es[j]? = some f) : (mailsOf a b es).take (4 * i + (j + 1)) = (mailsOf a b es).take (4 * i + j) ++ [mailOf a b e f] := by
  have h1 := (List.getElem?_eq_some_iff.mp hi).1
  have h2 := (List.getElem?_eq_some_iff.mp hj).1
  match es, h with
  | [e0, e1, e2, e3], _ =>
    obtain rfl | rfl | rfl | rfl : i = 0 ∨ i = 1 ∨ i = 2 ∨ i = 3 := by simp at h1; omega
    all_goals
      obtain rfl | rfl | rfl | rfl : j = 0 ∨ j = 1 ∨ j = 2 ∨ j = 3 := by simp at h2; omega
      all_goals (cases hi; cases hj; rfl)
theorem ends4_short {p q : Nat} {x : List Nat} (hx : x ∈ ends4 p q) : x.length ≤ 2 := by
  unfold ends4 at hx
  have hk : (kindsL.getD q []).length ≤ 2 := by
    rcases q with _ | _ | _ | _ | q <;> simp [kindsL]
  have he : ∀ y ∈ endsL, y.length ≤ 2 := by
    intro y hy
    simp [endsL] at hy
    rcases hy with rfl | rfl | rfl <;> simp
  rcases List.mem_append.mp hx with h | h
  · exact he x (List.mem_of_mem_take h)
  · rcases List.mem_cons.mp h with rfl | h
    · exact hk
    · exact he x (List.mem_of_mem_drop h)
theorem mails_short {a b p q : Nat} {x : List Nat} (hp : p < 4) (hx : x ∈ mailsOf a b (ends4 p q)) (f1 : (firstOf a).length ≤ 2) (f2 : (secondOf b).length ≤ 2) : x.length ≤ 1000 := by
  unfold mailsOf at hx
  obtain ⟨e, he, hx⟩ := List.mem_flatMap.mp hx
  obtain ⟨f, hf, rfl⟩ := List.mem_map.mp hx
  have h1 := ends4_short he
  have h2 := ends4_short hf
  unfold mailOf
  simp only [List.length_append]
  omega
def nums2 (ks : List Int) : List Int := ks.take 4 ++ [0, 4, 5].drop ks.length
theorem nums2_len (ks : List Int) : 3 ≤ (nums2 ks).length ∧ (nums2 ks).length ≤ 4 := by
  unfold nums2
  rw [List.length_append, List.length_take, List.length_drop]
  simp
  omega
section
variable {prog : Program} {w : World} {A : Around} {E : Value → Shared → Prop} {s : Shared} {h₁ : Heap} {tk₁ : Tok}
theorem srcStrsC (hh : A.handled = none) {l : Addr} {items : List Value} {ns : List (List Nat)} {n : Nat} (hk : Kept s.heap h₁) (hz : s.heap.objs.size ≤ h₁.objs.size) (hl : h₁.IsList l items.toArray) (hi : StrsAt items ns) (hn : ns.length = n) :
    wpAny (model prog w) A (pyIter (.ref l)) (fun it s₂ => SrcC prog w A s n (fun i v => ∃ x t, v = .str (ofL x) t ∧ ns[i]? = some x) it s₂) E { s with heap := h₁, toks := tk₁ } := by
  obtain rfl : n = items.toArray.size := by rw [List.size_toArray, hi.len, hn]
  refine wpAny_mono (srcList (s := s) hh hk hz hl) (fun it s₂ h => ?_) fun _ _ e => e
  obtain ⟨I, fp, wr, P0, St, h, tk, e1, e2, B, hlv, hst, hfp, hwr, hk', hz', hPP⟩ := h
  refine ⟨I, fp, wr, P0, St, h, tk, e1, e2, B, hlv, hst, hfp, hwr, hk', hz', fun i v hv => ?_⟩
  have hv' := hPP i v hv
  dsimp only at hv'
  rw [List.getElem?_toArray] at hv'
  exact hi.at hv'
end
theorem news_put {g h h' : Heap} {L D : Addr} {o : Obj} {m : Str → Option Value} {nx : List (Addr × Obj)} (F : Fr g L h m) (N : News g L h nx) (hk : Kept h h') (hD : h'.get? D = some o) (h0 : h.get? D = none) : News g L h' ((D, o) :: nx) := fun p hp => by
  rcases List.mem_cons.mp hp with rfl | hp
  · refine ⟨hD, fun e => ?_, ?_⟩
    · obtain ⟨oL, _, _, ho, _⟩ := F.ns
      dsimp only at e
      rw [e, ho] at h0
      cases h0
    · cases e : g.get? D with
      | none => rfl
      | some o2 => have := F.keep _ _ e; rw [h0] at this; cases this
  · exact News.keepsAll N hk p hp
end Mine
end
section
open PySem PySem.W PyProof.Rows PySem.Calls
namespace Mine
set_option maxRecDepth 100000
set_option maxHeartbeats 8000000
local macro_rules | `(tactic| walk_at "no key 0") => `(tactic| skip)
local macro_rules | `(tactic| walk_at "no key 1") => `(tactic| skip)
local macro_rules | `(tactic| walk_at "no key 2") => `(tactic| skip)
local macro_rules | `(tactic| walk_at "no key 3") => `(tactic| skip)
local macro_rules | `(tactic| walk_at "no key 4") => `(tactic| skip)
local macro_rules | `(tactic| walk_at "no key 5") => `(tactic| skip)
local macro_rules | `(tactic| walk_at "no key 6") => `(tactic| skip)
local macro_rules | `(tactic| walk_at "no key 7") => `(tactic| skip)
local macro_rules | `(tactic| walk_at "no key 8") => `(tactic| skip)
local macro_rules | `(tactic| walk_at "no key 9") => `(tactic| skip)
local macro_rules | `(tactic| walk_at "no key 10") => `(tactic| skip)
local macro_rules | `(tactic| walk_at "no key 11") => `(tactic| skip)
local macro_rules | `(tactic| walk_at "eval Name") => `(tactic| ((try dsimp only); first | (refine cmpName (by assumption) rfl rfl ?_ rfl rfl; (try dsimp only)) | (refine cmpCell (by assumption) rfl rfl ?_ rfl rfl; (try dsimp only))))

theorem board_ok (w : World) (mean : ExcName → Option Value) (mg mb : Str → Option Value) (A : Around) (s : Shared) (Q E : Value → Shared → Prop)
    (ln : Addr) (vs : List Value) (ns : List Int)
    (X : (hd.heap_39 w.params).In s.heap) (T : Top hd.view_39 (looseW hd.view_39 [Str.ofString "insort_right", Str.ofString "bisect_right", Str.ofString "bisect_left", Str.ofString "_twin_re_1", Str.ofString "_twin_re_2"]) mean mg mb s.heap)
    (hh : A.handled = none) (hd0 : A.depth + 10 < recursionLimit) (hu : A.units + 60 < cLine) (hl : s.heap.IsList ln vs.toArray) (hi : IntsAre vs ns) (hlen : 2 ≤ ns.length) (hlen2 : ns.length ≤ 100)
    (hret : ∀ D (ys : List Value) k h' tk (a b p q : Nat), a < 2 → b < 2 → p < 4 → q < 4 → Kept s.heap h' → h'.get? D = some (W.listOf ys.toArray k) → StrsAt ys (boardOf a b p q) → s.heap.get? D = none → Q (.ref D) { s with heap := h', toks := tk }) :
    wpAny (model PySem.Challenge.rw_pg0173_02.row.prog w) A (call (.ref 94) [.ref ln]) Q E s := by
  w_top off
  obtain ⟨hA, dp, fr, gd, un⟩ := A
  obtain rfl : hA = none := hh
  dsimp only at hd0 hu
  revert X; k_fill; intro X
  have hd1 : (Around.mk none dp fr gd un).depth < recursionLimit := by dsimp only; omega
  refine' enterC ?kX ?kT ?k8 ?k6 ?k7 ?k9 ?kB ?c1 ?c2 ?c3 ?c4 ?_
  case kX => assumption
  case kT => assumption
  case k6 => k_is
  case k7 => k_is
  case k8 => assumption
  case k9 => first | exact BindsTo.of_eq rfl | exact kp_binds (by assumption) (fun _ => rfl)
  case kB => intro n x hx; first | (rw [List.mem_singleton.mp hx]; exact .inl rfl)
  case c1 => decide
  case c2 => exact rfl
  case c3 => exact rfl
  case c4 => exact rfl
  intro L h1 tk1 cells F N CA
  obtain ⟨m0, F0, q0⟩ : ∃ m, Fr s.heap L h1 m ∧ has [(Str.ofString "numbers", .ref ln)] m := ⟨_, F, has.cons rfl has.nil⟩
  have c1 : CAt cells (L + 1) none := cellsAt (n := Str.ofString "first") CA (.tail _ (.tail _ (.tail _ (.head _))))
  have c2 : CAt cells (L + 1 + 1) none := cellsAt (n := Str.ofString "second") CA (.tail _ (.tail _ (.head _)))
  have c3 : CAt cells (L + 1 + 1 + 1) none := cellsAt (n := Str.ofString "sent") CA (.tail _ (.head _))
  have c4 : CAt cells (L + 1 + 1 + 1 + 1) none := cellsAt (n := Str.ofString "ends") CA (.head _)
  clear F CA
  have F1 := has.fr F0 q0
  iterate 8 (first | (k_unfold; (try dsimp only)) | walk1 | (dsimp only; walk1) | (leave1; (try dsimp only)) | skip)
  refine newListN (s := Shared.mk _ _ _ _ _) F1 N (by show 2 ≤ 1000; decide) fun h2 Dd F2 N2 off2 => ?_
  refine stLocN (s := Shared.mk _ _ _ _ _) F2 N2 fun h3 F3 N3 => ?_
  have hdv : StrsAt [Value.str (Str.ofString "") tk1, Value.str (Str.ofString ".") (tk1 + 1)] dotsL := .cons [] _ (.cons [46] _ .nil)
  generalize [Value.str (Str.ofString "") tk1, Value.str (Str.ofString ".") (tk1 + 1)] = dv at hdv N3
  have ld : LAt ((Dd, W.listOf dv.toArray 0) :: cells) Dd dv := ⟨0, .head _⟩
  have hup : ∀ p ∈ cells, p ∈ (Dd, W.listOf dv.toArray 0) :: cells := fun p hp => .tail _ hp
  replace c1 := c1.mono hup
  replace c2 := c2.mono hup
  replace c3 := c3.mono hup
  replace c4 := c4.mono hup
  generalize (Dd, W.listOf dv.toArray 0) :: cells = nx at *
  obtain ⟨m3, G3, q3⟩ : ∃ m, Fr s.heap L h3 m ∧ has [(Str.ofString "numbers", .ref ln), (Str.ofString "dots", .ref Dd)] m := ⟨_, F3, has.cons rfl (has.cons rfl has.nil)⟩
  clear F0 q0 F1 F2 N N2 F3 hup off2
  have F3 := has.fr G3 q3
  clear G3 q3
  obtain ⟨x0, t0, ex0, en0⟩ := ints_get hi (i := 0) (by omega)
  obtain ⟨x1, t1, ex1, en1⟩ := ints_get hi (i := 1) (by omega)
  obtain ⟨a, (ha : (x0.fdiv 9).fmod 2 = _), ha2⟩ := fmod_nat (x0.fdiv 9) 2 (by decide)
  obtain ⟨b, (hb : (x0.fdiv 18).fmod 2 = _), hb2⟩ := fmod_nat (x0.fdiv 18) 2 (by decide)
  obtain ⟨p, (hp : (x1.fdiv 9).fmod 4 = _), hp2⟩ := fmod_nat (x1.fdiv 9) 4 (by decide)
  obtain ⟨q, (hq : (x0.fdiv 36).fmod 4 = _), hq2⟩ := fmod_nat (x0.fdiv 36) 4 (by decide)
  obtain ⟨u0, w0, eu0, eu1⟩ := strs_get hdv (i := a) ha2
  obtain ⟨v0, z0, ev0, ev1⟩ := strs_get hdv (i := b) hb2
  have hln : ∀ h : Heap, Kept s.heap h → h.IsList ln vs.toArray := fun h k => list_kept k hl
  have hvl : vs.length < 2 ^ 60 := by rw [ints_len hi]; exact Nat.lt_of_le_of_lt hlen2 (by decide)
  have hdl : dv.length = 2 := by rw [hdv.len]; rfl
  have hu0 : u0.length ≤ 1 := by
    have := List.mem_of_getElem? eu1
    simp [dotsL] at this
    rcases this with rfl | rfl <;> simp
  have hv0 : v0.length ≤ 1 := by
    have := List.mem_of_getElem? ev1
    simp [dotsL] at this
    rcases this with rfl | rfl <;> simp
  iterate 10 (first | (k_unfold; (try dsimp only)) | walk1 | (dsimp only; walk1) | (leave1; (try dsimp only)) | skip)
  refine item_use (j := 0) (s := Shared.mk _ _ _ _ _) (hln _ F3.keep) hvl ex0 ?_
  dsimp only
  iterate 4 (first | (k_unfold; (try dsimp only)) | walk1 | (dsimp only; walk1) | (leave1; (try dsimp only)) | skip)
  rw [ha]
  refine item_use (j := a) (s := Shared.mk _ _ _ _ _) (ld.list N3) (by rw [hdl]; decide) eu0 ?_
  dsimp only
  iterate 1 (first | (k_unfold; (try dsimp only)) | walk1 | (dsimp only; walk1) | (leave1; (try dsimp only)) | skip)
  refine add_use (by rw [ofL_len, show (Str.ofString "a").length = 1 from rfl]; omega) fun t1' k1' => ?_
  refine stCell (s := Shared.mk _ _ _ _ _) F3 N3 rfl c1 fun h4 n4 F4 N4 hl4 hc4 C1 => ?_
  dsimp only at F4 N4 ⊢
  replace ld := hl4 _ _ ld
  replace c2 := hc4 _ _ (cne L 2 1 (by decide)) c2
  replace c3 := hc4 _ _ (cne L 3 1 (by decide)) c3
  replace c4 := hc4 _ _ (cne L 4 1 (by decide)) c4
  clear F3 N3 hl4 hc4 c1
  iterate 10 (first | (k_unfold; (try dsimp only)) | walk1 | (dsimp only; walk1) | (leave1; (try dsimp only)) | skip)
  refine item_use (j := 0) (s := Shared.mk _ _ _ _ _) (hln _ F4.keep) hvl ex0 ?_
  dsimp only
  iterate 4 (first | (k_unfold; (try dsimp only)) | walk1 | (dsimp only; walk1) | (leave1; (try dsimp only)) | skip)
  rw [hb]
  refine item_use (j := b) (s := Shared.mk _ _ _ _ _) (ld.list N4) (by rw [hdl]; decide) ev0 ?_
  dsimp only
  iterate 1 (first | (k_unfold; (try dsimp only)) | walk1 | (dsimp only; walk1) | (leave1; (try dsimp only)) | skip)
  refine add_use (by rw [ofL_len, show (Str.ofString "b").length = 1 from rfl]; omega) fun t2' k2' => ?_
  refine stCell (s := Shared.mk _ _ _ _ _) F4 N4 rfl c2 fun h5 n5 F5 N5 hl5 hc5 C2 => ?_
  dsimp only at F5 N5 ⊢
  replace ld := hl5 _ _ ld
  replace C1 := hc5 _ _ (cne L 1 2 (by decide)) C1
  replace c3 := hc5 _ _ (cne L 3 2 (by decide)) c3
  replace c4 := hc5 _ _ (cne L 4 2 (by decide)) c4
  clear F4 N4 hl5 hc5 c2
  have g1 : (ofL u0).cps.toList ++ (Str.ofString "a").cps.toList = firstOf a := by
    unfold firstOf
    rw [List.getD_eq_getElem?_getD, eu1]
    rfl
  have g2 : (ofL v0).cps.toList ++ (Str.ofString "b").cps.toList = secondOf b := by
    unfold secondOf
    rw [List.getD_eq_getElem?_getD, ev1]
    rfl
  rw [g1] at C1
  rw [g2] at C2
  have f1 : (firstOf a).length ≤ 2 := by unfold firstOf; rw [List.getD_eq_getElem?_getD, eu1, List.length_append]; simp; omega
  have f2 : (secondOf b).length ≤ 2 := by unfold secondOf; rw [List.getD_eq_getElem?_getD, ev1, List.length_append]; simp; omega
  iterate 15 (first | (k_unfold; (try dsimp only)) | walk1 | (dsimp only; walk1) | (leave1; (try dsimp only)) | skip)
  refine item_use (j := 0) (s := Shared.mk _ _ _ _ _) (hln _ F5.keep) hvl ex0 ?_
  dsimp only
  iterate 4 (first | (k_unfold; (try dsimp only)) | walk1 | (dsimp only; walk1) | (leave1; (try dsimp only)) | skip)
  rw [ha]
  refine item_use (j := a) (s := Shared.mk _ _ _ _ _) (ld.list N5) (by rw [hdl]; decide) eu0 ?_
  dsimp only
  refine add_two [13, 10] u0 (by simp; omega) fun t3 k3 => ?_
  dsimp only
  refine ldCell (s := Shared.mk _ _ _ _ _) N5 rfl C1 ?_
  refine add_two ([13, 10] ++ u0) (firstOf a) (by simp; omega) fun t4 k4 => ?_
  dsimp only
  iterate 1 (first | (k_unfold; (try dsimp only)) | walk1 | (dsimp only; walk1) | (leave1; (try dsimp only)) | skip)
  refine add_two ([13, 10] ++ u0 ++ firstOf a) [13, 10] (by simp; omega) fun t5 k5 => ?_
  dsimp only
  iterate 7 (first | (k_unfold; (try dsimp only)) | walk1 | (dsimp only; walk1) | (leave1; (try dsimp only)) | skip)
  refine item_use (j := 0) (s := Shared.mk _ _ _ _ _) (hln _ F5.keep) hvl ex0 ?_
  dsimp only
  iterate 4 (first | (k_unfold; (try dsimp only)) | walk1 | (dsimp only; walk1) | (leave1; (try dsimp only)) | skip)
  rw [hb]
  refine item_use (j := b) (s := Shared.mk _ _ _ _ _) (ld.list N5) (by rw [hdl]; decide) ev0 ?_
  dsimp only
  refine add_two ([13, 10] ++ u0 ++ firstOf a ++ [13, 10]) v0 (by simp; omega) fun t6 k6 => ?_
  dsimp only
  refine ldCell (s := Shared.mk _ _ _ _ _) N5 rfl C2 ?_
  refine add_two ([13, 10] ++ u0 ++ firstOf a ++ [13, 10] ++ v0) (secondOf b) (by simp; omega) fun t7 k7 => ?_
  refine stCell (s := Shared.mk _ _ _ _ _) F5 N5 rfl c3 fun h6 n6 F6 N6 hl6 hc6 C3 => ?_
  dsimp only at F6 N6 ⊢
  have g3 : [13, 10] ++ u0 ++ firstOf a ++ [13, 10] ++ v0 ++ secondOf b = sent2 a b := by
    unfold sent2
    rw [List.getD_eq_getElem?_getD, List.getD_eq_getElem?_getD, eu1, ev1]
    rfl
  rw [g3] at C3
  replace ld := hl6 _ _ ld
  replace C1 := hc6 _ _ (cne L 1 3 (by decide)) C1
  replace C2 := hc6 _ _ (cne L 2 3 (by decide)) C2
  replace c4 := hc6 _ _ (cne L 4 3 (by decide)) c4
  clear F5 N5 hl6 hc6 c3
  iterate 10 (first | (k_unfold; (try dsimp only)) | walk1 | (dsimp only; walk1) | (leave1; (try dsimp only)) | skip)
  refine newListN (s := Shared.mk _ _ _ _ _) F6 N6 (by show 3 ≤ 1000; decide) fun h7 De F7 N7 off7 => ?_
  dsimp only at F7 N7 ⊢
  have hev : StrsAt [Value.str (Str.ofString "\n") k7, Value.str (Str.ofString "\r\n") (k7 + 1), Value.str (Str.ofString "\r") (k7 + 1 + 1)] endsL := .cons [10] _ (.cons [13, 10] _ (.cons [13] _ .nil))
  generalize [Value.str (Str.ofString "\n") k7, Value.str (Str.ofString "\r\n") (k7 + 1), Value.str (Str.ofString "\r") (k7 + 1 + 1)] = ev at hev N7
  have le : LAt ((De, W.listOf ev.toArray 0) :: n6) De ev := ⟨0, .head _⟩
  have hup : ∀ p ∈ n6, p ∈ (De, W.listOf ev.toArray 0) :: n6 := fun p hp => .tail _ hp
  replace C1 := C1.mono hup
  replace C2 := C2.mono hup
  replace C3 := C3.mono hup
  replace c4 := c4.mono hup
  generalize (De, W.listOf ev.toArray 0) :: n6 = n7 at *
  clear F6 N6 hup off7 ld
  refine stCell (s := Shared.mk _ _ _ _ _) F7 N7 rfl c4 fun h8 n8 F8 N8 hl8 hc8 C4 => ?_
  dsimp only at F8 N8 ⊢
  replace le := hl8 _ _ le
  replace C1 := hc8 _ _ (cne L 1 4 (by decide)) C1
  replace C2 := hc8 _ _ (cne L 2 4 (by decide)) C2
  replace C3 := hc8 _ _ (cne L 3 4 (by decide)) C3
  clear F7 N7 hl8 hc8 c4
  have hel : ev.length = 3 := by rw [hev.len]; rfl
  iterate 3 (first | (k_unfold; (try dsimp only)) | walk1 | (dsimp only; walk1) | (leave1; (try dsimp only)) | skip)
  refine ldCell (s := Shared.mk _ _ _ _ _) N8 rfl C4 ?_
  obtain ⟨ke, hke⟩ := id le
  refine kl_method (s := Shared.mk _ _ _ _ _) N8 hke PySem.F.slot_list_insert PySem.F.type_list_insert ?_
  dsimp only
  iterate 7 (first | (k_unfold; (try dsimp only)) | walk1 | (dsimp only; walk1) | (leave1; (try dsimp only)) | skip)
  refine item_use (j := 1) (s := Shared.mk _ _ _ _ _) (hln _ F8.keep) hvl ex1 ?_
  dsimp only
  iterate 4 (first | (k_unfold; (try dsimp only)) | walk1 | (dsimp only; walk1) | (leave1; (try dsimp only)) | skip)
  rw [hp]
  iterate 12 (first | (k_unfold; (try dsimp only)) | walk1 | (dsimp only; walk1) | (leave1; (try dsimp only)) | skip)
  refine newList_nx (s := Shared.mk _ _ _ _ _) F8 N8 (by show 4 ≤ 1000; decide) fun h9 Dk n9 F9 N9 up9 lk ne9 => ?_
  obtain ⟨kv, hkv, lk⟩ : ∃ kv, StrsAt kv kindsL ∧ LAt n9 Dk kv := ⟨_, .cons [10, 10] _ (.cons [10, 13] _ (.cons [13, 13] _ (.cons [] _ .nil))), lk⟩
  dsimp only at F9 N9 ⊢
  have hDk : De ≠ Dk := ne9 _ _ le
  replace le := le.mono up9
  replace C1 := C1.mono up9
  replace C2 := C2.mono up9
  replace C3 := C3.mono up9
  replace C4 := C4.mono up9
  obtain ⟨kx, kt, ek0, ek1⟩ := strs_get hkv (i := q) hq2
  clear F8 N8 up9 ne9 hke
  iterate 5 (first | (k_unfold; (try dsimp only)) | walk1 | (dsimp only; walk1) | (leave1; (try dsimp only)) | skip)
  refine item_use (j := 0) (s := Shared.mk _ _ _ _ _) (hln _ F9.keep) hvl ex0 ?_
  dsimp only
  iterate 4 (first | (k_unfold; (try dsimp only)) | walk1 | (dsimp only; walk1) | (leave1; (try dsimp only)) | skip)
  rw [hq]
  refine item_use (j := q) (s := Shared.mk _ _ _ _ _) (lk.list N9) (by rw [hkv.len]; decide) ek0 ?_
  dsimp only
  iterate 1 (first | (k_unfold; (try dsimp only)) | walk1 | (dsimp only; walk1) | (leave1; (try dsimp only)) | skip)
  refine insert_nx (s := Shared.mk _ _ _ _ _) F9 N9 le (by rw [hel]; omega) (by rw [hel]; decide) fun h10 n10 F10 N10 la lc le10 => ?_
  dsimp only at F10 N10 ⊢
  replace C1 := lc _ _ C1
  replace C2 := lc _ _ C2
  replace C3 := lc _ _ C3
  replace C4 := lc _ _ C4
  have he4 := hev.ins kx kt p
  have hp4 : endsL.take p ++ kx :: endsL.drop p = ends4 p q := by
    unfold ends4
    rw [List.getD_eq_getElem?_getD, ek1]
    rfl
  rw [hp4] at he4
  generalize ev.take p ++ Value.str (ofL kx) kt :: ev.drop p = ew at he4 le10
  clear F9 N9 la lc le lk hDk
  iterate 2 (first | (k_unfold; (try dsimp only)) | walk1 | (dsimp only; walk1) | (leave1; (try dsimp only)) | skip)
  have hM4 := ends4_len p q hp2
  have hwl : ew.length = 4 := by rw [he4.len, hM4]
  have X7 := X.keeps F10.keep
  have T7 := T.keeps F10.keep
  refine compR (s := Shared.mk _ _ _ _ _) (cl := [(Str.ofString "sent", L + 1 + 1 + 1)]) (names := [Str.ofString "mail"]) (n := 16) (P' := fun i vals => ∃ x t, vals = [.str (ofL x) t] ∧ (mailsOf a b (ends4 p q))[i]? = some x) (by rfl) (by decide) (by rfl) (by decide) (by decide) (by decide)
    (fun i ys made => made = [] ∧ StrsAt ys (((mailsOf a b (ends4 p q)).take i).filter fun m => decide (quoted m = sent2 a b))) ⟨rfl, .nil⟩ ?it ?turn ?done
  case it =>
    refine compR2 (s := Shared.mk _ _ _ _ _) (cl := [(Str.ofString "second", L + 1 + 1), (Str.ofString "first", L + 1), (Str.ofString "ends", L + 1 + 1 + 1 + 1)]) (n1 := 4) (n2 := 4) (P1 := fun i v => ew[i]? = some v) (P2 := fun i v => ew[i]? = some v) (by rfl) (by decide) (by rfl) (by decide) (by rfl) (by rfl) (by decide) (by decide)
      (fun i j ys => StrsAt ys ((mailsOf a b (ends4 p q)).take (4 * i + j))) .nil ?it1 ?it2 ?turn2 ?next ?done2
    case it1 =>
      refine ldCell (s := Shared.mk _ _ _ _ _) N10 rfl C4 ?_
      exact srcListC (s := Shared.mk _ _ _ _ _) rfl (fun _ _ e => e) (Nat.le_refl _) (le10.list N10) hwl
    case it2 =>
      intro i C h tk m hin F
      refine cmpCell (s := Shared.mk _ _ _ _ _) (cell_kept F.keep (C4.cell N10)) rfl rfl ?_ rfl rfl
      exact srcListO rfl (by obtain ⟨k, hk⟩ := le10; exact ⟨_, (N10 _ hk).1⟩) (list_kept F.keep (le10.list N10)) hwl
    case turn2 =>
      intro i j ys C h tk m v1 v2 hin hjn hJ h1 h2 F hm
      obtain ⟨e, et, rfl, he⟩ := he4.at h1
      obtain ⟨f, ft, rfl, hf⟩ := he4.at h2
      have hel4 : ∀ x ∈ ends4 p q, x.length ≤ 2 := fun x hx => ends4_short hx
      have l1 := hel4 e (List.mem_of_getElem? he)
      have l2 := hel4 f (List.mem_of_getElem? hf)
      have F1 := has.fr F hm
      have cf : h.IsCell (L + 1) (some (.str (ofL (firstOf a)) t1')) := cell_kept F.keep (C1.cell N10)
      have cs : h.IsCell (L + 1 + 1) (some (.str (ofL (secondOf b)) t2')) := cell_kept F.keep (C2.cell N10)
      clear F
      iterate 5 (first | (k_unfold; (try dsimp only)) | walk1 | (dsimp only; walk1) | (leave1; (try dsimp only)) | skip)
      refine add_two e (firstOf a) (by omega) fun t3 k3 => ?_
      dsimp only
      iterate 1 (first | (k_unfold; (try dsimp only)) | walk1 | (dsimp only; walk1) | (leave1; (try dsimp only)) | skip)
      refine add_two (e ++ firstOf a) f (by simp; omega) fun t4 k4 => ?_
      dsimp only
      iterate 1 (first | (k_unfold; (try dsimp only)) | walk1 | (dsimp only; walk1) | (leave1; (try dsimp only)) | skip)
      refine add_two (e ++ firstOf a ++ f) (secondOf b) (by simp; omega) fun t5 k5 => ?_
      refine ⟨h, k5, rfl, Kept.refl _, ?_⟩
      rw [mails_step a b hM4 he hf]
      exact hJ.snoc _ _
    case next =>
      intro i ys hin h
      exact h
    case done2 =>
      intro D ys k h' tk hys hk hD hD0 hsz
      dsimp only at hk hsz
      rw [List.take_of_length_le (by rw [mails_len a b hM4]; exact Nat.le_refl _)] at hys
      exact srcStrs (s := Shared.mk _ _ _ _ _) rfl hk (Nat.le_of_lt (Nat.lt_of_le_of_lt hsz (Heap.lt_size hD))) ⟨_, hD, rfl, _, rfl⟩ hys (mails_len a b hM4)
  case turn =>
    intro i ys made C h2 tk2 m2 own vals hin hJ hln hP F2 N2
    dsimp only at F2 N2
    obtain ⟨x, xt, rfl, hx⟩ := hP
    have F3 := has.fr F2 (ps := [(Str.ofString "mail", .str (ofL x) xt)]) (has.cons rfl has.nil)
    clear F2
    have hxl := mails_short hp2 (List.mem_of_getElem? hx) f1 f2
    refine oneTest ?_
    iterate 9 (first | (k_unfold; (try dsimp only)) | walk1 | (dsimp only; walk1) | (leave1; (try dsimp only)) | skip)
    refine quote_ok w mean mg mb _ (Shared.mk _ _ _ _ _) _ _ x xt (X7.keeps F3.keep) (T7.keeps F3.keep) rfl (by dsimp only [Around.deeper]; omega) (by dsimp only [Around.deeper]; omega) hxl fun t' h' tk' hk' => ?_
    have F4 := Fr.after F3 hk'
    have N4 := News.keepsAll N2 hk'
    have hcell : h'.IsCell (L + 1 + 1 + 1) (some (.str (ofL (sent2 a b)) t7)) := cell_kept F4.keep (C3.cell N10)
    dsimp only at F4 N4 ⊢
    iterate 2 (first | (k_unfold; (try dsimp only)) | walk1 | (dsimp only; walk1) | (leave1; (try dsimp only)) | skip)
    rw [ofL_beq]
    by_cases hq3 : quoted x = sent2 a b
    · rw [decide_eq_true hq3]
      iterate 4 (first | (k_unfold; (try dsimp only)) | walk1 | (dsimp only; walk1) | (leave1; (try dsimp only)) | skip)
      refine EltEnd.mk F4 N4 ⟨hJ.1, ?_⟩
      rw [List.take_add_one, hx, List.filter_append]
      simp only [Option.toList_some, List.filter_cons, decide_eq_true hq3, if_true, List.filter_nil]
      exact hJ.2.snoc _ _
    · rw [decide_eq_false hq3]
      iterate 3 (first | (k_unfold; (try dsimp only)) | walk1 | (dsimp only; walk1) | (leave1; (try dsimp only)) | skip)
      refine SkipEnd.mk F4 N4 ⟨hJ.1, ?_⟩
      rw [List.take_add_one, hx, List.filter_append]
      simp only [Option.toList_some, List.filter_cons, decide_eq_false hq3, Bool.false_eq_true, if_false, List.filter_nil, List.append_nil]
      exact hJ.2
  case done =>
    rintro D ys k made h' tk ⟨rfl, hys⟩ hk hp
    dsimp only at hk hp
    have hD := hp _ (.head _)
    rw [List.take_of_length_le (by rw [mails_len a b hM4]; exact Nat.le_refl _)] at hys
    have hk0 : Kept s.heap h' := fun b o e => hk _ _ (F10.keep _ _ e)
    dsimp only [flowVal]
    refine hret D ys k h' tk a b p q ha2 hb2 hp2 hq2 hk0 hD.1 hys ?_
    cases e : s.heap.get? D with
    | none => rfl
    | some o => have := F10.keep _ _ e; rw [hD.2] at this; cases this
theorem board_use {w : World} {mean : ExcName → Option Value} {mg mb : Str → Option Value} {A : Around} {s : Shared} {Q E : Value → Shared → Prop} {g : Heap} {L : Addr} {m : Str → Option Value} {nx : List (Addr × Obj)}
    {ln : Addr} {vs : List Value} {ns : List Int} (F : Fr g L s.heap m) (N : News g L s.heap nx)
    (X : (hd.heap_39 w.params).In g) (T : Top hd.view_39 (looseW hd.view_39 [Str.ofString "insort_right", Str.ofString "bisect_right", Str.ofString "bisect_left", Str.ofString "_twin_re_1", Str.ofString "_twin_re_2"]) mean mg mb g)
    (hh : A.handled = none) (hd0 : A.depth + 10 < recursionLimit) (hu : A.units + 60 < cLine) (hl : s.heap.IsList ln vs.toArray) (hi : IntsAre vs ns) (hlen : 2 ≤ ns.length) (hlen2 : ns.length ≤ 100)
    (hret : ∀ D (ys : List Value) h' tk nx' (a b p q : Nat), a < 2 → b < 2 → p < 4 → q < 4 → Fr g L h' m → News g L h' nx' → (∀ p ∈ nx, p ∈ nx') → LAt nx' D ys → StrsAt ys (boardOf a b p q) → Q (.ref D) { s with heap := h', toks := tk }) :
    wpAny (model PySem.Challenge.rw_pg0173_02.row.prog w) A (call (.ref 94) [.ref ln]) Q E s :=
  board_ok w mean mg mb A s Q E ln vs ns (X.keeps F.keep) (T.keeps F.keep) hh hd0 hu hl hi hlen hlen2 fun D ys k h' tk a b p q ha hb hp hq hk hD hys hD0 => by
    refine hret D ys h' tk ((D, W.listOf ys.toArray k) :: nx) a b p q ha hb hp hq (Fr.after F hk) (fun r hr => ?_) (fun r hr => .tail _ hr) ⟨k, .head _⟩ hys
    rcases List.mem_cons.mp hr with rfl | hr
    · refine ⟨hD, fun e => ?_, ?_⟩
      · obtain ⟨o, _, _, ho, _⟩ := F.ns
        dsimp only at e
        rw [e, ho] at hD0
        cases hD0
      · cases e : g.get? D with
        | none => rfl
        | some o => have := F.keep _ _ e; rw [hD0] at this; cases this
    · exact News.keepsAll N hk r hr
end Mine
end
section
open PySem PySem.W PyProof.Rows PySem.Calls
set_option maxRecDepth 100000
namespace Mine
/-- how many lie not above x -/
theorem cut_at {α : Type} (p : α → Bool) : ∀ (l : List α), l.Pairwise (fun a b => p b = true → p a = true) → ∀ (i : Nat) (a : α), l[i]? = some a → p a = decide (i < (l.filter p).length)
  | [], _, i, a, h => by simp at h
  | x :: l, hp, i, a, h => by
    rw [List.pairwise_cons] at hp
    cases hx : p x with
    | true =>
      rw [List.filter_cons_of_pos hx, List.length_cons]
      cases i with
      | zero => simp at h; subst h; rw [hx]; simp
      | succ i =>
        have := cut_at p l hp.2 i a (by simpa using h)
        rw [this]
        simp
    | false =>
      have hall : ∀ y ∈ l, p y = false := fun y hy => by
        cases e : p y with
        | false => rfl
        | true => rw [hp.1 y hy e] at hx; cases hx
      have hnil : (x :: l).filter p = [] := by
        rw [List.filter_eq_nil_iff]
        intro y hy
        rcases List.mem_cons.mp hy with rfl | hy
        · simp [hx]
        · simp [hall y hy]
      rw [hnil]
      have ha : a ∈ x :: l := List.mem_of_getElem? h
      rcases List.mem_cons.mp ha with rfl | ha
      · simp [hx]
      · simp [hall a ha]
end Mine
end
section
open PySem PySem.W PyProof.Rows PySem.Calls
set_option maxRecDepth 100000
namespace Mine
end Mine
end
section
open PySem PySem.W PyProof.Rows PySem.Calls
set_option maxRecDepth 100000
namespace Mine
def baseOf (a b : Nat) : List (List Nat) := mailsOf a b endsL
def boardAll : Bool := [0, 1].all fun a => [0, 1].all fun b => [0, 1, 2, 3].all fun p => [0, 1, 2, 3].all fun q => ((mailsOf a b (ends4 p q)).filter fun m => decide (dt true (nl false m) = sent2 a b)) == baseOf a b
theorem boardAll_ok : boardAll = true := by decide +kernel
theorem mem_two {a : Nat} (h : a < 2) : a ∈ [0, 1] := by simp; omega
theorem mem_four {a : Nat} (h : a < 4) : a ∈ [0, 1, 2, 3] := by simp; omega
theorem board_is {a b p q : Nat} (ha : a < 2) (hb : b < 2) (hp : p < 4) (hq : q < 4) : boardOf a b p q = baseOf a b := by
  have h := boardAll_ok
  unfold boardAll at h
  simp only [List.all_eq_true] at h
  have h2 := h a (mem_two ha) b (mem_two hb) p (mem_four hp) q (mem_four hq)
  unfold boardOf
  simp only [quoted_is]
  simpa using h2
theorem base_len (a b : Nat) : (baseOf a b).length = 9 := rfl
/-- how many ends of two places are unlike -/
def unlike (i p : Nat) : Nat := (if i % 3 = p % 3 then 0 else 1) + (if i / 3 % 3 = p / 3 % 3 then 0 else 1)
def places : List Nat := [0, 1, 2, 3, 4, 5, 6, 7, 8]
def levAll : Bool := [0, 1].all fun a => [0, 1].all fun b => places.all fun i => places.all fun p => levF ((baseOf a b).getD i []) ((baseOf a b).getD p []) 4 == 2 * (unlike i p : Int)
theorem levAll_ok : levAll = true := by decide +kernel
theorem mem_places {i : Nat} (h : i < 9) : i ∈ places := by simp [places]; omega
theorem lev_base {a b i p : Nat} (ha : a < 2) (hb : b < 2) (hi : i < 9) (hp : p < 9) : levF ((baseOf a b).getD i []) ((baseOf a b).getD p []) 4 = 2 * (unlike i p : Int) := by
  have h := levAll_ok
  unfold levAll at h
  simp only [List.all_eq_true] at h
  have h2 := h a (mem_two ha) b (mem_two hb) i (mem_places hi) p (mem_places hp)
  simpa using h2
def baseLow : Bool := [0, 1].all fun a => [0, 1].all fun b => (baseOf a b).all fun m => decide (m.length ≤ 40) && m.all fun x => [10, 13, 46, 97, 98].contains x
theorem baseLow_ok : baseLow = true := by decide +kernel
theorem base_low {a b : Nat} (ha : a < 2) (hb : b < 2) {m : List Nat} (hm : m ∈ baseOf a b) : m.length ≤ 40 ∧ ∀ x ∈ m, Txt.lower (ofL [x]) = ofL [x] := by
  have h := baseLow_ok
  unfold baseLow at h
  simp only [List.all_eq_true] at h
  have h2 := h a (mem_two ha) b (mem_two hb) m hm
  simp only [Bool.and_eq_true, decide_eq_true_eq, List.all_eq_true] at h2
  refine ⟨h2.1, fun x hx => ?_⟩
  have h3 := h2.2 x hx
  simp at h3
  rcases h3 with rfl | rfl | rfl | rfl | rfl <;> decide +kernel
def postsOf (ns : List Int) : List Int := ns.map fun v => v.fmod 9
/-- a place's list: two for each unlike end, to each post -/
def dueRow (ps : List Int) (i : Nat) : List Int := ps.map fun p => 2 * (unlike i p.toNat : Int)
def dueOf (ps : List Int) : List (List Int) := (List.range 9).map (dueRow ps)
theorem due_len (ps : List Int) : (dueOf ps).length = 9 := by simp [dueOf]
theorem due_at (ps : List Int) {i : Nat} (h : i < 9) : (dueOf ps)[i]? = some (dueRow ps i) := by
  unfold dueOf
  rw [List.getElem?_map, List.getElem?_range h]
  rfl
theorem due_step (ps : List Int) {i : Nat} (h : i < 9) : (dueOf ps).take (i + 1) = (dueOf ps).take i ++ [dueRow ps i] := by
  rw [List.take_add_one, due_at ps h]
  rfl
theorem posts_low {ns : List Int} {x : Int} (h : x ∈ postsOf ns) : ∃ j : Nat, x = j ∧ j < 9 := by
  obtain ⟨v, _, rfl⟩ := List.mem_map.mp h
  obtain ⟨j, h1, h2⟩ := fmod_nat v 9 (by decide)
  exact ⟨j, h1, h2⟩
end Mine
end
section
open PySem PySem.W PyProof.Rows PySem.Calls
set_option maxRecDepth 100000
namespace Mine
/-- insort_right into a list of lists of ints -/
def insR (xs : List (List Int)) (x : List Int) : List (List Int) :=
  let r := bisR (fun i => ltL x (xs.getD i [])) xs.length 0 xs.length
  xs.take r ++ x :: xs.drop r
theorem insR_len (xs : List (List Int)) (x : List Int) : (insR xs x).length = xs.length + 1 := by
  unfold insR
  simp only [List.length_append, List.length_cons, List.length_take, List.length_drop]
  have := bisR_le (fun i => ltL x (xs.getD i [])) xs.length 0 xs.length (Nat.zero_le _)
  omega
theorem insR_fold_len (l : List (List Int)) : ∀ a : List (List Int), (l.foldl insR a).length = a.length + l.length := by
  induction l with
  | nil => intro a; rfl
  | cons x l ih => intro a; rw [List.foldl_cons, ih, insR_len, List.length_cons]; omega
theorem RowsAt.upOff {nx nx' : List (Addr × Obj)} {S : Addr} {rs : List Value} {nss : List (List Int)} (hu : ∀ a vs, a ≠ S → LAt nx a vs → LAt nx' a vs) (h : RowsAt nx rs nss) (hoff : ∀ D, Value.ref D ∈ rs → D ≠ S) : RowsAt nx' rs nss := by
  induction h with
  | nil => exact .nil
  | cons l i _ ih => exact .cons (hu _ _ (hoff _ (.head _)) l) i (ih fun D hD => hoff D (.tail _ hD))
theorem RowsAt.ins {nx : List (Addr × Obj)} {rs : List Value} {nss : List (List Int)} {D : Addr} {vs : List Value} {ns : List Int} (h : RowsAt nx rs nss) (l : LAt nx D vs) (hi : IntsAre vs ns) : ∀ r, RowsAt nx (rs.take r ++ .ref D :: rs.drop r) (nss.take r ++ ns :: nss.drop r) := by
  induction h with
  | nil => intro r; simpa using RowsAt.cons l hi .nil
  | cons l' i' h ih =>
    intro r
    cases r with
    | zero => exact .cons l hi (.cons l' i' h)
    | succ r => exact .cons l' i' (ih r)
section
variable {w : World} {mean : ExcName → Option Value} {mg mb : Str → Option Value} {A : Around} {s : Shared} {Q E : Value → Shared → Prop} {g : Heap} {L : Addr} {m : Str → Option Value}
theorem insort_nx {S : Addr} {vs : List Value} {x : Value} {lt : Nat → Bool} {nw own : List (Addr × Obj)}
    (F : Fr g L s.heap m) (N : News g L s.heap (nw ++ own)) (l : LAt nw S vs) (hown : ∀ q ∈ own, q.1 ≠ S)
    (X : (hd.heap_39 w.params).In g) (T : Top hd.view_39 (looseW hd.view_39 [Str.ofString "insort_right", Str.ofString "bisect_right", Str.ofString "bisect_left", Str.ofString "_twin_re_1", Str.ofString "_twin_re_2"]) mean mg mb g)
    (hh : A.handled = none) (hd0 : A.depth + 7 < recursionLimit) (hu : A.units + 40 < cLine) (hb : vs.length ≤ 90)
    (hlt : ∀ i v, vs[i]? = some v → LtOk PySem.Challenge.rw_pg0173_02.row.prog w s.heap x v (lt i))
    (hret : ∀ h' tk nw', Fr g L h' m → News g L h' (nw' ++ own) → (∀ p ∈ nw', p.1 ∈ nw.map (·.1)) → (∀ a ws, a ≠ S → LAt nw a ws → LAt nw' a ws) → (∀ c v, CAt nw c v → CAt nw' c v) → LAt nw' S (vs.take (bisR lt vs.length 0 vs.length) ++ x :: vs.drop (bisR lt vs.length 0 vs.length)) → Q .none { s with heap := h', toks := tk }) :
    wpAny (model PySem.Challenge.rw_pg0173_02.row.prog w) A (call (.ref 54) [.ref S, x]) Q E s := by
  have l0 := l
  obtain ⟨k, hk⟩ := l
  have Nw : News g L s.heap nw := fun p hp => N p (List.mem_append_left _ hp)
  have N' : News g L s.heap ((S, W.listOf vs.toArray k) :: ((nw.filter fun p => decide (p.1 ≠ S)) ++ own)) := fun p hp => by
    rcases List.mem_cons.mp hp with rfl | hp
    · exact Nw _ hk
    · rcases List.mem_append.mp hp with hp | hp
      · exact Nw _ (List.mem_filter.mp hp).1
      · exact N _ (List.mem_append_right _ hp)
  refine insort_use (lt := lt) F N' (fun p hp => ?_) X T hh hd0 hu hb hlt fun h' tk F' N'' => ?_
  · rcases List.mem_append.mp hp with hp | hp
    · simpa using (List.mem_filter.mp hp).2
    · exact hown p hp
  · refine hret h' tk ((S, W.listOf (vs.take (bisR lt vs.length 0 vs.length) ++ x :: vs.drop (bisR lt vs.length 0 vs.length)).toArray (k + 1)) :: nw.filter fun p => decide (p.1 ≠ S)) F' N'' (fun p hp => ?_) (fun a ws hne ⟨k2, hk2⟩ => ⟨k2, .tail _ (List.mem_filter.mpr ⟨hk2, by simpa using hne⟩)⟩) (fun c v hc => ?_) ⟨k + 1, .head _⟩
    · rcases List.mem_cons.mp hp with rfl | hp
      · exact List.mem_map.mpr ⟨_, hk, rfl⟩
      · exact List.mem_map.mpr ⟨p, (List.mem_filter.mp hp).1, rfl⟩
    · have hne := l0.off Nw hc
      obtain ⟨o, ho, hd⟩ := hc
      exact ⟨o, .tail _ (List.mem_filter.mpr ⟨ho, by simpa using Ne.symm hne⟩), hd⟩
end
end Mine
end
section
open PySem PySem.W PyProof.Rows PySem.Calls
set_option maxRecDepth 100000
namespace Mine
section
variable {prog : Program} {w : World} {A : Around} {E : Value → Shared → Prop} {s : Shared} {h₁ : Heap} {tk₁ : Tok}
theorem srcIntsC (hh : A.handled = none) {l : Addr} {items : List Value} {ns : List Int} {n : Nat} (hk : Kept s.heap h₁) (hz : s.heap.objs.size ≤ h₁.objs.size) (hl : h₁.IsList l items.toArray) (hi : IntsAre items ns) (hn : ns.length = n) :
    wpAny (model prog w) A (pyIter (.ref l)) (fun it s₂ => SrcC prog w A s n (fun i v => ∃ x t, v = .int x t ∧ ns[i]? = some x) it s₂) E { s with heap := h₁, toks := tk₁ } := by
  obtain rfl : n = items.toArray.size := by rw [List.size_toArray, ints_len hi, hn]
  refine wpAny_mono (srcList (s := s) hh hk hz hl) (fun it s₂ h => ?_) fun _ _ e => e
  obtain ⟨I, fp, wr, P0, St, h, tk, e1, e2, B, hlv, hst, hfp, hwr, hk', hz', hPP⟩ := h
  refine ⟨I, fp, wr, P0, St, h, tk, e1, e2, B, hlv, hst, hfp, hwr, hk', hz', fun i v hv => ?_⟩
  have hv' := hPP i v hv
  dsimp only at hv'
  rw [List.getElem?_toArray] at hv'
  exact ints_at hi hv'
theorem srcTupleS (hh : A.handled = none) {l : Addr} {items : List Value} {n : Nat} {x : Str} {px : Pos} (hk : Kept s.heap h₁) (hz : s.heap.objs.size ≤ h₁.objs.size) (hl : h₁.IsTuple l items.toArray) (hn : items.length = n) :
    wpAny (model prog w) A (pyIter (.ref l)) (fun it s₂ => Src prog w A s (.Name x px) [x] n (fun i vals => ∃ v, vals = [v] ∧ items[i]? = some v) it s₂) E { s with heap := h₁, toks := tk₁ } := by
  subst hn
  refine wpAny_pyIter_tuple hl ?_
  have hlt : l < h₁.objs.size := by obtain ⟨_, e, _⟩ := hl; exact Heap.lt_size e
  have hsrc : SrcC prog w A s items.toArray.size (fun i v => items.toArray[i]? = some v) (.ref h₁.objs.size) { s with heap := h₁.push { cls := .type "tuple_iterator", data := .fields #[.ref l, .int 0 0] }, toks := tk₁ } := by
    refine ⟨h₁.objs.size, _, _, _, _, _, _, rfl, rfl, Walks.tuple hh h₁.objs.size l (Nat.ne_of_lt hlt) items.toArray, fun i h st b hb => ?_, ⟨⟨_, Heap.get?_push_size _ rfl, rfl, rfl⟩, hl.at fun o e => Heap.get?_push_of_some _ e⟩, fun b hb => ?_, fun b hb => ?_, fun b o e => Heap.get?_push_of_some _ (hk b o e), ?_, fun i v hv => hv⟩
    · obtain ⟨⟨o, ho, _⟩, _⟩ := st
      exact ⟨o, by rw [List.mem_singleton.mp hb]; exact ho⟩
    · rw [Heap.size_push]
      simp only [List.mem_cons, List.not_mem_nil, or_false] at hb
      rcases hb with rfl | rfl
      · exact Nat.lt_succ_self _
      · exact Nat.lt_succ_of_lt hlt
    · rw [List.mem_singleton.mp hb]; exact none_of_size hz
    · rw [Heap.size_push]; exact Nat.le_succ_of_le hz
  have := hsrc.src (x := x) (px := px)
  simpa using this
end
/-- unlike ends counted so far -/
def unl (i p : Nat) : Nat → Nat
  | 0 => 0
  | 1 => if i % 3 = p % 3 then 0 else 1
  | _ => unlike i p
theorem unl_one (i p : Nat) : ((((i : Int).fdiv 1).fmod 3 != ((p : Int).fdiv 1).fmod 3) = false ↔ i % 3 = p % 3) := by
  rw [Int.fdiv_eq_ediv_of_nonneg _ (by decide), Int.fdiv_eq_ediv_of_nonneg _ (by decide), Int.fmod_eq_emod_of_nonneg _ (by decide), Int.fmod_eq_emod_of_nonneg _ (by decide)]
  simp only [bne_eq_false_iff_eq]
  omega
theorem unl_three (i p : Nat) : ((((i : Int).fdiv 3).fmod 3 != ((p : Int).fdiv 3).fmod 3) = false ↔ i / 3 % 3 = p / 3 % 3) := by
  rw [Int.fdiv_eq_ediv_of_nonneg _ (by decide), Int.fdiv_eq_ediv_of_nonneg _ (by decide), Int.fmod_eq_emod_of_nonneg _ (by decide), Int.fmod_eq_emod_of_nonneg _ (by decide)]
  simp only [bne_eq_false_iff_eq]
  omega
theorem unlike_le (i p : Nat) : unlike i p ≤ 2 := by unfold unlike; split <;> split <;> omega
theorem unl_first {i p : Nat} {b : Bool} (h : ((((i : Int).fdiv 1).fmod 3 != ((p : Int).fdiv 1).fmod 3) = b)) : unl i p 1 = if b = true then 1 else 0 := by
  unfold unl
  have := unl_one i p
  cases b with
  | false => rw [if_pos (this.mp h)]; simp
  | true => rw [if_neg (fun q => by rw [this.mpr q] at h; cases h)]; simp
theorem unl_second {i p : Nat} {b : Bool} (h : ((((i : Int).fdiv 3).fmod 3 != ((p : Int).fdiv 3).fmod 3) = b)) : unl i p 2 = unl i p 1 + if b = true then 1 else 0 := by
  show unlike i p = (if i % 3 = p % 3 then 0 else 1) + _
  unfold unlike
  have := unl_three i p
  cases b with
  | false => rw [if_pos (this.mp h)]; simp
  | true => rw [if_neg (c := i / 3 % 3 = p / 3 % 3) (fun q => by rw [this.mpr q] at h; cases h)]; simp
theorem newTuple_kept {prog : Program} {w : World} {A : Around} {E : Value → Shared → Prop} {s : Shared} {items : List Value} {Q : Value → Shared → Prop} (hz : items.length ≤ 1000)
    (h : ∀ h' D, Kept s.heap h' → s.heap.objs.size ≤ h'.objs.size → h'.IsTuple D items.toArray → Q (.ref D) { s with heap := h' }) : wpAny (model prog w) A (newTuple items) Q E s := by
  refine wpAny_newTuple (h _ _ (fun b o e => Heap.get?_push_of_some _ e) (by rw [Heap.size_push]; exact Nat.le_succ _) ⟨_, Heap.get?_push_size _ rfl, rfl, _, rfl⟩) (Nat.le_trans hz (by decide))
theorem srcTupleN {prog : Program} {w : World} {A : Around} {E : Value → Shared → Prop} {s : Shared} {h₁ : Heap} {tk₁ : Tok} (hh : A.handled = none) {l : Addr} {items : List Value} {n : Nat} {x : Str} {px : Pos} {P' : Nat → List Value → Prop} (hk : Kept s.heap h₁) (hz : s.heap.objs.size ≤ h₁.objs.size) (hl : h₁.IsTuple l items.toArray) (hn : items.length = n) (hP : ∀ i v, items[i]? = some v → P' i [v]) :
    wpAny (model prog w) A (pyIter (.ref l)) (fun it s₂ => Src prog w A s (.Name x px) [x] n P' it s₂) E { s with heap := h₁, toks := tk₁ } := by
  refine wpAny_mono (srcTupleS (s := s) hh hk hz hl hn) (fun it s₂ h => h.weaken fun i vals => ?_) fun _ _ e => e
  rintro ⟨v, rfl, hv⟩
  exact hP i v hv
end Mine
end
section
open PySem PySem.W PyProof.Rows PySem.Calls PySem.SeqAt
set_option maxRecDepth 100000
namespace Mine
theorem insR_sorted {xs : List (List Int)} {x : List Int} (h : xs.Pairwise leL) : (insR xs x).Pairwise leL ∧ (insR xs x).Perm (x :: xs) := by
  have hp : xs.Pairwise (fun a b => (!ltL x b) = true → (!ltL x a) = true) := h.imp fun {a b} hab hb => by
    have hb' : ltL x b = false := by simpa using hb
    have : ltL x a = false := ltL_trans a b x hab hb'
    simp [this]
  have hcut := cut_at (fun b => !ltL x b) xs hp
  have hkl := List.length_filter_le (fun b => !ltL x b) xs
  generalize hk : (xs.filter fun b => !ltL x b).length = k at hcut hkl
  have hb : bisR (fun i => ltL x (xs.getD i [])) xs.length 0 xs.length = k := by
    refine bisR_is (n := xs.length) (fun i hi => ?_) _ _ _ (Nat.le_refl _) (Nat.zero_le _) hkl (by omega)
    have := hcut i _ (List.getElem?_eq_getElem hi)
    rw [List.getD_eq_getElem?_getD, List.getElem?_eq_getElem hi, Option.getD_some]
    cases hc : ltL x xs[i] with
    | true =>
      rw [hc] at this
      have h2 : ¬ i < k := fun q => by rw [decide_eq_true q] at this; cases this
      rw [decide_eq_true (by omega)]
    | false =>
      rw [hc] at this
      have h2 : i < k := of_decide_eq_true this.symm
      rw [decide_eq_false (by omega)]
  have hi : insR xs x = xs.take k ++ x :: xs.drop k := by
    unfold insR
    dsimp only
    rw [hb]
  rw [hi]
  refine ⟨?_, ?_⟩
  · have hall : (xs.take k ++ xs.drop k).Pairwise leL := by rw [List.take_append_drop]; exact h
    rw [List.pairwise_append] at hall ⊢
    refine ⟨hall.1, ?_, fun a ha b hb => ?_⟩
    · rw [List.pairwise_cons]
      refine ⟨fun b hb => ?_, hall.2.1⟩
      obtain ⟨j, hj⟩ := List.mem_iff_getElem?.mp hb
      rw [List.getElem?_drop] at hj
      have := hcut _ _ hj
      rw [decide_eq_false (show ¬ k + j < k by omega)] at this
      have h3 : ltL x b = true := by simpa using this
      exact ltL_asymm _ _ h3
    · rcases List.mem_cons.mp hb with rfl | hb
      · obtain ⟨j, hj⟩ := List.mem_iff_getElem?.mp ha
        rw [List.getElem?_take] at hj
        split at hj
        · rename_i hjk
          have := hcut _ _ hj
          rw [decide_eq_true hjk] at this
          have h4 : ltL b a = false := by simpa using this
          exact h4
        · cases hj
      · exact hall.2.2 a ha b hb
  · refine List.perm_middle.trans ?_
    rw [List.take_append_drop]
theorem foldR_sorted : ∀ (l a : List (List Int)), a.Pairwise leL → (l.foldl insR a).Pairwise leL ∧ (l.foldl insR a).Perm (l ++ a)
  | [], a, h => ⟨h, List.Perm.refl _⟩
  | x :: l, a, h => by
    obtain ⟨h1, h2⟩ := insR_sorted (x := x) h
    obtain ⟨h3, h4⟩ := foldR_sorted l (insR a x) h1
    rw [List.foldl_cons]
    exact ⟨h3, h4.trans ((List.Perm.append_left l h2).trans List.perm_middle)⟩
theorem foldR_sort (l : List (List Int)) : IsSort l (l.foldl insR []) := by
  obtain ⟨h1, h2⟩ := foldR_sorted l [] .nil
  rw [List.append_nil] at h2
  exact ⟨h2, h1⟩
section
variable {prog : Program} {w : World} {A : Around} {E : Value → Shared → Prop} {s : Shared}
theorem ints_rc {l b : Addr} {xs ys : List Value} {ns ms : List Int} (hl : s.heap.IsList l xs.toArray) (hb : s.heap.IsList b ys.toArray) (hi : IntsAre xs ns) (hj : IntsAre ys ms) (hu : A.units < cLine) : RcAt A s (.ref l) (.ref b) (decide (ns = ms)) := by
  by_cases hlen : xs.length = ys.length
  · have hal : ∀ (n m : List Int), n.length = m.length → decide (n = m) = (List.range n.length).all fun i => n.getD i 0 == m.getD i 0 := by
      intro n m hnm
      by_cases e : n = m
      · subst e; simp
      · rw [decide_eq_false e]
        symm
        rw [List.all_eq_false]
        refine Classical.byContradiction fun hc => e ?_
        refine List.ext_getElem hnm fun i h1 h2 => ?_
        have : ¬ ¬ (n.getD i 0 == m.getD i 0) = true := fun q => hc ⟨i, List.mem_range.mpr h1, q⟩
        have := Decidable.not_not.mp this
        simpa [List.getD_eq_getElem?_getD, h1, h2] using this
    rw [hal ns ms (by rw [← ints_len hi, ← ints_len hj, hlen])]
    have := RcAt.lists (A := A) (s := s) (e := fun i => ns.getD i 0 == ms.getD i 0) hl hb (by simpa using hlen) hu fun j h1 h2 => by
      rw [List.size_toArray] at h1 h2
      obtain ⟨x, t, e1, e2⟩ := ints_at hi (List.getElem?_eq_getElem h1)
      obtain ⟨y, u, e3, e4⟩ := ints_at hj (List.getElem?_eq_getElem h2)
      simp only [List.getElem_toArray]
      rw [e1, e3, List.getD_eq_getElem?_getD, List.getD_eq_getElem?_getD, e2, e4]
      exact EqAt.int_int x t y u
    rwa [List.size_toArray, ints_len hi] at this
  · have hne : ns ≠ ms := fun e => hlen (by rw [ints_len hi, ints_len hj, e])
    rw [decide_eq_false hne]
    exact RcAt.lists_lengths hl hb (by simpa using hlen) hu
theorem ints_eqAt {l b : Addr} {xs ys : List Value} {ns ms : List Int} (hl : s.heap.IsList l xs.toArray) (hb : s.heap.IsList b ys.toArray) (hi : IntsAre xs ns) (hj : IntsAre ys ms) (hu : A.units < cLine) : EqAt A s (.ref l) (.ref b) (decide (ns = ms)) := by
  by_cases e : l = b
  · subst e
    have hh : xs = ys := by
      obtain ⟨o, ho, _, n, hd⟩ := hl
      obtain ⟨o', ho', _, n', hd'⟩ := hb
      rw [ho] at ho'
      cases ho'
      rw [hd] at hd'
      cases hd'
      rfl
    subst hh
    have : ns = ms := by
      clear hl hb
      induction hi generalizing ms with
      | nil => cases hj; rfl
      | cons x t _ ih => cases hj with | cons _ _ h => rw [ih h]
    rw [decide_eq_true this]
    exact EqAt.same _
  · exact EqAt.of_refs e (ints_rc hl hb hi hj hu)
theorem ne_rows {nx : List (Addr × Obj)} {g : Heap} {L a b : Addr} {xs ys : List Value} {nss : List (List Int)} {Q : Value → Shared → Prop} (N : News g L s.heap nx) (ha : s.heap.IsList a xs.toArray) (hb : s.heap.IsList b ys.toArray) (hi : RowsAt nx xs nss) (hj : RowsAt nx ys nss) (hu : A.in1.units < cLine) (hu0 : A.units < cLine) (h : Q (.bool false) s) :
    wpAny (model prog w) A (compareOp .NotEq (.ref a) (.ref b)) Q E s := by
  refine RcNeAt.lists (e := fun _ => true) ha hb (by rw [List.size_toArray, List.size_toArray, hi.len, hj.len]) hu0 (fun j h1 h2 => ?_) prog w E Q ?_
  · rw [List.size_toArray] at h1 h2
    obtain ⟨D, vs, ns, e1, l1, i1, x1⟩ := hi.at (List.getElem?_eq_getElem h1)
    obtain ⟨D', vs', ns', e2, l2, i2, x2⟩ := hj.at (List.getElem?_eq_getElem h2)
    rw [x1] at x2
    cases x2
    simp only [List.getElem_toArray]
    rw [e1, e2]
    have := ints_eqAt (A := A.in1) (s := s) (l1.list N) (l2.list N) i1 i2 hu
    rwa [decide_eq_true rfl] at this
  · have : (List.range xs.toArray.size).all (fun _ => true) = true := by simp
    rw [this]
    exact h
end
end Mine
end
section
open PySem PySem.W PyProof.Rows PySem.Calls
set_option maxRecDepth 100000
namespace Mine
def countR (l : List (List Int)) (x : List Int) : Nat := (l.filter fun b => decide (b = x)).length
theorem bisR_cut {xs : List (List Int)} (h : xs.Pairwise leL) (x : List Int) : bisR (fun i => ltL x (xs.getD i [])) xs.length 0 xs.length = (xs.filter fun b => !ltL x b).length := by
  have hp : xs.Pairwise (fun a b => (!ltL x b) = true → (!ltL x a) = true) := h.imp fun {a b} hab hb => by
    have hb' : ltL x b = false := by simpa using hb
    have : ltL x a = false := ltL_trans a b x hab hb'
    simp [this]
  have hcut := cut_at (fun b => !ltL x b) xs hp
  have hkl := List.length_filter_le (fun b => !ltL x b) xs
  refine bisR_is (n := xs.length) (fun i hi => ?_) _ _ _ (Nat.le_refl _) (Nat.zero_le _) hkl (by omega)
  have := hcut i _ (List.getElem?_eq_getElem hi)
  rw [List.getD_eq_getElem?_getD, List.getElem?_eq_getElem hi, Option.getD_some]
  cases hc : ltL x xs[i] with
  | true =>
    rw [hc] at this
    have h2 : ¬ i < (xs.filter fun b => !ltL x b).length := fun q => by rw [decide_eq_true q] at this; cases this
    rw [decide_eq_true (by omega)]
  | false =>
    rw [hc] at this
    have h2 : i < (xs.filter fun b => !ltL x b).length := of_decide_eq_true this.symm
    rw [decide_eq_false (by omega)]
theorem bisL_cut {xs : List (List Int)} (h : xs.Pairwise leL) (x : List Int) : bisL (fun i => ltL (xs.getD i []) x) xs.length 0 xs.length = (xs.filter fun b => ltL b x).length := by
  have hp : xs.Pairwise (fun a b => ltL b x = true → ltL a x = true) := h.imp fun {a b} hab hb => by
    cases e : ltL a x with
    | true => rfl
    | false =>
      have := ltL_trans x a b e hab
      rw [this] at hb
      cases hb
  have hcut := cut_at (fun b => ltL b x) xs hp
  have hkl := List.length_filter_le (fun b => ltL b x) xs
  refine bisL_is (n := xs.length) (fun i hi => ?_) _ _ _ (Nat.le_refl _) (Nat.zero_le _) hkl (by omega)
  rw [List.getD_eq_getElem?_getD, List.getElem?_eq_getElem hi, Option.getD_some]
  exact hcut i _ (List.getElem?_eq_getElem hi)
theorem three_parts (x : List Int) : ∀ l : List (List Int), (l.filter fun b => !ltL x b).length = (l.filter fun b => ltL b x).length + countR l x
  | [] => rfl
  | b :: l => by
    have ih := three_parts x l
    unfold countR at ih ⊢
    by_cases e : b = x
    · subst e
      rw [List.filter_cons_of_pos (by simp [ltL_refl]), List.filter_cons_of_neg (by simp [ltL_refl]), List.filter_cons_of_pos (by simp)]
      simp only [List.length_cons]
      omega
    · rw [List.filter_cons_of_neg (p := fun b => decide (b = x)) (by simpa using e)]
      cases h1 : ltL b x with
      | true =>
        have h2 := ltL_asymm _ _ h1
        rw [List.filter_cons_of_pos (by simp [h2]), List.filter_cons_of_pos (by simp [h1])]
        simp only [List.length_cons]
        omega
      | false =>
        have h2 : ltL x b = true := by
          cases h3 : ltL x b with
          | true => rfl
          | false => exact absurd (ltL_eq b x h1 h3) e
        rw [List.filter_cons_of_neg (by simp [h2]), List.filter_cons_of_neg (by simp [h1])]
        exact ih
theorem alike_ok (l : List (List Int)) (x : List Int) {n : Nat} (hn : n = (l.foldl insR []).length) :
    (bisR (fun i => ltL x ((l.foldl insR []).getD i [])) n 0 n : Int) - (bisL (fun i => ltL ((l.foldl insR []).getD i []) x) n 0 n : Int) = (countR l x : Int) := by
  subst hn
  obtain ⟨h1, h2⟩ := foldR_sort l
  rw [bisR_cut h2, bisL_cut h2, three_parts]
  have : countR (l.foldl insR []) x = countR l x := by
    unfold countR
    exact (h1.filter _).length_eq
  rw [this]
  omega
def alikeOf (l : List (List Int)) : List Int := l.map fun x => (countR l x : Int)
end Mine
end
section
open PySem PySem.W PyProof.Rows PySem.Calls PySem.SeqAt
set_option maxRecDepth 100000
namespace Mine
section
variable {prog : Program} {w : World} {A : Around} {E : Value → Shared → Prop} {s : Shared} {g h0 : Heap} {L : Addr} {nx : List (Addr × Obj)}
theorem method_list {l : Addr} {vs : List Value} {name : Str} {id : String} {pl : Sem Bool} {Q : Value × List Value → Shared → Prop} (N : News g L h0 nx) (hk : Kept h0 s.heap) (l0 : LAt nx l vs) (slot : Slot "list" name id) (hty : typeOf (.builtin id) = pure (.type "method_descriptor"))
    (h : Q (.builtin id, [.ref l]) s) : wpAny (model prog w) A (getMethod (.ref l) name pl) Q E s := by
  obtain ⟨k, hk0⟩ := l0
  have ho := hk _ _ (N _ hk0).1
  exact getMethod_builtin ⟨_, ho, rfl⟩ PySem.F.plainAttrs_list slot hty (fun a e => by cases e; exact ⟨_, ho, rfl⟩) h
theorem LAt.unique {l : Addr} {vs ws : List Value} (N : News g L h0 nx) (a : LAt nx l vs) (b : LAt nx l ws) : vs = ws := by
  obtain ⟨k, hk⟩ := a
  obtain ⟨k', hk'⟩ := b
  have h1 := (N _ hk).1
  have h2 := (N _ hk').1
  dsimp only at h1 h2
  rw [h1] at h2
  simp only [Option.some.injEq, W.listOf, Obj.mk.injEq, Data.seq.injEq] at h2
  have := congrArg Array.toList h2.2.2.1.1
  simpa using this
theorem IntsAre.unique : ∀ {vs : List Value} {ns ms : List Int}, IntsAre vs ns → IntsAre vs ms → ns = ms
  | _, _, _, .nil, .nil => rfl
  | _, _, _, .cons n t h, h2 => by
    cases h2 with
    | cons _ _ h' => rw [IntsAre.unique h h']
open Classical in
noncomputable def isRow (nx : List (Addr × Obj)) (r : List Int) (y : Value) : Bool := decide (∃ D vs, y = .ref D ∧ LAt nx D vs ∧ IntsAre vs r)
open Classical in
theorem isRow_eq (N : News g L h0 nx) {D : Addr} {vs : List Value} {ns : List Int} (l : LAt nx D vs) (i : IntsAre vs ns) (r : List Int) : isRow nx r (.ref D) = decide (ns = r) := by
  unfold isRow
  by_cases e : ns = r
  · subst e
    rw [decide_eq_true rfl]
    exact decide_eq_true ⟨D, vs, rfl, l, i⟩
  · rw [decide_eq_false e]
    refine decide_eq_false ?_
    rintro ⟨D', vs', e1, l', i'⟩
    cases e1
    rw [← LAt.unique N l l'] at i'
    exact e (IntsAre.unique i i')
theorem countP_rows (N : News g L h0 nx) {vs : List Value} {nss : List (List Int)} (h : RowsAt nx vs nss) (r : List Int) : vs.countP (isRow nx r) = countR nss r := by
  induction h with
  | nil => rfl
  | cons l i _ ih =>
    rw [List.countP_cons, ih, isRow_eq N l i]
    unfold countR
    rw [List.filter_cons]
    split <;> rename_i hd
    · rw [List.length_cons]
    · rw [Nat.add_zero]
theorem count_rows {l D : Addr} {vs xs : List Value} {nss : List (List Int)} {r : List Int} {Q : Value → Shared → Prop} (N : News g L h0 nx) (hk : Kept h0 s.heap) (lD : LAt nx l vs) (rD : RowsAt nx vs nss) (lX : LAt nx D xs) (iX : IntsAre xs r) (hu : A.in1.units < cLine)
    (h : ∀ t k, Q (.int (countR nss r) t) { s with toks := k }) : wpAny (model prog w) A (call (.builtin "list.count") [.ref l, .ref D]) Q E s := by
  have lD0 := lD
  obtain ⟨k, hk0⟩ := lD
  have ho := hk _ _ (N _ hk0).1
  refine call_meets PySem.F.slot_list_count ⟨_, ho, rfl⟩ PySem.F.entry_list_count (PySem.F.args_list_count_2 _ _) (list_countAt l vs.toArray k none #[] (.ref D) (isRow nx r)) ⟨ho, fun y hy => ?_, ?_⟩
  · obtain ⟨i, hi⟩ := List.mem_iff_getElem?.mp (List.mem_toArray.mp hy)
    obtain ⟨D', vs', ns', rfl, l', i', _⟩ := rD.at hi
    rw [isRow_eq N l' i']
    exact ints_eqAt (list_kept hk (l'.list N)) (list_kept hk (lX.list N)) i' iX hu
  · rw [List.toList_toArray, countP_rows N rD]
    exact h _ _
end
end Mine
end
section
open PySem PySem.W PyProof.Rows PySem.Calls
set_option maxRecDepth 100000
namespace Mine
/-- the ascending picks of a list -/
def subs : List Nat → List (List Nat)
  | [] => [[]]
  | x :: l => (subs l).map (x :: ·) ++ subs l
theorem mem_subs {pl : List Nat} : ∀ {l : List Nat}, pl.Sublist l → pl ∈ subs l := by
  intro l h
  induction h with
  | slnil => exact .head _
  | cons x _ ih => exact List.mem_append_right _ ih
  | cons_cons x _ ih => exact List.mem_append_left _ (List.mem_map.mpr ⟨_, ih, rfl⟩)
def eight : List Nat := [0, 1, 2, 3, 4, 5, 6, 7]
def nine : List Nat := [0, 1, 2, 3, 4, 5, 6, 7, 8]
theorem mem_nine {h : Nat} (hh : h < 9) : h ∈ nine := by
  obtain rfl | rfl | rfl | rfl | rfl | rfl | rfl | rfl | rfl : h = 0 ∨ h = 1 ∨ h = 2 ∨ h = 3 ∨ h = 4 ∨ h = 5 ∨ h = 6 ∨ h = 7 ∨ h = 8 := by omega
  all_goals decide
/-- a set's table of eight places -/
def tab (led : Bool) (pl : List Nat) : SetTable := { mask := 7, place := pl.toArray, dummies := #[], finger := 0, led, moves := 0, plain := true }
def cutIn (pl : List Nat) (p c : Nat) : List Nat := pl.take p ++ c :: pl.drop p
def layOk (led : Bool) (pl : List Nat) (h : Nat) : Bool := match (tab led pl).freeSlot h with
  | some (slot, false) => eight.any fun c => c == slot && [0, 1, 2, 3].any fun p => SetTable.below pl.toArray c == p && (cutIn pl p c).isSublist eight
  | _ => false
def layAll : Bool := (subs eight).all fun pl => decide (3 < pl.length) || nine.all fun h => layOk true pl h && layOk false pl h
theorem layAll_ok : layAll = true := by decide +kernel
theorem lay_ok (led : Bool) {pl : List Nat} (hp : pl ∈ subs eight) (hl : pl.length ≤ 3) {h : Nat} (hh : h < 9) : layOk led pl h = true := by
  have a := layAll_ok
  unfold layAll at a
  have b := List.all_eq_true.mp a pl hp
  rw [decide_eq_false (by omega), Bool.false_or] at b
  have c := List.all_eq_true.mp b h (mem_nine hh)
  rw [Bool.and_eq_true] at c
  cases led
  · exact c.2
  · exact c.1
def belowAll : Bool := (subs eight).all fun pl => decide (4 < pl.length) || (SetTable.below pl.toArray 0 == 0 && (List.range pl.length).all fun i => SetTable.below pl.toArray (pl.getD i 0 + 1) == i + 1)
theorem belowAll_ok : belowAll = true := by decide +kernel
theorem below_both {pl : List Nat} (hp : pl ∈ subs eight) (hl : pl.length ≤ 4) : (SetTable.below pl.toArray 0 == 0 && (List.range pl.length).all fun i => SetTable.below pl.toArray (pl.getD i 0 + 1) == i + 1) = true := by
  have a := belowAll_ok
  unfold belowAll at a
  have b := List.all_eq_true.mp a pl hp
  rwa [decide_eq_false (by omega), Bool.false_or] at b
theorem below_zero {pl : List Nat} (hp : pl ∈ subs eight) (hl : pl.length ≤ 4) : SetTable.below pl.toArray 0 = 0 := by
  have b := below_both hp hl
  rw [Bool.and_eq_true] at b
  exact eq_of_beq b.1
theorem below_next {pl : List Nat} (hp : pl ∈ subs eight) (hl : pl.length ≤ 4) {i : Nat} (hi : i < pl.length) : SetTable.below pl.toArray (pl.getD i 0 + 1) = i + 1 := by
  have b := below_both hp hl
  rw [Bool.and_eq_true] at b
  exact eq_of_beq (List.all_eq_true.mp b.2 i (List.mem_range.mpr hi))
theorem tab_fits (led : Bool) {pl : List Nat} (hl : pl.length ≤ 7) : (tab led pl).fits pl.length = true := by
  unfold SetTable.fits SetTable.fill tab
  simp [hl]
theorem tab_room (led : Bool) {pl : List Nat} (hl : pl.length ≤ 4) : (tab led pl).tooFull = false := by
  unfold SetTable.tooFull SetTable.fill tab
  simp
  omega
theorem put_is (led : Bool) (pl : List Nat) (c : Nat) : (tab led pl).put c = (tab led (cutIn pl (SetTable.below pl.toArray c) c), SetTable.below pl.toArray c) := by
  have hh : SetTable.has #[] c = false := by
    unfold SetTable.has
    simp
  have e : SetTable.insertAt pl.toArray (SetTable.below pl.toArray c) c = (cutIn pl (SetTable.below pl.toArray c) c).toArray := by
    apply Array.toList_inj.mp
    rw [SetTable.toList_insertAt]
    rfl
  unfold SetTable.put tab
  simp only [hh, Bool.false_eq_true, if_false, e]
theorem layNew_ok (led : Bool) {pl : List Nat} (hp : pl ∈ subs eight) (hl : pl.length ≤ 3) {h : Nat} (hh : h < 9) {es : Array (Int × Value)} (he : es.size = pl.length) (x : Value) :
    ∃ pl' p, pl' ∈ subs eight ∧ pl'.length = pl.length + 1 ∧ layNew (tab led pl) es h x = (SetTable.insertAt es p (h, x), tab led pl', false, false) ∧ (tab led pl').tooFull = false := by
  have a := lay_ok led hp hl hh
  unfold layOk at a
  unfold layNew
  split at a
  · rename_i slot hs
    rw [hs]
    dsimp only
    obtain ⟨c, _, hc⟩ := List.any_eq_true.mp a
    rw [Bool.and_eq_true, beq_iff_eq] at hc
    obtain ⟨rfl, hc⟩ := hc
    obtain ⟨p, _, hc⟩ := List.any_eq_true.mp hc
    rw [Bool.and_eq_true, beq_iff_eq, List.isSublist_iff_sublist] at hc
    obtain ⟨hb, hc⟩ := hc
    rw [put_is, hb]
    dsimp only
    have hlen : (cutIn pl p c).length = pl.length + 1 := by
      unfold cutIn
      simp only [List.length_append, List.length_cons, List.length_take, List.length_drop]
      omega
    have hsz : (SetTable.insertAt es p ((h : Int), x)).size = (cutIn pl p c).length := by
      have := (SetTable.insertAt_perm es p ((h : Int), x)).length_eq
      rw [Array.length_toList, Array.length_toList, Array.size_push, he] at this
      omega
    refine ⟨cutIn pl p c, p, mem_subs hc, hlen, ?_, tab_room led (by omega)⟩
    rw [hsz]
    unfold SetTable.orStandIn
    rw [tab_fits led (by omega)]
    simp only [if_true, Bool.not_true]
  · cases a
end Mine
end
section
open PySem PySem.W PyProof.Rows PySem.Calls PySem.Spec
set_option maxRecDepth 100000
namespace Mine
theorem hash_small {k : Int} (h0 : 0 ≤ k) (h9 : k < 9) : hashInt k = k := by
  obtain ⟨n, rfl⟩ := Int.eq_ofNat_of_zero_le h0
  have h : n ∈ nine := by simp [nine]; omega
  have a : nine.all (fun n => hashInt (n : Int) == (n : Int)) = true := by decide +kernel
  exact eq_of_beq (List.all_eq_true.mp a n h)
def setObj (es : Array (Int × Value)) (ep : Nat) (t : SetTable) : Obj := { cls := .type "set", dict := none, data := .set es ep t, slots := #[] }
def elems (l : List (Int × Tok)) : List (Int × Value) := l.map fun p => (hashInt p.1, .int p.1 p.2)
/-- a set of small ints, in a table of eight places -/
def SetAt (h : Heap) (S : Addr) (led : Bool) (σ : List Int) (es : Array (Int × Value)) (pl : List Nat) (ep : Nat) : Prop :=
  h.get? S = some (setObj es ep (tab led pl)) ∧ pl ∈ subs eight ∧ es.size = pl.length ∧ ∃ l : List (Int × Tok), es.toList.Perm (elems l) ∧ l.map (·.1) = σ
def SetHas (h : Heap) (S : Addr) (led : Bool) (σ : List Int) : Prop := ∃ es pl ep, SetAt h S led σ es pl ep
section
variable {prog : Program} {w : World} {A : Around} {E : Value → Shared → Prop} {s : Shared}
theorem SetAt.size {h : Heap} {S : Addr} {led : Bool} {σ : List Int} {es : Array (Int × Value)} {pl : List Nat} {ep : Nat} (x : SetAt h S led σ es pl ep) : es.size = σ.length := by
  obtain ⟨_, _, _, l, hp, rfl⟩ := x
  rw [← Array.length_toList, hp.length_eq]
  simp [elems]
theorem SetAt.elemsOf {h : Heap} {S : Addr} {led : Bool} {σ : List Int} {es : Array (Int × Value)} {pl : List Nat} {ep : Nat} (x : SetAt h S led σ es pl ep) : ElemsOf (intKind prog w) es.toList := by
  obtain ⟨_, _, _, l, hp, rfl⟩ := x
  intro e he
  obtain ⟨p, _, rfl⟩ := List.mem_map.mp (hp.mem_iff.mp he)
  exact ⟨⟨p.1, intKind_is _ _ _ _, rfl⟩, rfl⟩
theorem SetAt.has {h : Heap} {S : Addr} {led : Bool} {σ : List Int} {es : Array (Int × Value)} {pl : List Nat} {ep : Nat} (x : SetAt h S led σ es pl ep) (k : Int) : (∃ e ∈ es.toList, (intKind prog w).is k e.2 = true) ↔ k ∈ σ := by
  obtain ⟨_, _, _, l, hp, rfl⟩ := x
  constructor
  · rintro ⟨e, he, hk⟩
    obtain ⟨p, hpm, rfl⟩ := List.mem_map.mp (hp.mem_iff.mp he)
    have := KeyKind.is_eq_decide (knd := intKind prog w) (intKind_is prog w p.1 p.2) k
    dsimp only at hk
    rw [hk] at this
    rw [of_decide_eq_true this.symm]
    exact List.mem_map.mpr ⟨p, hpm, rfl⟩
  · intro hk
    obtain ⟨p, hpm, rfl⟩ := List.mem_map.mp hk
    exact ⟨_, hp.mem_iff.mpr (List.mem_map.mpr ⟨p, hpm, rfl⟩), intKind_is _ _ _ _⟩
theorem setAdd_has {S : Addr} {led : Bool} {σ : List Int} {k : Int} {t : Tok} {Q : Bool → Shared → Prop} (hS : SetHas s.heap S led σ) (hk : 0 ≤ k) (hk9 : k < 9) (hl : σ.length ≤ 3)
    (h : ∀ b h' tk, Heap.SameBut S s.heap h' → SetHas h' S led (step_dedup σ k) → s.toks ≤ tk → Q b { s with heap := h', toks := tk }) :
    wpAny (model prog w) A (setAdd S (.int k t)) Q E s := by
  obtain ⟨es, pl, ep, hat⟩ := hS
  have hel := hat.elemsOf (prog := prog) (w := w)
  have hhas := hat.has (prog := prog) (w := w)
  have hsz := hat.size
  obtain ⟨ho, hpl, hlen, l, hp, hσ⟩ := hat
  have hf : (tab led pl).fits es.size = true := by rw [hlen]; exact tab_fits led (by omega)
  unfold setAdd
  refine wpAny_holding ?_
  refine wpAny_bind ((intKind prog w).pyHash (k := k) (intKind_is _ _ _ _) ?_)
  unfold setAddHashed setAddHashedIn
  refine wpAny_holding (wpAny_bind (wpAny_setState_of (s := { s with toks := s.toks + 1 }) ho rfl hf ?_))
  dsimp only
  rw [byScan_of (knd := intKind prog w) rfl (by rw [hsz]; unfold scanBound; omega) hel]
  simp only [↓reduceIte]
  unfold setAddByScan
  refine wpAny_bind ?_
  refine wpAny_bind (wpAny_rule ?_)
  refine wpAny_bind (wpAny_setScan_of (knd := intKind prog w) (s := { s with toks := s.toks + 1 }) (intKind_is _ _ _ _) ho rfl hf hel ?_)
  cases hr : List.findIdx? (fun e => (intKind prog w).is k e.2) es.toList with
  | some j =>
    dsimp only
    obtain ⟨hj, hpj, _⟩ := List.findIdx?_eq_some_iff_getElem.mp hr
    have hm : k ∈ σ := (hhas k).mp ⟨es.toList[j], List.getElem_mem hj, hpj⟩
    have hst : step_dedup σ k = σ := by
      unfold step_dedup
      rw [if_pos (List.any_eq_true.mpr ⟨k, hm, by simp⟩)]
    refine wpAny_pure (wpAny_pure ?_)
    exact h _ s.heap _ (Heap.SameBut.refl S s.heap) ⟨es, pl, ep, by rw [hst]; exact ⟨ho, hpl, hlen, l, hp, hσ⟩⟩ (Nat.le_succ _)
  | none =>
    dsimp only
    have hm : k ∉ σ := fun q => by
      obtain ⟨e, he, hq⟩ := (hhas k).mpr q
      have := List.findIdx?_eq_none_iff.mp hr e he
      rw [hq] at this
      cases this
    have hst : step_dedup σ k = σ ++ [k] := by
      unfold step_dedup
      rw [if_neg fun q => ?_]
      obtain ⟨y, hy, e⟩ := List.any_eq_true.mp q
      exact hm (eq_of_beq e ▸ hy)
    obtain ⟨n, rfl⟩ := Int.eq_ofNat_of_zero_le hk
    have hh : (intKind prog w).hash (n : Int) = (n : Int) := hash_small hk hk9
    obtain ⟨pl', p, hpl', hlen', hlay, hful⟩ := layNew_ok led hpl (by omega) (h := n) (by omega) hlen (.int (n : Int) t)
    rw [hh, hlay]
    dsimp only
    refine wpAny_bind (wpAny_pure ?_)
    have hplain : (tab led pl').plain = true := rfl
    simp only [hplain, if_true, ↓reduceIte]
    refine wpAny_bind ?_
    rw [hashByValue_scannable 8 rfl]
    refine wpAny_pure ?_
    dsimp only [plainKind]
    simp only [if_true, ↓reduceIte]
    have hsz' : (SetTable.insertAt es p ((n : Int), Value.int n t)).size = pl'.length := by
      have := (SetTable.insertAt_perm es p ((n : Int), Value.int n t)).length_eq
      rw [Array.length_toList, Array.length_toList, Array.size_push, hlen] at this
      omega
    refine wpAny_bind (wpAny_storeSet_of (s := { s with toks := s.toks + 1 }) ho rfl ?_ (fits_of_scanBound (by unfold scanBound; omega)))
    rw [hful]
    simp only [Bool.not_false, Bool.and_false, Bool.false_eq_true, if_false]
    refine wpAny_pure (wpAny_pure ?_)
    refine h _ _ _ (Heap.SameBut.update s.heap S _) ⟨_, pl', ep + 1, ?_, hpl', hsz', l ++ [((n : Int), t)], ?_, ?_⟩ (Nat.le_succ _)
    · have hg := Heap.get?_update_self (Obj.putSet (SetTable.insertAt es p ((n : Int), Value.int n t)) (tab led pl')) ho (by rw [putSet_of _ _ rfl]; rfl)
      rw [putSet_of (o := setObj es ep (tab led pl)) _ _ rfl] at hg
      exact hg
    · refine (SetTable.insertAt_perm es p ((n : Int), Value.int n t)).trans ?_
      rw [Array.toList_push]
      unfold elems
      rw [List.map_append]
      refine List.Perm.append hp (List.Perm.of_eq ?_)
      show _ = [(hashInt (n : Int), Value.int n t)]
      rw [hash_small hk hk9]
    · rw [hst, List.map_append, hσ]
      rfl
end
end Mine
end
section
open PySem PySem.W PyProof.Rows PySem.Calls PySem.Spec
set_option maxRecDepth 100000
namespace Mine
/-- the first n, each once -/
def dedupTo (ns : List Int) (i : Nat) : List Int := (ns.take i).foldl step_dedup []
theorem dedup_len : ∀ (ns σ : List Int), (ns.foldl step_dedup σ).length ≤ σ.length + ns.length
  | [], σ => Nat.le_refl _
  | k :: ns, σ => by
    rw [List.foldl_cons]
    have := dedup_len ns (step_dedup σ k)
    have h2 : (step_dedup σ k).length ≤ σ.length + 1 := by unfold step_dedup; split <;> simp
    rw [List.length_cons]
    omega
theorem dedup_step {ns : List Int} {i : Nat} {k : Int} (h : ns[i]? = some k) : dedupTo ns (i + 1) = step_dedup (dedupTo ns i) k := by
  unfold dedupTo
  rw [List.take_add_one, h, List.foldl_append]
  rfl
section
variable {prog : Program} {w : World} {A : Around} {R : Result → Shared → Prop} {I : Addr} {fp wr : List Addr} {G : Array GenState → Array GenState → Prop} {n : Nat} {P : Nat → Value → Prop} {St : Nat → Shared → Prop}
theorem fill_loop (W : WalksS prog w A.in1 I fp wr G n P St) (S : Addr) (hSf : S ∉ fp) (led : Bool) (ns : List Int) (hn : ns.length = n) (hn4 : n ≤ 4)
    (hval : ∀ i v, P i v → ∃ k t, v = .int k t ∧ ns[i]? = some k) (hlow : ∀ k ∈ ns, 0 ≤ k ∧ k < 9) :
    ∀ (k i : Nat) (s : Shared), n - i = k → i ≤ n → St i s → SetHas s.heap S led (dedupTo ns i) →
      (∀ s', Moved (S :: wr) G s s' → SetHas s'.heap S led (dedupTo ns n) → R (.ok (.ret .none)) s') →
      codeAny (model prog w) A (.builtin "set.update.loop" ⟨[.ref S, .ref I], []⟩) R s := by
  have hSw : S ∉ wr := fun h => hSf (W.sub _ h)
  have hsub : ∀ b ∈ wr, b ∈ S :: wr := fun b hb => List.mem_cons_of_mem _ hb
  intro k
  induction k with
  | zero =>
    intro i s hk hi hst hS hR
    obtain rfl : i = n := by omega
    refine codeAny_builtin F.entry_set_update_loop ?_
    rw [Around.under_plainId F.plain_set_update_loop _]
    show wpAny _ A.in1 (pyNext (.ref I) >>= _) _ _ s
    refine wpAny_bind (W.done s _ _ hst fun s' hm => ?_)
    show wpAny _ A.in1 (ret Value.none) _ _ s'
    obtain ⟨es, pl, ep, ho, r⟩ := hS
    exact wpAny_pure (hR s' (hm.mono hsub) ⟨es, pl, ep, hm.heap S _ hSw ho, r⟩)
  | succ k ih =>
    intro i s hk hi hst hS hR
    have hlt : i < n := by omega
    refine codeAny_builtin F.entry_set_update_loop ?_
    rw [Around.under_plainId F.plain_set_update_loop _]
    show wpAny _ A.in1 (pyNext (.ref I) >>= _) _ _ s
    refine wpAny_bind (W.item i s _ _ hlt hst fun v s' hP hst' hm => ?_)
    obtain ⟨z, t, rfl, hz⟩ := hval i v hP
    have hS' : SetHas s'.heap S led (dedupTo ns i) := by
      obtain ⟨es, pl, ep, ho, r⟩ := hS
      exact ⟨es, pl, ep, hm.heap S _ hSw ho, r⟩
    show wpAny _ A.in1 (holding [Value.int z t] (setAdd S (.int z t)) >>= _) _ _ s'
    refine wpAny_bind (wpAny_holding ?_)
    have hzl := hlow z (List.mem_of_getElem? hz)
    have hroom : (dedupTo ns i).length ≤ 3 := by
      have := dedup_len (ns.take i) []
      unfold dedupTo
      rw [List.length_take] at this
      simp only [List.length_nil] at this
      omega
    refine setAdd_has hS' hzl.1 hzl.2 hroom fun b h' tk hsb hS2 htk => ?_
    rw [← dedup_step hz] at hS2
    refine wpAny_pure ⟨plainId_quiet F.plain_set_update_loop _, ih (i + 1) _ (by omega) hlt (W.frame _ s' _ _ hst' htk fun b hb o e => ?_) hS2 fun s'' hm'' hS'' => ?_⟩
    · rw [hsb.2 b (fun h : b = S => hSf (by rw [← h]; exact hb))]; exact e
    · refine hR s'' (Moved.trans W.gtrans ((hm.mono hsub).then_heap htk fun b o hb e => ?_) hm'') hS''
      rw [hsb.2 b (fun h : b = S => hb (by rw [h]; exact List.mem_cons_self))]; exact e
end
section
variable {prog : Program} {w : World} {A : Around} {E : Value → Shared → Prop} {s : Shared}
def ledW (w : World) : Bool := !w.params.followText "set-order"
abbrev newSetObj (w : World) : Obj := { cls := .type "set", dict := none, data := .set #[] 0 (.fresh 0 0 (ledW w)) }
theorem newSetObj_has (h : Heap) : SetHas (h.push (newSetObj w)) h.objs.size (ledW w) [] :=
  ⟨#[], [], 0, Heap.get?_push_size _ rfl, by decide, rfl, [], .nil, rfl⟩
theorem set_new_1 (a : Value) {Q₁ : Value → Shared → Prop} (h : Q₁ (.ref s.heap.objs.size) { s with heap := s.heap.push (newSetObj w) }) :
    codeAny (model prog w) A (.call (.builtin "set.__new__") ⟨[.type "set", a], []⟩) (wants Q₁ E) s := by
  refine codeAny_of_tree ?_
  show wpAny _ A.in1 (do checkBuiltinCall "set.__new__" ⟨[.type "set", a], []⟩; again (.builtin "set.__new__" ⟨[.type "set", a], []⟩)) _ _ s
  refine wpAny_bind (wpAny_of_eq (PySem.F.newCall_set_1 a) (wpAny_pure ⟨plainId_quiet PySem.F.plain_set_new _, codeAny_builtin PySem.F.entry_set_new ?_⟩))
  rw [Around.under_plainId PySem.F.plain_set_new _]
  unfold Builtin.«set.__new__» Builtin.Frozenset.newClass
  have hsub := sub_set_self
  obtain ⟨hp, g, d, tk, os⟩ := s
  dsimp only
  wp_walk
  refine wpAny_askSetting (wpAny_pure ?_)
  dsimp only
  simp only [newObj]
  refine wpAny_bind (wpAny_alloc (wpAny_pure ?_))
  exact wpAny_pure h
end
end Mine
end
section
open PySem PySem.W PyProof.Rows PySem.Calls PySem.Spec
set_option maxRecDepth 100000
namespace Mine
section
variable {prog : Program} {w : World} {A : Around} {E : Value → Shared → Prop} {s : Shared}
set_option maxHeartbeats 3200000 in
theorem set_of_ints {l : Addr} {vs : List Value} {ns : List Int} {Q : Value → Shared → Prop}
    (hh : A.handled = none) (hl : s.heap.IsList l vs.toArray) (hi : IntsAre vs ns) (h4 : ns.length ≤ 4) (hlow : ∀ k ∈ ns, 0 ≤ k ∧ k < 9)
    (h : ∀ (h' : Heap) (tk : Nat), SetHas h' s.heap.objs.size (ledW w) (ns.foldl step_dedup []) → Kept s.heap h' → Q (.ref s.heap.objs.size) { s with heap := h', toks := tk }) :
    wpAny (model prog w) A (call (.type "set") [.ref l]) Q E s := by
  obtain ⟨c, tl, hmro⟩ := PySem.F.called_set.mro
  have hmade := PySem.F.called_set.made
  have hsub := PySem.F.called_set.sub
  refine wpAny_call (codeAny_of_tree ?_)
  show wpAny _ _ (callAny (.type "set") _) _ _ _
  refine wpAny_pure ⟨Code.quiet_builtin _ (by decide +kernel), codeAny_builtin PySem.F.entry_type_call ?_⟩
  rw [Around.under_plain (weight_type_call_type "set" [.ref l] []) rfl]
  have h1 := PySem.F.called_set.notType
  have h2 := PySem.F.called_set.canCreate
  have hct := PySem.F.typeCall_set_1 (.ref l)
  repeat (any_goals (first | assumption | wp_step))
  refine codeAny_mono (set_new_1 (.ref l) (E := E) (Q₁ := fun obj s₁ => obj = .ref s.heap.objs.size ∧ s₁ = { s with heap := s.heap.push (newSetObj w) }) ⟨rfl, rfl⟩) fun r s₁ hr => ?_
  cases r with
  | error e => exact hr
  | ok fl =>
    cases fl with
    | ret obj =>
      obtain ⟨rfl, rfl⟩ := hr
      have hS : (s.heap.push (newSetObj w)).get? s.heap.objs.size = some (newSetObj w) := Heap.get?_push_size _ rfl
      have hT : Shared.TypeIs { s with heap := s.heap.push (newSetObj w) } (.ref s.heap.objs.size) "set" := ⟨_, hS, rfl⟩
      have hli := PySem.F.called_set.init.lookup
      have hbi := PySem.F.called_set.init.bind (.ref s.heap.objs.size)
      repeat (any_goals (first | assumption | wp_step))
      refine codeAny_mono (codeAny_call_builtin (R := wants (fun r s₂ => r = .none ∧ ∃ h' tk, s₂ = { s with heap := h', toks := tk } ∧ SetHas h' s.heap.objs.size (ledW w) (ns.foldl step_dedup []) ∧ Kept s.heap h') E) PySem.F.called_set.init.plain PySem.F.entry_set_init (check_set_init_1 hT ?_)) fun r₂ s₂ hr₂ => ?_
      · obtain ⟨ol, hol, hcl, nl, hdl⟩ := hl
        obtain ⟨ocls, odict, odata, oslots⟩ := ol
        simp only at hcl hdl
        subst hcl; subst hdl
        have hol' : (s.heap.push (newSetObj w)).get? l = some { cls := .type "list", dict := odict, data := .seq vs.toArray nl, slots := oslots } := Heap.get?_push_of_some _ hol
        have hsls := PySem.F.sub_list_set
        have hslf := PySem.F.sub_list_frozenset
        have hne : (Value.type "list" == Value.type "dict") = false := by decide
        have hl1 : (s.heap.push (newSetObj w)).IsList l vs.toArray := ⟨_, hol', rfl, nl, rfl⟩
        have hhas := newSetObj_has (w := w) s.heap
        generalize hled : ledW w = led at *
        unfold Builtin.«set.__init__» noKeywords Builtin.Frozenset.updateFrom
        generalize hPI : pyIter = PI
        wp_walk
        subst hPI
        refine wpAny_pyIter_list hl1 ?_
        refine wpAny_bind (wpAny_runValue ?_)
        have hlS : l < s.heap.objs.size := Heap.lt_size hol
        have hh3 : A.in1.in1.in1.handled = none := by simp [hh]
        have hneI : l ≠ (s.heap.push (newSetObj w)).objs.size := by
          rw [Heap.size_push]; exact Nat.ne_of_lt (Nat.lt_succ_of_lt hlS)
        have hSf : s.heap.objs.size ∉ [(s.heap.push (newSetObj w)).objs.size, l] := by
          rw [Heap.size_push]; simp only [List.mem_cons, List.not_mem_nil, or_false, not_or]
          exact ⟨Nat.ne_of_lt (Nat.lt_succ_self _), Nat.ne_of_gt hlS⟩
        have hlen : ns.length = vs.toArray.size := by rw [List.size_toArray]; exact (IntsAre.length hi).symm
        have hget : ∀ o, ((s.heap.push (newSetObj w)).push o).get? s.heap.objs.size = (s.heap.push (newSetObj w)).get? s.heap.objs.size := fun o => by
          rw [hS]; exact Heap.get?_push_of_some _ hS
        refine fill_loop ((Walks.list hh3 _ l hneI vs.toArray).toS) s.heap.objs.size hSf led ns hlen (by omega) (fun i v hv => ?_) hlow (vs.toArray.size - 0) 0 _ rfl (Nat.zero_le _)
          ⟨⟨_, Heap.get?_push_size _ rfl, rfl, rfl⟩, (hl1.push _)⟩ ?hS0 ?hR
        case hS0 =>
          obtain ⟨es, pl, ep, ho, r⟩ := hhas
          exact ⟨es, pl, ep, Heap.get?_push_of_some _ ho, r⟩
        case hR =>
          intro s' hm hS'
          obtain ⟨h', g', d', tk', os'⟩ := s'
          have eg : g' = s.gens := hm.gens
          have ed : d' = s.drawn := hm.drawn
          have eo : os' = s.os := hm.os
          subst eg; subst ed; subst eo
          show wpAny _ _ _ _ _ _
          refine wpAny_pure ?_
          show wpAny _ _ (ret Value.none) _ _ _
          refine wpAny_pure ⟨rfl, h', tk', rfl, ?_, fun b o e => ?_⟩
          · unfold dedupTo at hS'
            rwa [List.take_of_length_le (Nat.le_of_eq hlen)] at hS'
          · have hb := Heap.lt_size e
            have hb1 : b ≠ s.heap.objs.size := Nat.ne_of_lt hb
            have hb2 : b ≠ (s.heap.push (newSetObj w)).objs.size := by
              rw [Heap.size_push]; exact Nat.ne_of_lt (Nat.lt_succ_of_lt hb)
            exact hm.heap b o (by simp only [List.mem_cons, List.not_mem_nil, or_false, not_or]; exact ⟨hb1, hb2⟩) (Heap.get?_push_of_some _ (Heap.get?_push_of_some _ e))
        · rw [List.getElem?_toArray] at hv
          obtain ⟨x, t, rfl, hx⟩ := ints_at hi hv
          exact ⟨x, t, rfl, hx⟩
      · cases r₂ with
        | error e => exact hr₂
        | ok fl₂ =>
          cases fl₂ with
          | ret r =>
            obtain ⟨rfl, h', tk, rfl, hS', hk'⟩ := hr₂
            repeat (any_goals (first | assumption | wp_step))
            exact h _ _ hS' hk'
          | _ => exact hr₂.elim
    | _ => exact hr.elim
end
end Mine
end
section
open PySem PySem.W PyProof.Rows PySem.Calls PySem.Spec
set_option maxRecDepth 100000
namespace Mine
theorem entry_set_iter : entryFor table "set.__iter__" = some Builtin.«frozenset.__iter__» :=
  entryFor_alias (id' := "frozenset.__iter__") (by rw [fastTable_eq_tree]; kernel_rfl) rfl (by decide +kernel) (by rw [fastTable_eq_tree]; kernel_rfl)
theorem slot_si_iter : Slot "set_iterator" "__iter__" "set_iterator.__iter__" :=
  .of (owner := "set_iterator") (n := "__iter__") (by rw [typeLookup_type, builtinLookup_eq_fast]; kernel_rfl) (by decide +kernel) (by decide +kernel) (by decide +kernel)
    (by first | exact .inl (by decide +kernel) | exact .inr (by decide +kernel)) (by rw [isSubtype_type]; kernel_rfl)
theorem entry_si_iter : entryFor table "set_iterator.__iter__" = some Builtin.«dict_keyiterator.__iter__» :=
  entryFor_alias (id' := "dict_keyiterator.__iter__") (by rw [fastTable_eq_tree]; kernel_rfl) rfl (by decide +kernel) (by rw [fastTable_eq_tree]; kernel_rfl)
theorem slot_si_next : Slot "set_iterator" "__next__" "set_iterator.__next__" :=
  .of (owner := "set_iterator") (n := "__next__") (by rw [typeLookup_type, builtinLookup_eq_fast]; kernel_rfl) (by decide +kernel) (by decide +kernel) (by decide +kernel)
    (by first | exact .inl (by decide +kernel) | exact .inr (by decide +kernel)) (by rw [isSubtype_type]; kernel_rfl)
theorem entry_si_next : entryFor table "set_iterator.__next__" = some Builtin.«set_iterator.__next__» := entryFor_of_tree (by kernel_rfl)
theorem owner_si : Manifest.owners.lookup (String.ofList ['r', 'o', 't', 'a', 'r', 'e', 't', 'i', '_', 't', 'e', 's'].reverse) = some Manifest.sig_set_iterator := by kernel_rfl
theorem args_si_iter (a : Value) : argsOk "set_iterator.__iter__" ⟨[a], []⟩ := by
  unfold argsOk; rw [signature?_of (id := "set_iterator.__iter__") (n := ['_', '_', 'r', 'e', 't', 'i', '_', '_']) (o := ['r', 'o', 't', 'a', 'r', 'e', 't', 'i', '_', 't', 'e', 's']) (by kernel_rfl) owner_si]; kernel_rfl
theorem args_si_next (a : Value) : argsOk "set_iterator.__next__" ⟨[a], []⟩ := by
  unfold argsOk; rw [signature?_of (id := "set_iterator.__next__") (n := ['_', '_', 't', 'x', 'e', 'n', '_', '_']) (o := ['r', 'o', 't', 'a', 'r', 'e', 't', 'i', '_', 't', 'e', 's']) (by kernel_rfl) owner_si]; kernel_rfl
theorem pick_go {α : Type} (next : Nat → Nat) : ∀ (fuel k : Nat) (left : List α) (out : Array α), left.length ≤ fuel → (pickOrder.go next fuel k left out).toList.Perm (out.toList ++ left) := by
  intro fuel
  induction fuel with
  | zero =>
    intro k left out h
    obtain rfl : left = [] := List.eq_nil_of_length_eq_zero (by omega)
    unfold pickOrder.go
    simp
  | succ fuel ih =>
    intro k left out h
    unfold pickOrder.go
    split
    · rename_i x hx
      have hi := (List.getElem?_eq_some_iff.mp hx).1
      refine (ih _ _ _ (by rw [List.length_eraseIdx_of_lt hi]; omega)).trans ?_
      rw [Array.toList_push, List.append_assoc]
      refine List.Perm.append_left _ ?_
      have e : left[next k % left.length] = x := (List.getElem?_eq_some_iff.mp hx).2
      have e2 : left = left.take (next k % left.length) ++ x :: left.drop (next k % left.length + 1) := by
        rw [← e, List.getElem_cons_drop, List.take_append_drop]
      rw [List.eraseIdx_eq_take_drop_succ]
      show List.Perm ([x] ++ (left.take (next k % left.length) ++ left.drop (next k % left.length + 1))) left
      conv => rhs; rw [e2]
      rw [List.singleton_append]
      exact List.perm_middle.symm
    · rename_i hx
      have : left = [] := by
        cases left with
        | nil => rfl
        | cons a l =>
          rw [List.getElem?_eq_none_iff] at hx
          have := Nat.mod_lt (next k) (show 0 < (a :: l).length by simp)
          omega
      subst this
      simp
theorem pick_perm {α : Type} (next : Nat → Nat) (xs : Array α) : (pickOrder next xs).toList.Perm xs.toList := by
  unfold pickOrder
  have := pick_go next xs.size 0 xs.toList #[] (by simp)
  simpa using this
def orderOf (w : World) (d : Addr) (ep : Nat) (es : Array (Int × Value)) : Array (Int × Value) := if w.params.followText "set-order" = true then pickOrder (w.params.setOrder d ep) es else es
theorem order_perm (w : World) (d : Addr) (ep : Nat) (es : Array (Int × Value)) : (orderOf w d ep es).toList.Perm es.toList := by
  unfold orderOf
  split
  · exact pick_perm _ _
  · exact List.Perm.refl _
/-- where the walk of the table stands -/
def slotAt (w : World) (pl : List Nat) (i : Nat) : Nat := if w.params.followText "set-order" = true then 0 else if i = 0 then 0 else pl.getD (i - 1) 0 + 1
def IterAt (h : Heap) (it d : Addr) (slot i n ep : Nat) : Prop :=
  ∃ o, h.get? it = some o ∧ o.cls = .type "set_iterator" ∧ o.data = .fields #[.int slot 0, .int i 0, .ref d, .int n 0, .int ep 0]
section
variable {prog : Program} {w : World} {A : Around} {E : Value → Shared → Prop} {s : Shared} {it d : Addr} {slot i n ep : Nat} {σ : List Int} {es : Array (Int × Value)} {pl : List Nat}
theorem IterAt.typeIs (x : IterAt s.heap it d slot i n ep) : s.TypeIs (.ref it) "set_iterator" := let ⟨o, ho, hc, _⟩ := x; ⟨o, ho, hc⟩
theorem SetAt.typeIs (x : SetAt s.heap d led σ es pl ep) : s.TypeIs (.ref d) "set" := ⟨_, x.1, rfl⟩
theorem SetAt.fits {h : Heap} (x : SetAt h d led σ es pl ep) (h4 : σ.length ≤ 4) : (tab led pl).fits es.size = true := by
  have := x.size
  rw [x.2.2.1]
  exact tab_fits led (by have := x.2.2.1; omega)
theorem byText_of {Q : Bool → Shared → Prop} (h : Q (w.params.followText "set-order") s) : wpAny (model prog w) A setsByText Q E s := by
  unfold setsByText
  exact wpAny_bind (wpAny_askSetting (wpAny_pure h))
theorem iter_set {Q : Value → Shared → Prop} (x : SetAt s.heap d (ledW w) σ es pl ep) (h4 : σ.length ≤ 4)
    (hQ : Q (.ref s.heap.objs.size) { s with heap := s.heap.push { cls := .type "set_iterator", data := .fields #[.int 0 0, .int 0 0, .ref d, .int es.size 0, .int ep 0] } }) :
    wpAny (model prog w) A (pyIter (.ref d)) Q E s := by
  have hf := x.fits h4
  have hT := SetAt.typeIs x
  refine wpAny_pyIter_slot hT PySem.F.slot_set_iter (wpAny_call_entry PySem.F.slot_set_iter hT entry_set_iter ?_ (PySem.F.args_set_iter_1 _))
  unfold Builtin.«frozenset.__iter__» Builtin.Frozenset.slot0 slotArgs
  simp only [List.isEmpty_nil, Bool.not_true, Bool.false_eq_true, ↓reduceIte, bind_assoc, List.length_nil, bne_self_eq_false]
  unfold Builtin.Frozenset.addrOf Builtin.Frozenset.sizeOf
  refine wpAny_bind (wpAny_pure ?_)
  try dsimp only
  refine wpAny_bind (wpAny_pure ?_)
  refine wpAny_bind (wpAny_bind (wpAny_setEntries_of x.1 rfl hf (wpAny_pure ?_)))
  refine wpAny_bind ?_
  unfold setDrawn
  refine wpAny_bind (wpAny_setState_of x.1 rfl hf ?_)
  refine wpAny_bind (byText_of ?_)
  refine wpAny_pure ?_
  have hd : ∀ b : Bool, (!b && (!(tab (ledW w) pl).plain && decide (es.size > 1))) = false := fun b => by cases b <;> rfl
  show wpAny _ _ (if (!(w.params.followText "set-order") && (!(tab (ledW w) pl).plain && decide (es.size > 1))) = true then _ else _) _ _ s
  rw [hd]
  simp only [Bool.false_eq_true, if_false]
  refine wpAny_bind (wpAny_pure ?_)
  refine wpAny_bind (wpAny_setEpoch_of x.1 rfl hf ?_)
  refine wpAny_bind ?_
  unfold newFields
  refine wpAny_newObj_type (wpAny_pure ⟨_, rfl, "set_iterator", _, ⟨_, Heap.get?_push_size _ rfl, rfl⟩, slot_si_next.lookup, ?_⟩)
  exact hQ
end
end Mine
end
section
open PySem PySem.W PyProof.Rows PySem.Calls PySem.Spec
set_option maxRecDepth 100000
namespace Mine
section
variable {prog : Program} {w : World} {A : Around} {E : Value → Shared → Prop} {s : Shared} {it d : Addr} {slot i n ep : Nat} {σ : List Int} {es : Array (Int × Value)} {pl : List Nat}
theorem setWalk_of {Q : Array (Int × Value) → Shared → Prop} (x : SetAt s.heap d (ledW w) σ es pl ep) (h4 : σ.length ≤ 4) (hb : w.params.followText "set-order" = true) (h : Q (orderOf w d ep es) s) :
    wpAny (model prog w) A (setWalk d) Q E s := by
  unfold setWalk
  refine wpAny_bind (wpAny_setState_of x.1 rfl (x.fits h4) ?_)
  refine wpAny_bind (byText_of ?_)
  rw [hb]
  simp only [if_true]
  refine wpAny_bind (wpAny_askSetting (wpAny_pure ?_))
  unfold orderOf at h
  rw [if_pos hb] at h
  exact h
theorem slot_next (w : World) {pl : List Nat} {i : Nat} (h : w.params.followText "set-order" ≠ true) : slotAt w pl (i + 1) = pl.getD i 0 + 1 := by
  unfold slotAt
  rw [if_neg h, if_neg (Nat.succ_ne_zero i)]
  rfl
theorem slot_below (w : World) {pl : List Nat} (hp : pl ∈ subs eight) (h4 : pl.length ≤ 4) {i : Nat} (hi : i ≤ pl.length) (h : w.params.followText "set-order" ≠ true) : SetTable.below pl.toArray (slotAt w pl i) = i := by
  cases i with
  | zero =>
    unfold slotAt
    rw [if_neg h, if_pos rfl]
    exact below_zero hp h4
  | succ i =>
    rw [slot_next w h]
    exact below_next hp h4 hi
/-- the walk's step -/
theorem setNext_of {Q : Option (Value × Nat) → Shared → Prop} (x : SetAt s.heap d (ledW w) σ es pl ep) (h4 : σ.length ≤ 4) (hi : i ≤ es.size)
    (h : (∀ e, (orderOf w d ep es)[i]? = some e → Q (some (e.2, slotAt w pl (i + 1))) s) ∧ ((orderOf w d ep es)[i]? = none → Q none s)) :
    wpAny (model prog w) A (setNext d (slotAt w pl i) i ep) Q E s := by
  have hf := x.fits h4
  unfold setNext
  refine wpAny_bind (wpAny_setState_of x.1 rfl hf ?_)
  refine wpAny_bind (byText_of ?_)
  by_cases hb : w.params.followText "set-order" = true
  · rw [hb]
    simp only [if_true, bne_self_eq_false, Bool.false_eq_true, if_false]
    refine wpAny_bind (setWalk_of x h4 hb (wpAny_pure ?_))
    cases e : (orderOf w d ep es)[i]? with
    | none => exact h.2 e
    | some y =>
      have := h.1 y e
      unfold slotAt at this ⊢
      rw [if_pos hb] at this ⊢
      exact this
  · have hb' : w.params.followText "set-order" = false := by simpa using hb
    rw [hb']
    simp only [Bool.false_eq_true, if_false]
    have hd : (!(tab (ledW w) pl).plain && decide (es.size > 1)) = false := rfl
    have hl : ledW w = true := by unfold ledW; rw [hb']; rfl
    show wpAny _ _ (if (!(tab (ledW w) pl).plain && decide (es.size > 1)) = true then _ else _) _ _ s
    rw [hd]
    simp only [Bool.false_eq_true, if_false]
    have hm : (!(tab (ledW w) pl).led && !es.isEmpty) = false := by
      show (!ledW w && !es.isEmpty) = false
      rw [hl]; rfl
    refine wpAny_bind (m := (if (!(tab (ledW w) pl).led && !es.isEmpty) = true then unsupported "set:maker-not-led" else pure ())) ?_
    rw [hm]
    simp only [Bool.false_eq_true, if_false]
    refine wpAny_pure ?_
    have ho : orderOf w d ep es = es := by unfold orderOf; rw [if_neg hb]
    rw [ho] at h
    have hpl := x.2.2.1
    have hbl : SetTable.below (tab (ledW w) pl).place (slotAt w pl i) = i := slot_below w x.2.1 (by have := x.size; omega) (by omega) hb
    refine wpAny_pure ?_
    rw [hbl]
    cases e : es[i]? with
    | none => exact h.2 e
    | some y =>
      have hi' := (Array.getElem?_eq_some_iff.mp e).1
      have hp : (tab (ledW w) pl).place[i]? = some (pl.getD i 0) := by
        show pl.toArray[i]? = _
        rw [List.getElem?_toArray, List.getD_eq_getElem?_getD, List.getElem?_eq_getElem (by omega)]
        rfl
      rw [hp]
      have := h.1 y e
      rw [slot_next w hb] at this
      obtain ⟨y1, y2⟩ := y
      exact this
theorem next_set {Q : Option Value → Shared → Prop} (hh : A.handled = none) (hit : IterAt s.heap it d (slotAt w pl i) i es.size ep) (x : SetAt s.heap d (ledW w) σ es pl ep) (h4 : σ.length ≤ 4) (hi : i ≤ es.size)
    (h1 : ∀ e h', (orderOf w d ep es)[i]? = some e → IterAt h' it d (slotAt w pl (i + 1)) (i + 1) es.size ep → Heap.SameBut it s.heap h' → Q (some e.2) { s with heap := h' })
    (h2 : (orderOf w d ep es)[i]? = none → ∀ h', Heap.ExtBut it s.heap h' → Q none { s with heap := h' }) : wpAny (model prog w) A (pyNext (.ref it)) Q E s := by
  have hf := x.fits h4
  obtain ⟨o, ho, hc, hd⟩ := id hit
  unfold pyNext
  refine wpAny_bind (wpAny_attempt (wpAny_callSpecial?_slot (name := Str.ofString "__next__") hit.typeIs slot_si_next
    (wpAny_call_entry slot_si_next hit.typeIs entry_si_next ?_ (args_si_next _))))
  unfold Builtin.«set_iterator.__next__» slotArgs
  simp only [List.isEmpty_nil, Bool.not_true, Bool.false_eq_true, ↓reduceIte, bind_assoc, List.length_nil, bne_self_eq_false]
  refine wpAny_bind (wpAny_pure ?_)
  refine wpAny_bind (wpAny_fieldsOf ho hd ?_)
  dsimp only
  refine wpAny_bind (wpAny_setEntries_of x.1 rfl hf ?_)
  simp only [bne_self_eq_false, Bool.false_eq_true, if_false, Int.toNat_natCast]
  refine wpAny_bind (setNext_of x h4 hi ⟨fun e he => ?_, fun he => ?_⟩)
  · dsimp only
    have g1 := Heap.get?_update_self (Obj.mapFields (·.setIfInBounds 0 (rawInt (slotAt w pl (i + 1) : Nat)))) ho (Obj.isFreed_of_fields (Obj.data_mapFields hd _))
    refine wpAny_bind (wpAny_setField ho hd (by simp) ?_)
    refine wpAny_bind (wpAny_setField g1 (Obj.data_mapFields hd _) (by simp) ?_)
    have g2 := Heap.get?_update_self (Obj.mapFields (·.setIfInBounds 1 (rawInt ((i : Int) + 1)))) g1 (Obj.isFreed_of_fields (Obj.data_mapFields (Obj.data_mapFields hd _) _))
    refine wpAny_pure ⟨e.2, rfl, wpAny_pure (h1 e _ he ⟨_, g2, ?_, ?_⟩ ((Heap.SameBut.update ..).trans (Heap.SameBut.update ..)))⟩
    · exact (Obj.cls_mapFields ..).trans ((Obj.cls_mapFields ..).trans hc)
    · rw [Obj.data_mapFields (Obj.data_mapFields hd _)]
      simp [rawInt]
  · dsimp only
    refine wpAny_bind (wpAny_setField ho hd (by simp) ?_)
    show wpAny _ _ (newExc (.type "StopIteration") [] >>= _) _ _ _
    refine wpAny_bind ?_
    simp only [newExc, newTuple]
    refine wpAny_bind (wpAny_newObj_type ?_ (by size_fits))
    refine wpAny_bind (m := firstArgMember _ _) (wpAny_of_eq (a := Value.none) (by first | rfl | (simp only [firstArgMember]; rfl)) ?_)
    refine wpAny_newObj_type ?_ (by size_fits)
    simp only [raiseNew]
    refine wpAny_bind (wpAny_handled ?_)
    rw [show A.in1.handled = none from hh]
    refine wpAny_bind (wpAny_pure (wpAny_throw ?_))
    refine wpAny_bind (wpAny_isInstance (T := "StopIteration") (b := true) ⟨_, Heap.get?_push_size _ rfl, rfl⟩ isSubtype_stop ?_)
    exact wpAny_pure (h2 he _ (((Heap.SameBut.update ..).extBut.push _).push _))
theorem self_si {Q : Value → Shared → Prop} (hit : IterAt s.heap it d slot i n ep) (h : Q (.ref it) s) : wpAny (model prog w) A (pyIter (.ref it)) Q E s := by
  refine wpAny_pyIter_slot hit.typeIs slot_si_iter (wpAny_call_entry slot_si_iter hit.typeIs entry_si_iter ?_ (args_si_iter _))
  show wpAny _ _ (ret (.ref it)) _ _ s
  exact wpAny_pure ⟨_, rfl, "set_iterator", _, hit.typeIs, slot_si_next.lookup, h⟩
theorem IterAt.at {h h' : Heap} (x : IterAt h it d slot i n ep) (e : ∀ o, h.get? it = some o → h'.get? it = some o) : IterAt h' it d slot i n ep := let ⟨o, ho, r⟩ := x; ⟨o, e _ ho, r⟩
theorem SetAt.at {h h' : Heap} {led : Bool} (x : SetAt h d led σ es pl ep) (e : ∀ o, h.get? d = some o → h'.get? d = some o) : SetAt h' d led σ es pl ep := ⟨e _ x.1, x.2⟩
theorem walk_set (hh : A.handled = none) (I d : Addr) (hne : d ≠ I) (h4 : σ.length ≤ 4) :
    Walks prog w A I [I, d] [I] es.size (fun i v => ∃ e, (orderOf w d ep es)[i]? = some e ∧ e.2 = v) (fun i h => i ≤ es.size ∧ IterAt h I d (slotAt w pl i) i es.size ep ∧ SetAt h d (ledW w) σ es pl ep) where
  sub := fun b hb => by simp at hb; simp [hb]
  frame := fun _ _ _ st hk => ⟨st.1, st.2.1.at fun o e => hk I (by simp) o e, st.2.2.at fun o e => hk d (by simp) o e⟩
  item := fun i s Q E hi st hQ => by
    have hsz : (orderOf w d ep es).size = es.size := by
      have := (order_perm w d ep es).length_eq
      simpa using this
    refine next_set hh st.2.1 st.2.2 h4 st.1 (fun e h' he hit' hs' => ?_) fun he => ?_
    · exact hQ _ h' s.toks ⟨e, he, rfl⟩ ⟨hi, hit', st.2.2.at fun o e => hs'.extBut d o hne e⟩ fun b o hb e => hs'.extBut b o (fun h => hb (by simp [h])) e
    · rw [Array.getElem?_eq_none_iff] at he
      omega
  done := fun s Q E st hQ => by
    have hsz : (orderOf w d ep es).size = es.size := by
      have := (order_perm w d ep es).length_eq
      simpa using this
    refine next_set hh st.2.1 st.2.2 h4 st.1 (fun e h' he hit' hs' => ?_) fun he h' he' => ?_
    · have := (Array.getElem?_eq_some_iff.mp he).1
      omega
    · exact hQ h' s.toks fun b o hb e => he' b o (fun h => hb (by simp [h])) e
  self := fun _ _ _ _ st hQ => self_si st.2.1 hQ
end
end Mine
end
section
open PySem PySem.W PyProof.Rows PySem.Calls PySem.Spec
set_option maxRecDepth 100000
namespace Mine
section
variable {prog : Program} {w : World} {A : Around} {E : Value → Shared → Prop} {s : Shared} {d : Addr} {ep : Nat} {σ : List Int} {es : Array (Int × Value)} {pl : List Nat}
theorem hint_set {Q : Bool → Shared → Prop} (hT : s.TypeIs (.ref d) "set") (h : Q false s) : wpAny (model prog w) A (Builtin.List.listLengthHint (.ref d)) Q E s := by
  unfold Builtin.List.listLengthHint
  refine wpAny_bind (wpAny_specialOf hT PySem.F.slot_set_len.lookup ?_)
  generalize hid : ("set.__len__" : String) = id0
  wp_delta
  rw [show splitId id0 = some ("set", "__len__") from by subst hid; decide +kernel]
  subst hid
  refine wpAny_bind (wpAny_isInstance (T := "set") (b := true) hT (by rw [isSubtype_type]; kernel_rfl) ?_)
  refine wpAny_ite_split (fun hab => absurd hab (by decide)) (fun _ => ?_)
  refine wpAny_ite_split (fun _ => ?_) (fun hab => absurd (by decide +kernel) hab)
  refine wpAny_bind (wpAny_typeOf hT ?_)
  exact wpAny_pure h
theorem src_set (h4 : σ.length ≤ 4) : KdlSrc prog w "set" d d es.size (fun i v => ∃ e, (orderOf w d ep es)[i]? = some e ∧ e.2 = v) (fun h => SetAt h d (ledW w) σ es pl ep) where
  type := fun _ x => SetAt.typeIs x
  there := fun _ x => ⟨Heap.lt_size x.1, Heap.lt_size x.1⟩
  keep := fun _ _ x hk => x.at fun o e => hk d (.inl rfl) o e
  notList := by decide
  notTuple := by decide
  hint := fun _ _ _ _ x hq => hint_set (SetAt.typeIs x) hq
  iter := fun _ _ hh x => ⟨_, _, (fun _ _ hq => iter_set x h4 hq), walk_set hh _ d (Nat.ne_of_lt (Heap.lt_size x.1)) h4, ⟨Nat.zero_le _, ⟨_, Heap.get?_push_size _ rfl, rfl, by unfold slotAt; simp⟩, x.at fun _ e => Heap.get?_push_of_some _ e⟩⟩
theorem order_ints (x : SetAt s.heap d (ledW w) σ es pl ep) : ∃ l : List (Int × Tok), (orderOf w d ep es).toList = elems l ∧ (l.map (·.1)).Perm σ := by
  obtain ⟨_, _, _, l, hp, rfl⟩ := x
  have h := (order_perm w d ep es).trans hp
  have key : ∀ (xs : List (Int × Value)) (l : List (Int × Tok)), xs.Perm (elems l) → ∃ l', xs = elems l' ∧ l'.Perm l := by
    intro xs l h
    generalize hE : elems l = ys at h
    induction h generalizing l with
    | nil => exact ⟨[], rfl, by cases l with | nil => exact .nil | cons a l => cases hE⟩
    | @cons x l₁ l₂ hp ih =>
      cases l with
      | nil => cases hE
      | cons a l =>
        simp only [elems, List.map_cons, List.cons.injEq] at hE
        obtain ⟨l', e, p⟩ := ih l hE.2
        exact ⟨a :: l', by rw [e, ← hE.1]; rfl, p.cons a⟩
    | swap x y l₀ =>
      match l, hE with
      | a :: b :: l, hE =>
        simp only [elems, List.map_cons, List.cons.injEq] at hE
        exact ⟨b :: a :: l, by rw [← hE.1, ← hE.2.1, ← hE.2.2]; rfl, List.Perm.swap _ _ _⟩
      | [_], hE => simp [elems] at hE
      | [], hE => simp [elems] at hE
    | trans _ _ ih1 ih2 =>
      obtain ⟨l2, e2, p2⟩ := ih2 l hE
      obtain ⟨l1, e1, p1⟩ := ih1 l2 e2.symm
      exact ⟨l1, e1, p1.trans p2⟩
  obtain ⟨l', e, p⟩ := key _ l h
  exact ⟨l', e, p.map _⟩
theorem ints_of_elems : ∀ {vs : List Value} {l : List (Int × Tok)}, vs.length = l.length → (∀ (j : Nat) (v : Value), vs[j]? = some v → ∃ e : Int × Value, (elems l)[j]? = some e ∧ e.2 = v) → IntsAre vs (l.map (·.1))
  | [], [], _, _ => .nil
  | v :: vs, p :: l, hl, h => by
    obtain ⟨e, he, hv⟩ := h 0 v rfl
    simp only [elems, List.map_cons, List.getElem?_cons_zero, Option.some.injEq] at he
    subst he
    dsimp only at hv
    subst hv
    exact .cons _ _ (ints_of_elems (by simpa using hl) fun j v hj => by
      have := h (j + 1) v (by simpa using hj)
      simpa [elems] using this)
theorem sorted_set {g : Heap} {L : Addr} {m : Str → Option Value} {nx : List (Addr × Obj)} {Q : Value → Shared → Prop} (hh : A.handled = none) (F : Fr g L s.heap m) (N : News g L s.heap nx)
    (x : SetAt s.heap d (ledW w) σ es pl ep) (h4 : σ.length ≤ 4)
    (h : ∀ D ys σ' k h' tk, Fr g L h' m → News g L h' ((D, W.listOf (List.toArray ys) k) :: nx) → (∀ q ∈ nx, q.1 < D) → IntsAre ys σ' → σ'.Perm σ → σ'.Pairwise (· ≤ ·) → Q (.ref D) { s with heap := h', toks := tk }) :
    wpAny (model prog w) A (call (.builtin "sorted") [.ref d]) Q E s := by
  have hsz : es.size ≤ 4 := by rw [x.size]; exact h4
  obtain ⟨l, hl, hp⟩ := order_ints x
  refine kdu_sorted (src_set (prog := prog) (ep := ep) (es := es) (pl := pl) h4) hh F N x (by unfold sizeLine; omega) fun D h' tk vs F' N' l1 hvl hv => ?_
  have hll : l.length = es.size := by
    have e1 := (order_perm w d ep es).length_eq
    rw [hl] at e1
    simpa [elems] using e1
  have hI : IntsAre vs (l.map (·.1)) := ints_of_elems (by omega) fun j v hj => by
    obtain ⟨e, he, e2⟩ := hv j v hj
    rw [← Array.getElem?_toList, hl] at he
    exact ⟨e, he, e2⟩
  have z := N' _ (.head _)
  have ho : h'.get? D = some (seqObj "list" vs.toArray 0) := z.1
  refine wpAny_call_entry PyProof.Rows.slot_list_sort ⟨_, ho, rfl⟩ PyProof.Rows.entry_list_sort (list_sort_tree (s := { s with heap := h', toks := tk }) ho hI (by omega) fun out ns' hO hpp hP => ⟨.none, rfl, ?_⟩) (PyProof.Rows.args_list_sort _)
  have oth : Heap.ExtBut D h' (sortedHeap h' D vs out) := by
    unfold sortedHeap
    intro b o hb e
    have e1 := (Heap.SameBut.update h' D (Obj.mapSeq fun _ => (#[] : Array Value))).extBut b o hb e
    exact (Heap.SameBut.update _ D _).extBut b o hb (Heap.get?_push_of_some _ (Heap.get?_push_of_some _ e1))
  have hD : ∃ k, (sortedHeap h' D vs out).get? D = some (W.listOf (List.toArray out.toList) k) := by
    unfold sortedHeap
    have e1 := get?_update_seq ho (fun _ => (#[] : Array Value))
    have e3 := get?_update_seq (Heap.get?_push_of_some (seqObj "list" #[] 0) (Heap.get?_push_of_some (seqObj "tuple" vs.toArray 0) e1)) (fun _ => out)
    generalize (if (out.size == (#[] : Array Value).size) = true then _ else _) = k at e3
    exact ⟨k, by rw [Array.toArray_toList]; exact e3⟩
  obtain ⟨k, hD⟩ := hD
  have F2 : Fr g L (sortedHeap h' D vs out) m := by
    unfold sortedHeap
    exact ((((F'.change (Heap.SameBut.update ..) z.2.1 z.2.2).push _).push _).change (Heap.SameBut.update ..) z.2.1 z.2.2)
  refine h D out.toList ns' k _ tk F2 (fun p hp => ?_) l1 hO (hpp.trans hp) hP
  rcases List.mem_cons.mp hp with rfl | hp
  · exact ⟨hD, z.2.1, z.2.2⟩
  · have y := N' _ (.tail _ hp)
    exact ⟨oth _ _ (Nat.ne_of_lt (l1 p hp)) y.1, y.2⟩
end
end Mine
end
section
open PySem PySem.W PyProof.Rows PySem.Calls PySem.SeqAt
set_option maxRecDepth 100000
namespace Mine
/-- the posts, each once, ascending -/
def qsOf (ps : List Int) : List Int := (nine.map fun (n : Nat) => (n : Int)).filter fun q => decide (q ∈ ps)
theorem dedup_mem (k : Int) : ∀ (ns σ : List Int), k ∈ ns.foldl step_dedup σ ↔ k ∈ σ ∨ k ∈ ns
  | [], σ => by simp
  | n :: ns, σ => by
    rw [List.foldl_cons, dedup_mem k ns]
    unfold step_dedup
    split
    · rename_i h
      obtain ⟨y, hy, e⟩ := List.any_eq_true.mp h
      have e := eq_of_beq e
      subst e
      constructor
      · rintro (h | h)
        · exact .inl h
        · exact .inr (.tail _ h)
      · rintro (h | h)
        · exact .inl h
        · rcases List.mem_cons.mp h with rfl | h
          · exact .inl hy
          · exact .inr h
    · rw [List.mem_append, List.mem_singleton, List.mem_cons]
      constructor
      · rintro ((h | h) | h)
        · exact .inl h
        · exact .inr (.inl h)
        · exact .inr (.inr h)
      · rintro (h | h | h)
        · exact .inl (.inl h)
        · exact .inl (.inr h)
        · exact .inr h
theorem dedup_nodup : ∀ (ns σ : List Int), σ.Nodup → (ns.foldl step_dedup σ).Nodup
  | [], σ, h => h
  | n :: ns, σ, h => by
    rw [List.foldl_cons]
    refine dedup_nodup ns _ ?_
    unfold step_dedup
    split
    · exact h
    · rename_i hn
      rw [List.nodup_append]
      refine ⟨h, by simp, fun a ha b hb => ?_⟩
      rw [List.mem_singleton.mp hb]
      rintro rfl
      exact hn (List.any_eq_true.mpr ⟨a, ha, by simp⟩)
theorem qs_sorted (ps : List Int) : (qsOf ps).Pairwise (· ≤ ·) := List.Pairwise.filter _ (by decide)
theorem qs_nodup (ps : List Int) : (qsOf ps).Nodup := List.Pairwise.filter _ (by decide)
theorem mem_qs {ps : List Int} (hlow : ∀ k ∈ ps, 0 ≤ k ∧ k < 9) (k : Int) : k ∈ qsOf ps ↔ k ∈ ps := by
  unfold qsOf
  rw [List.mem_filter, decide_eq_true_eq]
  refine ⟨fun h => h.2, fun h => ⟨?_, h⟩⟩
  have := hlow k h
  obtain ⟨n, rfl⟩ := Int.eq_ofNat_of_zero_le this.1
  exact List.mem_map.mpr ⟨n, mem_nine (by omega), rfl⟩
theorem qs_is {ps σ : List Int} (hlow : ∀ k ∈ ps, 0 ≤ k ∧ k < 9) (hp : σ.Perm (ps.foldl step_dedup [])) (hs : σ.Pairwise (· ≤ ·)) : σ = qsOf ps := by
  refine lks_uniq (hp.trans ?_) hs (qs_sorted ps)
  refine (List.perm_ext_iff_of_nodup (dedup_nodup ps [] .nil) (qs_nodup ps)).mpr fun k => ?_
  rw [dedup_mem, mem_qs hlow]
  simp
theorem posts_low2 {ns : List Int} : ∀ k ∈ postsOf ns, 0 ≤ k ∧ k < 9 := fun k hk => by
  obtain ⟨j, rfl, hj⟩ := posts_low hk
  omega
section
variable {prog : Program} {w : World} {A : Around} {E : Value → Shared → Prop} {s : Shared}
theorem set_posts {g : Heap} {L : Addr} {m : Str → Option Value} {nx : List (Addr × Obj)} {l : Addr} {vs : List Value} {ps : List Int} {Q : Value → Shared → Prop} (hh : A.handled = none) (F : Fr g L s.heap m) (N : News g L s.heap nx)
    (l0 : LAt nx l vs) (i0 : IntsAre vs ps) (h4 : ps.length ≤ 4) (hlow : ∀ k ∈ ps, 0 ≤ k ∧ k < 9)
    (h : ∀ S es pl ep h' tk, Fr g L h' m → News g L h' nx → SetAt h' S (ledW w) (ps.foldl step_dedup []) es pl ep → Q (.ref S) { s with heap := h', toks := tk }) :
    wpAny (model prog w) A (call (.type "set") [.ref l]) Q E s :=
  set_of_ints hh (l0.list N) i0 h4 hlow fun h' tk ⟨es, pl, ep, x⟩ hk => h _ es pl ep h' tk (Fr.after F hk) (News.keepsAll N hk) x
theorem sorted_posts {g : Heap} {L : Addr} {m : Str → Option Value} {nx : List (Addr × Obj)} {S : Addr} {ps : List Int} {es : Array (Int × Value)} {pl : List Nat} {ep : Nat} {Q : Value → Shared → Prop} (hh : A.handled = none) (F : Fr g L s.heap m) (N : News g L s.heap nx)
    (x : SetAt s.heap S (ledW w) (ps.foldl step_dedup []) es pl ep) (h4 : ps.length ≤ 4) (hlow : ∀ k ∈ ps, 0 ≤ k ∧ k < 9)
    (h : ∀ D ys h' tk nx', Fr g L h' m → News g L h' nx' → (∀ p ∈ nx, p ∈ nx') → LAt nx' D ys → IntsAre ys (qsOf ps) → Q (.ref D) { s with heap := h', toks := tk }) :
    wpAny (model prog w) A (call (.builtin "sorted") [.ref S]) Q E s := by
  refine sorted_set hh F N x (by have := dedup_len ps []; simp only [List.length_nil] at this; omega) fun D ys σ' k h' tk F' N' _ hi hp hs => ?_
  rw [qs_is hlow hp hs] at hi
  exact h D ys h' tk _ F' N' (fun p hp => .tail _ hp) ⟨k, .head _⟩ hi
end
end Mine
end
section
open PySem PySem.W PyProof.Rows PySem.Calls
set_option maxRecDepth 100000
namespace Mine
def inRow (i : Nat) (z : Int) : Bool := z.fdiv 3 == (i : Int)
def inCol (i : Nat) (z : Int) : Bool := z.fmod 3 == (i : Int)
def tally (f : Nat → Int → Bool) (qs : List Int) (i : Nat) : Nat := (qs.filter (f i)).length
def tallies (f : Nat → Int → Bool) (qs : List Int) : List Int := (List.range 3).map fun i => (tally f qs i : Int)
theorem tallies_len (f : Nat → Int → Bool) (qs : List Int) : (tallies f qs).length = 3 := by simp [tallies]
theorem tallies_step (f : Nat → Int → Bool) (qs : List Int) {i : Nat} (h : i < 3) : (tallies f qs).take (i + 1) = (tallies f qs).take i ++ [(tally f qs i : Int)] := by
  unfold tallies
  rw [List.take_add_one, List.getElem?_map, List.getElem?_range h]
  rfl
theorem tally_step {f : Int → Bool} {qs : List Int} {q : Nat} {z : Int} (hz : qs[q]? = some z) : ((qs.take (q + 1)).filter f).length = ((qs.take q).filter f).length + if f z = true then 1 else 0 := by
  rw [List.take_add_one, hz, List.filter_append, List.length_append]
  congr 1
  simp only [Option.toList_some, List.filter_cons, List.filter_nil]
  split <;> rfl
theorem qs_len {ps : List Int} (hlow : ∀ k ∈ ps, 0 ≤ k ∧ k < 9) : (qsOf ps).length ≤ ps.length := by
  have h := (List.perm_ext_iff_of_nodup (dedup_nodup ps [] .nil) (qs_nodup ps)).mpr fun k => by rw [dedup_mem, mem_qs hlow]; simp
  rw [← h.length_eq]
  have := dedup_len ps []
  simpa using this
end Mine
end
section
open PySem PySem.W PyProof.Rows PySem.Calls
set_option maxRecDepth 100000
namespace Mine
def isAlone (qs : List Int) (z : Int) : Bool := (tallies inRow qs).getD (z.toNat / 3) 0 == 1 && (tallies inCol qs).getD (z.toNat % 3) 0 == 1
def aloneQ (qs : List Int) : Nat := (qs.filter (isAlone qs)).length
def bareQ (qs : List Int) : Int := if (((tallies inCol qs).count 0 : Nat) : Int) > (((tallies inRow qs).count 0 : Nat) : Int) then (((tallies inCol qs).count 0 : Nat) : Int) else (((tallies inRow qs).count 0 : Nat) : Int)
end Mine
end
section
open PySem PySem.W PyProof.Rows PySem.Calls
set_option maxRecDepth 100000
namespace Mine
def same (qs : List Int) (j i : Nat) : Bool := qs.all fun p => unlike j p.toNat == unlike i p.toNat
def alikeQ (qs : List Int) : List Int := (List.range 9).map fun i => (((List.range 9).filter fun j => same qs j i).length : Int)
theorem same_ok {ps : List Int} (hlow : ∀ k ∈ ps, 0 ≤ k ∧ k < 9) (j i : Nat) : decide (dueRow ps j = dueRow ps i) = same (qsOf ps) j i := by
  rw [Bool.eq_iff_iff, decide_eq_true_iff]
  unfold dueRow same
  rw [List.map_inj_left, List.all_eq_true]
  constructor
  · intro h p hp
    have := h p ((mem_qs hlow p).mp hp)
    rw [beq_iff_eq]
    omega
  · intro h p hp
    have := h p ((mem_qs hlow p).mpr hp)
    rw [beq_iff_eq] at this
    rw [this]
theorem alike_is {ps : List Int} (hlow : ∀ k ∈ ps, 0 ≤ k ∧ k < 9) : alikeOf (dueOf ps) = alikeQ (qsOf ps) := by
  unfold alikeOf alikeQ
  conv => lhs; arg 2; unfold dueOf
  rw [List.map_map]
  refine List.map_congr_left fun i _ => ?_
  show (countR (dueOf ps) (dueRow ps i) : Int) = _
  unfold countR dueOf
  rw [List.filter_map, List.length_map]
  congr 2
  refine List.filter_congr fun j _ => ?_
  exact same_ok hlow j i
def lawQ (q : List Int) : Bool := ((decide (bareQ q ≤ 1) && decide ((aloneQ q : Int) ≤ 1)) == (alikeQ q).all fun a => decide (a ≤ 1)) && (alikeQ q).all fun a => decide (1 ≤ a)
def castQ (q : List Nat) : List Int := q.map fun (n : Nat) => (n : Int)
def lawAll : Bool := (subs nine).all fun q => decide (4 < q.length) || q.isEmpty || lawQ (castQ q)
theorem lawAll_ok : lawAll = true := by decide +kernel
theorem qs_cast (ps : List Int) : ∃ q, q ∈ subs nine ∧ qsOf ps = castQ q := by
  refine ⟨nine.filter fun n => decide ((n : Int) ∈ ps), mem_subs List.filter_sublist, ?_⟩
  unfold qsOf castQ
  rw [List.filter_map]
  rfl
theorem law_plain {ps : List Int} (hl : ps ≠ []) (hl4 : ps.length ≤ 4) (hlow : ∀ k ∈ ps, 0 ≤ k ∧ k < 9) {M : Int} (hM : M ∈ alikeOf (dueOf ps)) (hx : ∀ a, a ∈ alikeOf (dueOf ps) → a ≤ M) :
    (decide (bareQ (qsOf ps) ≤ 1) && decide ((aloneQ (qsOf ps) : Int) ≤ 1)) = decide (M = 1) := by
  rw [alike_is hlow] at hM hx
  have hq4 := qs_len hlow
  have hqn : qsOf ps ≠ [] := fun e => by
    obtain ⟨a, ha⟩ := List.exists_mem_of_ne_nil ps hl
    have := (mem_qs hlow a).mpr ha
    rw [e] at this
    cases this
  obtain ⟨q, hq, e⟩ := qs_cast ps
  rw [e] at hM hx hq4 hqn ⊢
  have hql : q.length = (castQ q).length := by unfold castQ; rw [List.length_map]
  have h := List.all_eq_true.mp lawAll_ok q hq
  rw [decide_eq_false (by omega), Bool.false_or] at h
  have hne : q.isEmpty = false := by
    cases q with
    | nil => exact absurd (show castQ [] = [] from rfl) hqn
    | cons => rfl
  rw [hne, Bool.false_or] at h
  unfold lawQ at h
  rw [Bool.and_eq_true, beq_iff_eq] at h
  rw [h.1]
  have h1 := of_decide_eq_true (List.all_eq_true.mp h.2 M hM)
  rw [Bool.eq_iff_iff, decide_eq_true_iff, List.all_eq_true]
  constructor
  · intro g
    have := of_decide_eq_true (g M hM)
    omega
  · intro g a ha
    have := hx a ha
    exact decide_eq_true (by omega)
end Mine
end
section
open PySem PySem.W PyProof.Rows PySem.Calls
namespace Mine
set_option maxRecDepth 100000
set_option maxHeartbeats 8000000
local macro_rules | `(tactic| walk_at "no key 0") => `(tactic| skip)
local macro_rules | `(tactic| walk_at "no key 1") => `(tactic| skip)
local macro_rules | `(tactic| walk_at "no key 2") => `(tactic| skip)
local macro_rules | `(tactic| walk_at "no key 3") => `(tactic| skip)
local macro_rules | `(tactic| walk_at "no key 4") => `(tactic| skip)
local macro_rules | `(tactic| walk_at "no key 5") => `(tactic| skip)
local macro_rules | `(tactic| walk_at "no key 6") => `(tactic| skip)
local macro_rules | `(tactic| walk_at "no key 7") => `(tactic| skip)
local macro_rules | `(tactic| walk_at "no key 8") => `(tactic| skip)
local macro_rules | `(tactic| walk_at "no key 9") => `(tactic| skip)
local macro_rules | `(tactic| walk_at "no key 10") => `(tactic| skip)
local macro_rules | `(tactic| walk_at "no key 11") => `(tactic| skip)
local macro_rules | `(tactic| walk_at "no key 12") => `(tactic| skip)
local macro_rules | `(tactic| walk_at "eval Name") => `(tactic| ((try dsimp only); first | (refine cmpName (by assumption) rfl rfl ?_ rfl rfl; (try dsimp only)) | (refine cmpCell (by assumption) rfl rfl ?_ rfl rfl; (try dsimp only))))

theorem t : PySem.Challenge.rw_pg0173_02.Holds := hd (by
  k_go0
  all_goals try k_fold
  rename_i w s₀ s₁ mg mb G Y fa o pm doc ho hg KX X V GL T B TE TW w14 w13 M w12 w11 hcd ks hs hlay0 hL1 hr1 hl2 w9 w8 l vs w5 hL ra w1 r0 hI hr0 hcond hcond2 K0 hD h₁ tk₁ F o6 o5 o4 o3 o2 o1 d6 d5 d4 d3 d2 d1 N0 X0
  have c6 : o6.data = .cell none := d6
  have c5 : o5.data = .cell none := d5
  have c4 : o4.data = .cell none := d4
  have c3 : o3.data = .cell none := d3
  have c2 : o2.data = .cell none := d2
  have c1 : o1.data = .cell none := d1
  obtain ⟨m0, F0, q0⟩ : ∃ m, Fr s₁.heap s₁.heap.objs.size h₁ m ∧ has [(Str.ofString "script", .ref l)] m := ⟨_, F, has.cons rfl has.nil⟩
  refine wpAny_mono (E := fun _ _ => False) (Q := fun fl s' => fl = .ret (.bool true) ∧ ∃ h' tk m', s' = { s₁ with heap := h', toks := tk } ∧ Fr s₁.heap s₁.heap.objs.size h' m') ?_ ?_ ?_
  · clear d6 d5 d4 d3 d2 d1 X0 F K0 hcd hD G Y B TE TW M GL qk ek hs hlay0 hL1 hr1 hl2 ra w1 r0 hr0 hcond2 X V hg ho
    refine seqN1 (s := s₁) (g := s₁.heap) (L := s₁.heap.objs.size) (fun m nx => ∃ D us, has [(Str.ofString "script", .ref l), (Str.ofString "numbers", .ref D)] m ∧ LAt nx D us ∧ IntsAre us (nums2 ks) ∧ CAt nx (s₁.heap.objs.size + 1) none ∧ CAt nx (s₁.heap.objs.size + 1 + 1) none ∧ CAt nx (s₁.heap.objs.size + 1 + 1 + 1) none ∧ CAt nx (s₁.heap.objs.size + 1 + 1 + 1 + 1) none ∧ CAt nx (s₁.heap.objs.size + 1 + 1 + 1 + 1 + 1) none ∧ CAt nx (s₁.heap.objs.size + 1 + 1 + 1 + 1 + 1 + 1) none) ?_ ?_
    · have F1 := has.fr F0 q0
      clear F0 q0
      iterate 32 (first | (k_unfold; (try dsimp only)) | walk1 | (dsimp only; walk1) | (leave1; (try dsimp only)) | skip)
      refine rest_of (s := Shared.mk _ _ _ _ _) (n := ks.length) (ns := [0, 4, 5]) (by assumption) (by assumption) ⟨_, (by assumption : News _ _ _ (_ :: _ :: _)).get (.head _), rfl, _, rfl⟩ (by repeat constructor) ?_ rfl (by show (3 : Nat) ≤ 1000; decide)
      intro D2 ws2 h2 F2 N2 l2 i2
      dsimp only at F2 N2 l2 ⊢
      iterate 4 (first | (k_unfold; (try dsimp only)) | walk1 | (dsimp only; walk1) | (leave1; (try dsimp only)) | skip)
      rename_i D3 ws3 _ i3 l3 h3 F3 N3
      refine CutN.go F3 N3 ⟨D3, ws3, has.cons rfl (has.cons rfl has.nil), ⟨0, .head _⟩, i3, ⟨o1, ?_, c1⟩, ⟨o2, ?_, c2⟩, ⟨o3, ?_, c3⟩, ⟨o4, ?_, c4⟩, ⟨o5, ?_, c5⟩, ⟨o6, ?_, c6⟩⟩
      all_goals simp
    clear F0 q0 N0 hI hL c1 c2 c3 c4 c5 c6
    rintro ha tka ma na Fa Na ⟨D3, us, q3, lN, i3, cB, cP, cS, cD, cR, cC⟩
    refine seqN1 (s := s₁) (g := s₁.heap) (L := s₁.heap.objs.size) (fun m nx => ∃ Bd bv a b p q, has [(Str.ofString "script", .ref l), (Str.ofString "numbers", .ref D3)] m ∧ LAt nx D3 us ∧ LAt nx Bd bv ∧ StrsAt bv (boardOf a b p q) ∧ (a < 2 ∧ b < 2 ∧ p < 4 ∧ q < 4) ∧ CAt nx (s₁.heap.objs.size + 1) (some (.ref Bd)) ∧ CAt nx (s₁.heap.objs.size + 1 + 1) none ∧ CAt nx (s₁.heap.objs.size + 1 + 1 + 1) none ∧ CAt nx (s₁.heap.objs.size + 1 + 1 + 1 + 1) none ∧ CAt nx (s₁.heap.objs.size + 1 + 1 + 1 + 1 + 1) none ∧ CAt nx (s₁.heap.objs.size + 1 + 1 + 1 + 1 + 1 + 1) none) ?_ ?_
    · have F1 := has.fr Fa q3
      clear Fa q3
      have hnl := nums2_len ks
      refine one ?_
      refine wpAny_Assign_Name ?_ (by rfl)
      iterate 7 (first | (k_unfold; (try dsimp only)) | walk1 | (dsimp only; walk1) | (leave1; (try dsimp only)) | skip)
      refine board_use (s := Shared.mk _ _ _ _ _) F1 Na KX T rfl (by dsimp only [Around.deeper]; decide) (by dsimp only [Around.deeper]; decide) (lN.list Na) i3 (by omega) (by omega) fun D ys h' tk' n2 a b p q ha hb hp hq F2 N2 hup l2 hys => ?_
      refine stCell F2 N2 rfl (cB.mono hup) fun h9 nx F9 N9 hl9 hc9 hB => ?_
      exact CutN.go F9 N9 ⟨D, ys, a, b, p, q, has.cons rfl (has.cons rfl has.nil), hl9 _ _ (lN.mono hup), hl9 _ _ l2, hys, ⟨ha, hb, hp, hq⟩, hB, hc9 _ _ (cne _ 2 1 (by decide)) (cP.mono hup), hc9 _ _ (cne _ 3 1 (by decide)) (cS.mono hup), hc9 _ _ (cne _ 4 1 (by decide)) (cD.mono hup), hc9 _ _ (cne _ 5 1 (by decide)) (cR.mono hup), hc9 _ _ (cne _ 6 1 (by decide)) (cC.mono hup)⟩
    clear Fa Na q3 lN cB cP cS cD cR cC
    rintro hb tkb mb' nb Fb Nb ⟨Bd, bv, a, b, p, q, q4, lN, lB, hbv0, hab, cB, cP, cS, cD, cR, cC⟩
    rw [board_is hab.1 hab.2.1 hab.2.2.1 hab.2.2.2] at hbv0
    refine seqN1 (s := s₁) (g := s₁.heap) (L := s₁.heap.objs.size) (fun m nx => has [(Str.ofString "script", .ref l), (Str.ofString "numbers", .ref D3)] m ∧ LAt nx D3 us ∧ LAt nx Bd bv ∧ CAt nx (s₁.heap.objs.size + 1) (some (.ref Bd)) ∧ CAt nx (s₁.heap.objs.size + 1 + 1) none ∧ CAt nx (s₁.heap.objs.size + 1 + 1 + 1) none ∧ CAt nx (s₁.heap.objs.size + 1 + 1 + 1 + 1) none ∧ CAt nx (s₁.heap.objs.size + 1 + 1 + 1 + 1 + 1) none ∧ CAt nx (s₁.heap.objs.size + 1 + 1 + 1 + 1 + 1 + 1) none) ?_ ?_
    · have F1 := has.fr Fb q4
      clear Fb q4
      refine one ?_
      refine ifSkip ?_
      have hbl : bv.length = 9 := by rw [hbv0.len, base_len]
      iterate 5 (first | (k_unfold; (try dsimp only)) | walk1 | (dsimp only; walk1) | (leave1; (try dsimp only)) | skip)
      refine ldCell (s := Shared.mk _ _ _ _ _) Nb rfl cB ?_
      iterate 1 (first | (k_unfold; (try dsimp only)) | walk1 | (dsimp only; walk1) | (leave1; (try dsimp only)) | skip)
      refine len_use (s := Shared.mk _ _ _ _ _) (lB.list Nb) (by omega) ?_
      rw [hbl]
      iterate 3 (first | (k_unfold; (try dsimp only)) | walk1 | (dsimp only; walk1) | (leave1; (try dsimp only)) | skip)
      refine ⟨by decide, ?_⟩
      exact CutN.go F1 Nb ⟨has.cons rfl (has.cons rfl has.nil), lN, lB, cB, cP, cS, cD, cR, cC⟩
    clear Fb Nb q4 lN lB cB cP cS cD cR cC
    rintro hc tkc mc nc Fc Nc ⟨q5, lN, lB, cB, cP, cS, cD, cR, cC⟩
    refine seqN1 (s := s₁) (g := s₁.heap) (L := s₁.heap.objs.size) (fun m nx => ∃ P pv, has [(Str.ofString "script", .ref l), (Str.ofString "numbers", .ref D3)] m ∧ LAt nx Bd bv ∧ LAt nx P pv ∧ IntsAre pv (postsOf (nums2 ks)) ∧ CAt nx (s₁.heap.objs.size + 1) (some (.ref Bd)) ∧ CAt nx (s₁.heap.objs.size + 1 + 1) (some (.ref P)) ∧ CAt nx (s₁.heap.objs.size + 1 + 1 + 1) none ∧ CAt nx (s₁.heap.objs.size + 1 + 1 + 1 + 1) none ∧ CAt nx (s₁.heap.objs.size + 1 + 1 + 1 + 1 + 1) none ∧ CAt nx (s₁.heap.objs.size + 1 + 1 + 1 + 1 + 1 + 1) none) ?_ ?_
    · have F1 := has.fr Fc q5
      clear Fc q5
      have hnl := nums2_len ks
      refine one ?_
      refine wpAny_Assign_Name ?_ (by rfl)
      refine compR (s := Shared.mk _ _ _ _ _) (cl := []) (names := [Str.ofString "v"]) (n := (nums2 ks).length) (P' := fun i vals => ∃ x t, vals = [.int x t] ∧ (nums2 ks)[i]? = some x) (by rfl) (by decide) (by rfl) (by decide) (by decide) (Nat.le_trans hnl.2 (by decide))
        (fun i ys made => made = [] ∧ IntsAre ys ((postsOf (nums2 ks)).take i)) ⟨rfl, .nil⟩ ?it ?turn ?done
      case it =>
        iterate 1 (first | (k_unfold; (try dsimp only)) | walk1 | (dsimp only; walk1) | (leave1; (try dsimp only)) | skip)
        exact srcInts (s := Shared.mk _ _ _ _ _) rfl (fun _ _ e => e) (Nat.le_refl _) (lN.list Nc) i3 rfl
      case turn =>
        intro i ys made C h2 tk2 m2 own vals hin hJ hln hP F2 N2
        dsimp only at F2 N2
        rw [List.forIn_nil]
        refine wpAny_pure ?_
        rw [if_pos rfl]
        obtain ⟨x, xt, rfl, hx⟩ := hP
        have F3 := has.fr F2 (ps := [(Str.ofString "v", .int x xt)]) (has.cons rfl has.nil)
        clear F2
        iterate 5 (first | (k_unfold; (try dsimp only)) | walk1 | (dsimp only; walk1) | (leave1; (try dsimp only)) | skip)
        refine EltEnd.mk F3 N2 ⟨hJ.1, ?_⟩
        have hst : (postsOf (nums2 ks)).take (i + 1) = (postsOf (nums2 ks)).take i ++ [x.fmod 9] := by
          unfold postsOf
          rw [List.take_add_one, List.getElem?_map, hx]
          rfl
        rw [hst]
        exact hJ.2.append (.cons _ _ .nil)
      case done =>
        refine compLed F1 Nc fun D ys k made h' tk hJ F N hne => ?_
        obtain ⟨rfl, hys⟩ := hJ
        have hup : ∀ p ∈ nc, p ∈ (D, W.listOf ys.toArray k) :: ([] ++ nc) := fun p hp => .tail _ hp
        rw [List.take_of_length_le (by unfold postsOf; rw [List.length_map]; exact Nat.le_refl _)] at hys
        refine stCell F N rfl (cP.mono hup) fun h9 nx F9 N9 hl9 hc9 hP => ?_
        exact CutN.go F9 N9 ⟨D, ys, has.cons rfl (has.cons rfl has.nil), hl9 _ _ (lB.mono hup), hl9 _ _ ⟨k, .head _⟩, hys, hc9 _ _ (cne _ 1 2 (by decide)) (cB.mono hup), hP, hc9 _ _ (cne _ 3 2 (by decide)) (cS.mono hup), hc9 _ _ (cne _ 4 2 (by decide)) (cD.mono hup), hc9 _ _ (cne _ 5 2 (by decide)) (cR.mono hup), hc9 _ _ (cne _ 6 2 (by decide)) (cC.mono hup)⟩
    clear Fc Nc q5 lN lB cB cP cS cD cR cC
    rintro hd1 tkd md nd Fd Nd ⟨Pd, pv, q6, lB, lP, iP, cB, cP, cS, cD, cR, cC⟩
    refine seqN1 (s := s₁) (g := s₁.heap) (L := s₁.heap.objs.size) (fun m nx => ∃ T tv, has [(Str.ofString "script", .ref l), (Str.ofString "numbers", .ref D3), (Str.ofString "told", .ref T)] m ∧ LAt nx T tv ∧ RowsAt nx tv (dueOf (postsOf (nums2 ks))) ∧ LAt nx Pd pv ∧ CAt nx (s₁.heap.objs.size + 1 + 1) (some (.ref Pd)) ∧ CAt nx (s₁.heap.objs.size + 1 + 1 + 1) none ∧ CAt nx (s₁.heap.objs.size + 1 + 1 + 1 + 1) none ∧ CAt nx (s₁.heap.objs.size + 1 + 1 + 1 + 1 + 1) none ∧ CAt nx (s₁.heap.objs.size + 1 + 1 + 1 + 1 + 1 + 1) none) ?_ ?_
    · have F1 := has.fr Fd q6
      clear Fd q6
      have hnl := nums2_len ks
      have hpl : (postsOf (nums2 ks)).length = (nums2 ks).length := by unfold postsOf; rw [List.length_map]
      have hlow := fun (x : Int) (h : x ∈ postsOf (nums2 ks)) => posts_low h
      generalize postsOf (nums2 ks) = ps at *
      have hbl : bv.length = 9 := by rw [hbv0.len, base_len]
      have X7 := KX.keeps F1.keep
      have T7 := T.keeps F1.keep
      refine one ?_
      refine putComp (by rfl) ?_
      refine compCoreC (s := Shared.mk _ _ _ _ _) (cl := [(Str.ofString "posts", s₁.heap.objs.size + 1 + 1), (Str.ofString "board", s₁.heap.objs.size + 1)]) (x := Str.ofString "mail") (n := 9) (P' := fun i v => ∃ x t, v = .str (ofL x) t ∧ (baseOf a b)[i]? = some x) (by rfl) (by intro _; rfl) (by intro _; rfl) (by rfl) (by decide) (by rfl) (by decide)
        (fun i ys made => ListsAt ys made ((dueOf ps).take i)) .nil ?it ?turn ?done
      case it =>
        refine ldCell (s := Shared.mk _ _ _ _ _) Nd rfl cB ?_
        exact srcStrsC (s := Shared.mk _ _ _ _ _) rfl (fun _ _ e => e) (Nat.le_refl _) (lB.list Nd) hbv0 (base_len a b)
      case turn =>
        intro i ys made C h2 tk2 m2 own v o2 hin hJ hln hP ho2 F2 N2
        dsimp only at F2 N2
        rw [List.forIn_nil]
        refine wpAny_pure ?_
        rw [if_pos rfl]
        obtain ⟨x, xt, rfl, hx⟩ := hP
        have cMl : h2.IsCell (C + 1) (some (.str (ofL x) xt)) := ⟨o2, (N2 _ (.head _)).1, ho2⟩
        have cBd : h2.IsCell (s₁.heap.objs.size + 1) (some (.ref Bd)) := cell_kept F2.keep (cB.cell Nd)
        have cPs : h2.IsCell (s₁.heap.objs.size + 1 + 1) (some (.ref Pd)) := cell_kept F2.keep (cP.cell Nd)
        have X8 := X7.keeps F2.keep
        have T8 := T7.keeps F2.keep
        refine compR (s := Shared.mk _ _ _ _ _) (cl := [(Str.ofString "mail", C + 1), (Str.ofString "board", s₁.heap.objs.size + 1)]) (names := [Str.ofString "post"]) (n := ps.length) (P' := fun j vals => ∃ z t, vals = [.int z t] ∧ ps[j]? = some z) (by rfl) (by decide) (by rfl) (by decide) (by decide) (Nat.le_trans (by omega : ps.length ≤ 4) (by decide))
          (fun j ys made => made = [] ∧ IntsAre ys ((dueRow ps i).take j)) ⟨rfl, .nil⟩ ?it2 ?turn2 ?done2
        case it2 =>
          iterate 1 (first | (k_unfold; (try dsimp only)) | walk1 | (dsimp only; walk1) | (leave1; (try dsimp only)) | skip)
          exact srcInts (s := Shared.mk _ _ _ _ _) rfl (fun _ _ e => e) (Nat.le_refl _) (list_kept F2.keep (lP.list Nd)) iP rfl
        case turn2 =>
          intro j3 ys3 made3 C3 h3 tk3 m3 own3 vals3 hin3 hJ3 hln3 hP3 F3 N3
          dsimp only at F3 N3
          rw [List.forIn_nil]
          refine wpAny_pure ?_
          rw [if_pos rfl]
          obtain ⟨z, zt, rfl, hz⟩ := hP3
          obtain ⟨j, rfl, hj9⟩ := hlow z (List.mem_of_getElem? hz)
          have F4 := has.fr F3 (ps := [(Str.ofString "post", .int (j : Int) zt)]) (has.cons rfl has.nil)
          have c3a : h3.IsCell (C + 1) (some (.str (ofL x) xt)) := cell_kept F3.keep cMl
          have c3b : h3.IsCell (s₁.heap.objs.size + 1) (some (.ref Bd)) := cell_kept F3.keep cBd
          have lB3 : h3.IsList Bd bv.toArray := list_kept F3.keep (list_kept F2.keep (lB.list Nd))
          clear F3
          obtain ⟨y, yt, ey0, ey1⟩ := strs_get hbv0 (i := j) (by rw [base_len]; exact hj9)
          iterate 10 (first | (k_unfold; (try dsimp only)) | walk1 | (dsimp only; walk1) | (leave1; (try dsimp only)) | skip)
          refine item_use (j := j) (s := Shared.mk _ _ _ _ _) lB3 (by rw [hbl]; decide) ey0 ?_
          iterate 4 (first | (k_unfold; (try dsimp only)) | walk1 | (dsimp only; walk1) | (leave1; (try dsimp only)) | skip)
          have m1 := base_low hab.1 hab.2.1 (List.mem_of_getElem? hx)
          have m2 := base_low hab.1 hab.2.1 (List.mem_of_getElem? ey1)
          refine lev_use (s := Shared.mk _ _ _ _ _) F4 N3 X8 T8 rfl (by dsimp only [Around.deeper]; decide) (by dsimp only [Around.deeper]; decide) (fun x hx => hx.elim (m1.2 x) (m2.2 x)) m1.1 m2.1 fun t' h' tk' F5 N5 => ?_
          refine EltEnd.mk F5 N5 ⟨hJ3.1, ?_⟩
          have hlb := lev_base hab.1 hab.2.1 hin hj9
          rw [List.getD_eq_getElem?_getD, List.getD_eq_getElem?_getD, hx, ey1, Option.getD_some, Option.getD_some] at hlb
          have hst : (dueRow ps i).take (j3 + 1) = (dueRow ps i).take j3 ++ [2 * (unlike i j : Int)] := by
            unfold dueRow
            rw [List.take_add_one, List.getElem?_map, hz]
            simp
          rw [hst, hlb]
          exact hJ3.2.append (.cons _ _ .nil)
        case done2 =>
          rintro D5 ys5 k5 made5 h5 tk5 ⟨rfl, hys5⟩ hk5 hp5
          have hD5 := hp5 _ (.head _)
          dsimp only at hk5 hD5
          have F5 := Fr.after F2 hk5
          have N5 := news_put F2 N2 hk5 hD5.1 hD5.2
          rw [List.take_of_length_le (by unfold dueRow; rw [List.length_map]; exact Nat.le_refl _)] at hys5
          refine ⟨h5, tk5, _, [(D5, W.listOf ys5.toArray k5)], rfl, F5, fun p hp => N5 p ?_, fun p hp => ?_, ?_⟩
          · simp only [List.mem_append, List.mem_cons, List.not_mem_nil, or_false] at hp ⊢
            grind
          · rw [List.mem_singleton.mp hp]
            exact hD5.2
          · rw [due_step ps hin]
            exact hJ.snoc D5 ys5 k5 _ hys5
      case done =>
        refine compFinUse (by rfl) (by rfl) rfl F1 Nd fun D ys k made h' tk hJ F N _ => ?_
        rw [List.take_of_length_le (by rw [due_len]; decide)] at hJ
        have hup : ∀ p ∈ nd, p ∈ (D, W.listOf ys.toArray k) :: (made ++ nd) := fun p hp => .tail _ (List.mem_append_right _ hp)
        exact CutN.go F N ⟨D, ys, has.cons rfl (has.cons rfl (has.cons rfl has.nil)), ⟨k, .head _⟩, hJ.rows (fun p hp => .tail _ (List.mem_append_left _ hp)), lP.mono hup, cP.mono hup, cS.mono hup, cD.mono hup, cR.mono hup, cC.mono hup⟩
    clear Fd Nd q6 lB lP cB cP cS cD cR cC
    rintro he tke me ne Fe Ne ⟨Td, tv, q7, lT, rT, lP, cP, cS, cD, cR, cC⟩
    refine seqN1 (s := s₁) (g := s₁.heap) (L := s₁.heap.objs.size) (fun m nx => ∃ S, has [(Str.ofString "script", .ref l), (Str.ofString "numbers", .ref D3), (Str.ofString "told", .ref Td)] m ∧ LAt nx Td tv ∧ RowsAt nx tv (dueOf (postsOf (nums2 ks))) ∧ LAt nx Pd pv ∧ CAt nx (s₁.heap.objs.size + 1 + 1) (some (.ref Pd)) ∧ LAt nx S [] ∧ Td ≠ S ∧ Pd ≠ S ∧ (∀ D, Value.ref D ∈ tv → D ≠ S) ∧ CAt nx (s₁.heap.objs.size + 1 + 1 + 1) (some (.ref S)) ∧ CAt nx (s₁.heap.objs.size + 1 + 1 + 1 + 1) none ∧ CAt nx (s₁.heap.objs.size + 1 + 1 + 1 + 1 + 1) none ∧ CAt nx (s₁.heap.objs.size + 1 + 1 + 1 + 1 + 1 + 1) none) ?_ ?_
    · have F1 := has.fr Fe q7
      clear Fe q7
      refine one ?_
      refine wpAny_Assign_Name ?_ (by rfl)
      iterate 2 (first | (k_unfold; (try dsimp only)) | walk1 | (dsimp only; walk1) | (leave1; (try dsimp only)) | skip)
      refine newList_nx (s := Shared.mk _ _ _ _ _) F1 Ne (by decide) fun h2 S n2 F2 N2 up2 lS off => ?_
      refine stCell (s := Shared.mk _ _ _ _ _) F2 N2 rfl (cS.mono up2) fun h9 nx F9 N9 hl9 hc9 hS => ?_
      refine CutN.go F9 N9 ⟨S, has.cons rfl (has.cons rfl (has.cons rfl has.nil)), hl9 _ _ (lT.mono up2), rT.up (fun a vs l => hl9 _ _ (l.mono up2)), hl9 _ _ (lP.mono up2), hc9 _ _ (cne _ 2 3 (by decide)) (cP.mono up2), hl9 _ _ lS, off _ _ lT, off _ _ lP, fun D hD => ?_, hS, hc9 _ _ (cne _ 4 3 (by decide)) (cD.mono up2), hc9 _ _ (cne _ 5 3 (by decide)) (cR.mono up2), hc9 _ _ (cne _ 6 3 (by decide)) (cC.mono up2)⟩
      obtain ⟨i, hi⟩ := List.mem_iff_getElem?.mp hD
      obtain ⟨D', vs', ns', e, l', _, _⟩ := rT.at hi
      cases e
      exact off _ _ l'
    clear Fe Ne q7 lT rT lP cP cS cD cR cC
    rintro hf tkf mf nf Ff Nf ⟨S, q8, lT, rT, lP, cP, lS, offT, offP, offR, cS, cD, cR, cC⟩
    refine seqN1 (s := s₁) (g := s₁.heap) (L := s₁.heap.objs.size) (fun m nx => ∃ sv, has [(Str.ofString "script", .ref l), (Str.ofString "numbers", .ref D3), (Str.ofString "told", .ref Td)] m ∧ LAt nx Td tv ∧ RowsAt nx tv (dueOf (postsOf (nums2 ks))) ∧ LAt nx Pd pv ∧ CAt nx (s₁.heap.objs.size + 1 + 1) (some (.ref Pd)) ∧ LAt nx S sv ∧ RowsAt nx sv ((dueOf (postsOf (nums2 ks))).foldl insR []) ∧ (∀ D, Value.ref D ∈ sv → D ≠ S) ∧ CAt nx (s₁.heap.objs.size + 1 + 1 + 1) (some (.ref S)) ∧ CAt nx (s₁.heap.objs.size + 1 + 1 + 1 + 1) none ∧ CAt nx (s₁.heap.objs.size + 1 + 1 + 1 + 1 + 1) none ∧ CAt nx (s₁.heap.objs.size + 1 + 1 + 1 + 1 + 1 + 1) none) ?_ ?_
    · have F1 := has.fr Ff q8
      clear Ff q8
      have htl : tv.length = 9 := by rw [rT.len, due_len]
      refine one ?_
      refine forG (s := s₁) (n := 9) (P' := fun i v => tv[i]? = some v) [S] (fun i m nx => ∃ sv, has [(Str.ofString "script", .ref l), (Str.ofString "numbers", .ref D3), (Str.ofString "told", .ref Td)] m ∧ LAt nx Td tv ∧ RowsAt nx tv (dueOf (postsOf (nums2 ks))) ∧ LAt nx Pd pv ∧ CAt nx (s₁.heap.objs.size + 1 + 1) (some (.ref Pd)) ∧ LAt nx S sv ∧ RowsAt nx sv (((dueOf (postsOf (nums2 ks))).take i).foldl insR []) ∧ (∀ D, Value.ref D ∈ sv → D ≠ S) ∧ CAt nx (s₁.heap.objs.size + 1 + 1 + 1) (some (.ref S)) ∧ CAt nx (s₁.heap.objs.size + 1 + 1 + 1 + 1) none ∧ CAt nx (s₁.heap.objs.size + 1 + 1 + 1 + 1 + 1) none ∧ CAt nx (s₁.heap.objs.size + 1 + 1 + 1 + 1 + 1 + 1) none) rfl rfl rfl ?it ?turn ?done
      case it =>
        iterate 1 (first | (k_unfold; (try dsimp only)) | walk1 | (dsimp only; walk1) | (leave1; (try dsimp only)) | skip)
        exact srcListN (s := s₁) rfl F1 Nf (lT.list Nf) (lT.ne Nf) (fun a ha => by rw [List.mem_singleton.mp ha]; obtain ⟨k, hk⟩ := lS; exact ⟨Ne.symm offT, _, (Nf _ hk).1⟩) htl ⟨[], has.cons rfl (has.cons rfl (has.cons rfl has.nil)), lT, rT, lP, cP, lS, .nil, (fun _ h => nomatch h), cS, cD, cR, cC⟩
      case turn =>
        clear lT rT lP cP lS cS cD cR cC F1 Nf
        rintro i v m₁ nw h tk own hi hv ⟨sv, q9, lT, rT, lP, cP, lS, rS, offS, cS, cD, cR, cC⟩ hown F N
        obtain ⟨D, vsD, ns, rfl, lD, hID, hns⟩ := rT.at hv
        have q10 : has [(Str.ofString "script", .ref l), (Str.ofString "numbers", .ref D3), (Str.ofString "told", .ref Td), (Str.ofString "row", .ref D)] (fun y => if y = Str.ofString "row" then some (Value.ref D) else m₁ y) :=
          has.cons (q9 _ (.head _)) (has.cons (q9 _ (.tail _ (.head _))) (has.cons (q9 _ (.tail _ (.tail _ (.head _)))) (has.cons rfl has.nil)))
        have F1 := has.fr F q10
        clear F q10
        have Nw : News s₁.heap s₁.heap.objs.size h nw := fun p hp => N p (List.mem_append_left _ hp)
        have hsl : sv.length = i := by rw [rS.len, insR_fold_len, List.length_take, due_len]; simp; omega
        refine one ?_
        iterate 5 (first | (k_unfold; (try dsimp only)) | walk1 | (dsimp only; walk1) | (leave1; (try dsimp only)) | skip)
        refine ldCell (s := Shared.mk _ _ _ _ _) Nw rfl cS ?_
        iterate 4 (first | (k_unfold; (try dsimp only)) | walk1 | (dsimp only; walk1) | (leave1; (try dsimp only)) | skip)
        refine insort_nx (s := Shared.mk _ _ _ _ _) (lt := fun j => ltL ns ((((dueOf (postsOf (nums2 ks))).take i).foldl insR []).getD j [])) F1 N lS (fun p hp => hown p hp S (.head _)) KX T rfl (by dsimp only [Around.deeper]; decide) (by dsimp only [Around.deeper]; decide) (by omega) (fun j v hv => ?_) fun h3 tk3 nw' F3 N3 ha la lc lS' => ?_
        · obtain ⟨D', vs', ns', rfl, l', hI', hn'⟩ := rS.at hv
          dsimp only
          rw [List.getD_eq_getElem?_getD, hn', Option.getD_some]
          exact ltOk_rows (lD.list Nw) (l'.list Nw) hID hI'
        dsimp only at F3 N3 ⊢
        have hDS : D ≠ S := offR D (List.mem_of_getElem? hv)
        refine TurnG.go F3 (nx := nw') N3 (fun p hp => .inl (ha p hp)) ⟨_, has.cons rfl (has.cons rfl (has.cons rfl has.nil)), la _ _ offT lT, rT.upOff la offR, la _ _ offP lP, lc _ _ cP, lS', ?_, fun D' hD' => ?_, lc _ _ cS, lc _ _ cD, lc _ _ cR, lc _ _ cC⟩
        · have hstep : (dueOf (postsOf (nums2 ks))).take (i + 1) = (dueOf (postsOf (nums2 ks))).take i ++ [ns] := by
            rw [List.take_add_one, hns]
            rfl
          rw [hstep, List.foldl_append, List.foldl_cons, List.foldl_nil]
          have h9 := (rS.upOff la offS).ins (la _ _ hDS lD) hID (bisR (fun j => ltL ns ((((dueOf (postsOf (nums2 ks))).take i).foldl insR []).getD j [])) sv.length 0 sv.length)
          conv => rhs; unfold insR
          dsimp only
          rw [rS.len] at h9 ⊢
          exact h9
        · rcases List.mem_append.mp hD' with h1 | h1
          · exact offS _ (List.mem_of_mem_take h1)
          · rcases List.mem_cons.mp h1 with h1 | h1
            · cases h1
              exact hDS
            · exact offS _ (List.mem_of_mem_drop h1)
      case done =>
        rintro m nx ⟨sv, a1, a2, a3, a4, a5, a6, a7, a8⟩
        refine ⟨sv, a1, a2, a3, a4, a5, a6, ?_, a8⟩
        rwa [List.take_of_length_le (by rw [due_len]; decide)] at a7
    clear Ff Nf q8 lT rT lP cP lS cS cD cR cC offT offP offR
    rintro hg7 tkg mg7 ng Fg Ng ⟨sv, q9, lT, rT, lP, cP, lS, rS, offS, cS, cD, cR, cC⟩
    refine seqN1 (s := s₁) (g := s₁.heap) (L := s₁.heap.objs.size) (fun m nx => ∃ Du dv, has [(Str.ofString "script", .ref l), (Str.ofString "numbers", .ref D3), (Str.ofString "told", .ref Td)] m ∧ LAt nx Td tv ∧ RowsAt nx tv (dueOf (postsOf (nums2 ks))) ∧ LAt nx Pd pv ∧ CAt nx (s₁.heap.objs.size + 1 + 1) (some (.ref Pd)) ∧ LAt nx S sv ∧ RowsAt nx sv ((dueOf (postsOf (nums2 ks))).foldl insR []) ∧ CAt nx (s₁.heap.objs.size + 1 + 1 + 1) (some (.ref S)) ∧ LAt nx Du dv ∧ RowsAt nx dv (dueOf (postsOf (nums2 ks))) ∧ CAt nx (s₁.heap.objs.size + 1 + 1 + 1 + 1) (some (.ref Du)) ∧ CAt nx (s₁.heap.objs.size + 1 + 1 + 1 + 1 + 1) none ∧ CAt nx (s₁.heap.objs.size + 1 + 1 + 1 + 1 + 1 + 1) none) ?_ ?_
    · have F1 := has.fr Fg q9
      clear Fg q9
      have hnl := nums2_len ks
      have hpl : (postsOf (nums2 ks)).length = (nums2 ks).length := by unfold postsOf; rw [List.length_map]
      have hlow := fun (x : Int) (h : x ∈ postsOf (nums2 ks)) => posts_low h
      generalize postsOf (nums2 ks) = ps at *
      have X7 := KX.keeps F1.keep
      have T7 := T.keeps F1.keep
      refine one ?_
      refine wpAny_Assign_Name ?_ (by rfl)
      refine compRC (s := Shared.mk _ _ _ _ _) (cl := [(Str.ofString "posts", s₁.heap.objs.size + 1 + 1)]) (x := Str.ofString "place") (n := 9) (P' := fun i v => ∃ t, v = .int (i : Int) t) (by rfl) (by intro _; rfl) (by intro _; rfl) (by rfl) (by decide) (by rfl) (by decide)
        (fun i ys made => ListsAt ys made ((dueOf ps).take i)) .nil ?it ?turn ?done
      case it =>
        iterate 7 (first | (k_unfold; (try dsimp only)) | walk1 | (dsimp only; walk1) | (leave1; (try dsimp only)) | skip)
        rename_i h5 tk5 t5 u5 v5 r5 F5 N5 K5
        exact srcRange (s := Shared.mk _ _ _ _ _) (n := 9) rfl K5 (Nat.le_of_lt (Heap.lt_size r5)) r5 (by decide)
      case turn =>
        intro i ys made C h2 tk2 m2 own v o2 hin hJ hln hP ho2 F2 N2
        dsimp only at F2 N2
        rw [List.forIn_nil]
        refine wpAny_pure ?_
        rw [if_pos rfl]
        obtain ⟨it0, rfl⟩ := hP
        have cPl : h2.IsCell (C + 1) (some (.int (i : Int) it0)) := ⟨o2, (N2 _ (.head _)).1, ho2⟩
        have X8 := X7.keeps F2.keep
        have T8 := T7.keeps F2.keep
        have cPs : h2.IsCell (s₁.heap.objs.size + 1 + 1) (some (.ref Pd)) := cell_kept F2.keep (cP.cell Ng)
        refine compRC (s := Shared.mk _ _ _ _ _) (cl := [(Str.ofString "place", C + 1)]) (x := Str.ofString "post") (n := ps.length) (P' := fun j v => ∃ z t, v = .int z t ∧ ps[j]? = some z) (by rfl) (by intro _; rfl) (by intro _; rfl) (by rfl) (by decide) (by rfl) (Nat.le_trans (by omega : ps.length ≤ 4) (by decide))
          (fun j ys made => made = [] ∧ IntsAre ys ((dueRow ps i).take j)) ⟨rfl, .nil⟩ ?it2 ?turn2 ?done2
        case it2 =>
          iterate 1 (first | (k_unfold; (try dsimp only)) | walk1 | (dsimp only; walk1) | (leave1; (try dsimp only)) | skip)
          exact srcIntsC (s := Shared.mk _ _ _ _ _) rfl (fun _ _ e => e) (Nat.le_refl _) (list_kept F2.keep (lP.list Ng)) iP rfl
        case turn2 =>
          intro j3 ys3 made3 C3 h3 tk3 m3 own3 v3 o3' hin3 hJ3 hln3 hP3 ho3 F3 N3
          dsimp only at F3 N3
          rw [List.forIn_nil]
          refine wpAny_pure ?_
          rw [if_pos rfl]
          obtain ⟨z, zt, rfl, hz⟩ := hP3
          obtain ⟨j, rfl, hj9⟩ := hlow z (List.mem_of_getElem? hz)
          have cPo : h3.IsCell (C3 + 1) (some (.int (j : Int) zt)) := ⟨o3', (N3 _ (.head _)).1, ho3⟩
          have cPl3 : h3.IsCell (C + 1) (some (.int (i : Int) it0)) := cell_kept F3.keep cPl
          iterate 7 (first | (k_unfold; (try dsimp only)) | walk1 | (dsimp only; walk1) | (leave1; (try dsimp only)) | skip)
          refine compR (s := Shared.mk _ _ _ _ _) (cl := [(Str.ofString "post", C3 + 1), (Str.ofString "place", C + 1)]) (names := [Str.ofString "k"]) (n := 2) (P' := fun q vals => ∃ t, (q = 0 ∧ vals = [.int 1 t]) ∨ (q = 1 ∧ vals = [.int 3 t])) (by rfl) (by decide) (by rfl) (by decide) (by decide) (by decide)
            (fun q ys made => made = [] ∧ ys.length = unl i j q) ⟨rfl, rfl⟩ ?it3 ?turn3 ?done3
          case it3 =>
            iterate 6 (first | (k_unfold; (try dsimp only)) | walk1 | (dsimp only; walk1) | (leave1; (try dsimp only)) | skip)
            refine newTuple_kept (s := Shared.mk _ _ _ _ _) (by show 2 ≤ 1000; decide) fun h5 D5 K5 z5 l5 => ?_
            dsimp only at K5 z5 l5 ⊢
            refine srcTupleN (s := Shared.mk _ _ _ _ _) rfl K5 z5 l5 rfl fun q v hv => ?_
            rcases q with _ | _ | q
            · cases hv
              exact ⟨_, .inl ⟨rfl, rfl⟩⟩
            · cases hv
              exact ⟨_, .inr ⟨rfl, rfl⟩⟩
            · simp at hv
          case turn3 =>
            intro q4 ys4 made4 C4 h4 tk4 m4 own4 vals4 hin4 hJ4 hln4 hP4 F4 N4
            dsimp only at F4 N4
            obtain ⟨kt, hP4⟩ := hP4
            have c4a : h4.IsCell (C3 + 1) (some (.int (j : Int) zt)) := cell_kept F4.keep cPo
            have c4b : h4.IsCell (C + 1) (some (.int (i : Int) it0)) := cell_kept F4.keep cPl3
            rcases hP4 with ⟨rfl, rfl⟩ | ⟨rfl, rfl⟩
            · have F5 := has.fr F4 (ps := [(Str.ofString "k", .int 1 kt)]) (has.cons rfl has.nil)
              clear F4
              refine oneTest ?_
              iterate 17 (first | (k_unfold; (try dsimp only)) | walk1 | (dsimp only; walk1) | (leave1; (try dsimp only)) | skip)
              cases hb : (((i : Int).fdiv 1).fmod 3 != ((j : Int).fdiv 1).fmod 3)
              · iterate 3 (first | (k_unfold; (try dsimp only)) | walk1 | (dsimp only; walk1) | (leave1; (try dsimp only)) | skip)
                refine SkipEnd.mk F5 N4 ⟨hJ4.1, ?_⟩
                rw [unl_first hb, hJ4.2]
                rfl
              · iterate 4 (first | (k_unfold; (try dsimp only)) | walk1 | (dsimp only; walk1) | (leave1; (try dsimp only)) | skip)
                refine EltEnd.mk F5 N4 ⟨hJ4.1, ?_⟩
                rw [unl_first hb, List.length_append, hJ4.2]
                rfl
            · have F5 := has.fr F4 (ps := [(Str.ofString "k", .int 3 kt)]) (has.cons rfl has.nil)
              clear F4
              refine oneTest ?_
              iterate 17 (first | (k_unfold; (try dsimp only)) | walk1 | (dsimp only; walk1) | (leave1; (try dsimp only)) | skip)
              cases hb : (((i : Int).fdiv 3).fmod 3 != ((j : Int).fdiv 3).fmod 3)
              · iterate 3 (first | (k_unfold; (try dsimp only)) | walk1 | (dsimp only; walk1) | (leave1; (try dsimp only)) | skip)
                refine SkipEnd.mk F5 N4 ⟨hJ4.1, ?_⟩
                rw [unl_second hb, hJ4.2]
                rfl
              · iterate 4 (first | (k_unfold; (try dsimp only)) | walk1 | (dsimp only; walk1) | (leave1; (try dsimp only)) | skip)
                refine EltEnd.mk F5 N4 ⟨hJ4.1, ?_⟩
                rw [unl_second hb, List.length_append, hJ4.2]
                rfl
          case done3 =>
            rintro D5 ys5 k5 made5 h5 tk5 ⟨rfl, hl5⟩ hk5 hp5
            have hD5 := hp5 _ (.head _)
            dsimp only at hk5 hD5
            have F5 := Fr.after F3 hk5
            have N5 := News.keepsAll N3 hk5
            have hl5' : ys5.length ≤ 100 := by rw [hl5]; exact Nat.le_trans (unlike_le i j) (by decide)
            iterate 1 (first | (k_unfold; (try dsimp only)) | walk1 | (dsimp only; walk1) | (leave1; (try dsimp only)) | skip)
            refine len_use (s := Shared.mk _ _ _ _ _) ⟨_, hD5.1, rfl, _, rfl⟩ hl5' ?_
            rw [hl5]
            iterate 1 (first | (k_unfold; (try dsimp only)) | walk1 | (dsimp only; walk1) | (leave1; (try dsimp only)) | skip)
            refine EltEnd.mk F5 N5 ⟨hJ3.1, ?_⟩
            have hst : (dueRow ps i).take (j3 + 1) = (dueRow ps i).take j3 ++ [2 * (unlike i j : Int)] := by
              unfold dueRow
              rw [List.take_add_one, List.getElem?_map, hz]
              simp
            rw [hst]
            exact hJ3.2.append (.cons _ _ .nil)
        case done2 =>
          rintro D5 ys5 k5 made5 h5 tk5 ⟨rfl, hys5⟩ hk5 hp5
          have hD5 := hp5 _ (.head _)
          dsimp only at hk5 hD5
          have F5 := Fr.after F2 hk5
          have N5 := news_put F2 N2 hk5 hD5.1 hD5.2
          rw [List.take_of_length_le (by unfold dueRow; rw [List.length_map]; exact Nat.le_refl _)] at hys5
          refine ⟨h5, tk5, _, [(D5, W.listOf ys5.toArray k5)], rfl, F5, fun p hp => N5 p ?_, fun p hp => ?_, ?_⟩
          · simp only [List.mem_append, List.mem_cons, List.not_mem_nil, or_false] at hp ⊢
            grind
          · rw [List.mem_singleton.mp hp]
            exact hD5.2
          · rw [due_step ps hin]
            exact hJ.snoc D5 ys5 k5 _ hys5
      case done =>
        refine compLed F1 Ng fun D ys k made h' tk hJ F N _ => ?_
        rw [List.take_of_length_le (by rw [due_len]; decide)] at hJ
        have hup : ∀ p ∈ ng, p ∈ (D, W.listOf ys.toArray k) :: (made ++ ng) := fun p hp => .tail _ (List.mem_append_right _ hp)
        refine stCell F N rfl (cD.mono hup) fun h9 nx F9 N9 hl9 hc9 hD => ?_
        exact CutN.go F9 N9 ⟨D, ys, has.cons rfl (has.cons rfl (has.cons rfl has.nil)), hl9 _ _ (lT.mono hup), rT.up (fun a vs l => hl9 _ _ (l.mono hup)), hl9 _ _ (lP.mono hup), hc9 _ _ (cne _ 2 4 (by decide)) (cP.mono hup), hl9 _ _ (lS.mono hup), rS.up (fun a vs l => hl9 _ _ (l.mono hup)), hc9 _ _ (cne _ 3 4 (by decide)) (cS.mono hup), hl9 _ _ ⟨k, .head _⟩, (hJ.rows (fun p hp => .tail _ (List.mem_append_left _ hp))).up hl9, hD, hc9 _ _ (cne _ 5 4 (by decide)) (cR.mono hup), hc9 _ _ (cne _ 6 4 (by decide)) (cC.mono hup)⟩
    clear Fg Ng q9 lT rT lP cP lS rS offS cS cD cR cC
    rintro hg8 tkg8 mg8 nh Fh Nh ⟨Du, dv, q10, lT, rT, lP, cP, lS, rS, cS, lD, rD, cD, cR, cC⟩
    refine seqN1 (s := s₁) (g := s₁.heap) (L := s₁.heap.objs.size) (fun m nx => has [(Str.ofString "script", .ref l), (Str.ofString "numbers", .ref D3), (Str.ofString "told", .ref Td)] m ∧ LAt nx Td tv ∧ RowsAt nx tv (dueOf (postsOf (nums2 ks))) ∧ LAt nx Pd pv ∧ CAt nx (s₁.heap.objs.size + 1 + 1) (some (.ref Pd)) ∧ LAt nx S sv ∧ RowsAt nx sv ((dueOf (postsOf (nums2 ks))).foldl insR []) ∧ CAt nx (s₁.heap.objs.size + 1 + 1 + 1) (some (.ref S)) ∧ LAt nx Du dv ∧ RowsAt nx dv (dueOf (postsOf (nums2 ks))) ∧ CAt nx (s₁.heap.objs.size + 1 + 1 + 1 + 1) (some (.ref Du)) ∧ CAt nx (s₁.heap.objs.size + 1 + 1 + 1 + 1 + 1) none ∧ CAt nx (s₁.heap.objs.size + 1 + 1 + 1 + 1 + 1 + 1) none) ?_ ?_
    · have F1 := has.fr Fh q10
      clear Fh q10
      refine one ?_
      refine ifSkip ?_
      iterate 1 (first | (k_unfold; (try dsimp only)) | walk1 | (dsimp only; walk1) | (leave1; (try dsimp only)) | skip)
      refine ldCell (s := Shared.mk _ _ _ _ _) Nh rfl cS ?_
      iterate 4 (first | (k_unfold; (try dsimp only)) | walk1 | (dsimp only; walk1) | (leave1; (try dsimp only)) | skip)
      refine ldCell (s := Shared.mk _ _ _ _ _) Nh rfl cD ?_
      iterate 1 (first | (k_unfold; (try dsimp only)) | walk1 | (dsimp only; walk1) | (leave1; (try dsimp only)) | skip)
      refine sorted_rows (s := Shared.mk _ _ _ _ _) F1 Nh lD rD (by rw [due_len]; decide) (by rw [due_len]; decide) (by dsimp only [Around.deeper, Around.in1]; decide) fun D ys bs h' nx' F2 N2 hup l2 r2 hs => ?_
      dsimp only at F2 N2 ⊢
      have e : bs = (dueOf (postsOf (nums2 ks))).foldl insR [] := hs.unique (foldR_sort _)
      rw [e] at r2
      refine ne_rows (s := Shared.mk _ _ _ _ _) N2 ((lS.mono hup).list N2) (l2.list N2) (rS.up fun a vs l => l.mono hup) r2 (by dsimp only [Around.deeper, Around.in1]; decide) (by dsimp only [Around.deeper, Around.in1]; decide) ?_
      iterate 1 (first | (k_unfold; (try dsimp only)) | walk1 | (dsimp only; walk1) | (leave1; (try dsimp only)) | skip)
      refine ⟨rfl, ?_⟩
      exact CutN.go F2 N2 ⟨has.cons rfl (has.cons rfl (has.cons rfl has.nil)), lT.mono hup, rT.up (fun a vs l => l.mono hup), lP.mono hup, cP.mono hup, lS.mono hup, rS.up (fun a vs l => l.mono hup), cS.mono hup, lD.mono hup, rD.up (fun a vs l => l.mono hup), cD.mono hup, cR.mono hup, cC.mono hup⟩
    clear Fh Nh q10 lT rT lP cP lS rS cS lD rD cD cR cC
    rintro hg9 tkg9 mg9 ni Fi Ni ⟨q11, lT, rT, lP, cP, lS, rS, cS, lD, rD, cD, cR, cC⟩
    refine seqN1 (s := s₁) (g := s₁.heap) (L := s₁.heap.objs.size) (fun m nx => ∃ Al av, has [(Str.ofString "script", .ref l), (Str.ofString "numbers", .ref D3), (Str.ofString "told", .ref Td), (Str.ofString "alike", .ref Al)] m ∧ LAt nx Al av ∧ IntsAre av (alikeOf (dueOf (postsOf (nums2 ks)))) ∧ LAt nx Pd pv ∧ CAt nx (s₁.heap.objs.size + 1 + 1) (some (.ref Pd)) ∧ LAt nx Du dv ∧ RowsAt nx dv (dueOf (postsOf (nums2 ks))) ∧ CAt nx (s₁.heap.objs.size + 1 + 1 + 1 + 1) (some (.ref Du)) ∧ CAt nx (s₁.heap.objs.size + 1 + 1 + 1 + 1 + 1) none ∧ CAt nx (s₁.heap.objs.size + 1 + 1 + 1 + 1 + 1 + 1) none) ?_ ?_
    · have F1 := has.fr Fi q11
      clear Fi q11
      have X7 := KX.keeps F1.keep
      have T7 := T.keeps F1.keep
      have hdl := due_len (postsOf (nums2 ks))
      generalize dueOf (postsOf (nums2 ks)) = du at *
      have hsl : sv.length = (du.foldl insR []).length := rS.len
      have hs9 : (du.foldl insR []).length = 9 := by rw [insR_fold_len, hdl]; rfl
      refine one ?_
      refine putComp (by rfl) ?_
      refine compCore (s := Shared.mk _ _ _ _ _) (cl := [(Str.ofString "shelf", s₁.heap.objs.size + 1 + 1 + 1)]) (names := [Str.ofString "row"]) (n := 9) (P' := fun i vals => ∃ D vs r, vals = [.ref D] ∧ LAt ni D vs ∧ IntsAre vs r ∧ du[i]? = some r) (by rfl) (by decide) (by rfl) (by decide) (by decide) (by decide)
        (fun i ys made => made = [] ∧ IntsAre ys ((alikeOf du).take i)) ⟨rfl, .nil⟩ ?it ?turn ?done
      case it =>
        iterate 1 (first | (k_unfold; (try dsimp only)) | walk1 | (dsimp only; walk1) | (leave1; (try dsimp only)) | skip)
        exact srcRows (s := Shared.mk _ _ _ _ _) rfl (fun _ _ e => e) (Nat.le_refl _) (lT.list Ni) rT hdl
      case turn =>
        intro i ys made C h2 tk2 m2 own vals hin hJ hln hP F2 N2
        dsimp only at F2 N2
        rw [List.forIn_nil]
        refine wpAny_pure ?_
        rw [if_pos rfl]
        obtain ⟨D, vsD, r, rfl, lD2, hI, hr⟩ := hP
        have F3 := has.fr F2 (ps := [(Str.ofString "row", .ref D)]) (has.cons rfl has.nil)
        have hcell : h2.IsCell (s₁.heap.objs.size + 1 + 1 + 1) (some (.ref S)) := cell_kept F2.keep (cS.cell Ni)
        have lS2 : h2.IsList S sv.toArray := list_kept F2.keep (lS.list Ni)
        have lD3' : h2.IsList D vsD.toArray := list_kept F2.keep (lD2.list Ni)
        clear F2
        iterate 11 (first | (k_unfold; (try dsimp only)) | walk1 | (dsimp only; walk1) | (leave1; (try dsimp only)) | skip)
        refine bisR2_use (s := Shared.mk _ _ _ _ _) (lt := fun i => ltL r ((du.foldl insR []).getD i [])) F3 N2 X7 T7 rfl (by dsimp only [Around.deeper]; decide) (by dsimp only [Around.deeper]; decide) lS2 (by omega) (fun i v hv => ?_) fun t' h' tk' F4 N4 => ?_
        · obtain ⟨D', vs', ns', rfl, l', hI', hn'⟩ := rS.at hv
          dsimp only
          rw [List.getD_eq_getElem?_getD, hn', Option.getD_some]
          exact ltOk_rows lD3' (list_kept F3.keep (l'.list Ni)) hI hI'
        dsimp only at F4 N4 ⊢
        have hcell4 : h'.IsCell (s₁.heap.objs.size + 1 + 1 + 1) (some (.ref S)) := cell_kept F4.keep (cS.cell Ni)
        iterate 10 (first | (k_unfold; (try dsimp only)) | walk1 | (dsimp only; walk1) | (leave1; (try dsimp only)) | skip)
        refine bisL_use (s := Shared.mk _ _ _ _ _) (lt := fun i => ltL ((du.foldl insR []).getD i []) r) F4 N4 X7 T7 rfl (by dsimp only [Around.deeper]; decide) (by dsimp only [Around.deeper]; decide) (list_kept F4.keep (lS.list Ni)) (by omega) (fun i v hv => ?_) fun t5 h5 tk5 F5 N5 => ?_
        · obtain ⟨D', vs', ns', rfl, l', hI', hn'⟩ := rS.at hv
          dsimp only
          rw [List.getD_eq_getElem?_getD, hn', Option.getD_some]
          exact ltOk_rows (list_kept F4.keep (l'.list Ni)) (list_kept F4.keep (lD2.list Ni)) hI' hI
        dsimp only at F5 N5 ⊢
        iterate 2 (first | (k_unfold; (try dsimp only)) | walk1 | (dsimp only; walk1) | (leave1; (try dsimp only)) | skip)
        refine EltEnd.mk F5 N5 ⟨hJ.1, ?_⟩
        have hst : (alikeOf du).take (i + 1) = (alikeOf du).take i ++ [(countR du r : Int)] := by
          unfold alikeOf
          rw [List.take_add_one, List.getElem?_map, hr]
          rfl
        rw [hst, alike_ok du r hsl]
        exact hJ.2.append (.cons _ _ .nil)
      case done =>
        refine compFinUse (by rfl) (by rfl) rfl F1 Ni fun D ys k made h' tk hJ F N _ => ?_
        obtain ⟨rfl, hys⟩ := hJ
        have hup : ∀ p ∈ ni, p ∈ (D, W.listOf ys.toArray k) :: ([] ++ ni) := fun p hp => .tail _ hp
        rw [List.take_of_length_le (by unfold alikeOf; rw [List.length_map]; omega)] at hys
        exact CutN.go F N ⟨D, ys, has.cons rfl (has.cons rfl (has.cons rfl (has.cons rfl has.nil))), ⟨k, .head _⟩, hys, lP.mono hup, cP.mono hup, lD.mono hup, rD.up (fun a vs l => l.mono hup), cD.mono hup, cR.mono hup, cC.mono hup⟩
    clear Fi Ni q11 lT rT lP cP lS rS cS lD rD cD cR cC
    rintro hg10 tkg10 mg10 nj Fj Nj ⟨Al, av, q12, lA, iA, lP, cP, lD, rD, cD, cR, cC⟩
    refine seqN1 (s := s₁) (g := s₁.heap) (L := s₁.heap.objs.size) (fun m nx => has [(Str.ofString "script", .ref l), (Str.ofString "numbers", .ref D3), (Str.ofString "told", .ref Td), (Str.ofString "alike", .ref Al)] m ∧ LAt nx Al av ∧ LAt nx Pd pv ∧ CAt nx (s₁.heap.objs.size + 1 + 1) (some (.ref Pd)) ∧ CAt nx (s₁.heap.objs.size + 1 + 1 + 1 + 1 + 1) none ∧ CAt nx (s₁.heap.objs.size + 1 + 1 + 1 + 1 + 1 + 1) none) ?_ ?_
    · have F1 := has.fr Fj q12
      clear Fj q12
      have hdl := due_len (postsOf (nums2 ks))
      generalize dueOf (postsOf (nums2 ks)) = du at *
      refine one ?_
      refine ifSkip ?_
      iterate 2 (first | (k_unfold; (try dsimp only)) | walk1 | (dsimp only; walk1) | (leave1; (try dsimp only)) | skip)
      refine compR (s := Shared.mk _ _ _ _ _) (cl := [(Str.ofString "due", s₁.heap.objs.size + 1 + 1 + 1 + 1)]) (names := [Str.ofString "row"]) (n := 9) (P' := fun i vals => ∃ D vs r, vals = [.ref D] ∧ LAt nj D vs ∧ IntsAre vs r ∧ du[i]? = some r) (by rfl) (by decide) (by rfl) (by decide) (by decide) (by decide)
        (fun i ys made => made = [] ∧ IntsAre ys ((alikeOf du).take i)) ⟨rfl, .nil⟩ ?it ?turn ?done
      case it =>
        refine ldCell (s := Shared.mk _ _ _ _ _) Nj rfl cD ?_
        exact srcRows (s := Shared.mk _ _ _ _ _) rfl (fun _ _ e => e) (Nat.le_refl _) (lD.list Nj) rD hdl
      case turn =>
        intro i ys made C h2 tk2 m2 own vals hin hJ hln hP F2 N2
        dsimp only at F2 N2
        rw [List.forIn_nil]
        refine wpAny_pure ?_
        rw [if_pos rfl]
        obtain ⟨D, vsD, r, rfl, lD2, hI, hr⟩ := hP
        have F3 := has.fr F2 (ps := [(Str.ofString "row", .ref D)]) (has.cons rfl has.nil)
        have hcell : h2.IsCell (s₁.heap.objs.size + 1 + 1 + 1 + 1) (some (.ref Du)) := cell_kept F2.keep (cD.cell Nj)
        have hkp := F2.keep
        clear F2
        iterate 2 (first | (k_unfold; (try dsimp only)) | walk1 | (dsimp only; walk1) | (leave1; (try dsimp only)) | skip)
        refine cmpCell (s := Shared.mk _ _ _ _ _) hcell (by rfl) (by rfl) ?_ (by rfl) (by rfl)
        refine method_list (s := Shared.mk _ _ _ _ _) Nj hkp lD PySem.F.slot_list_count PySem.F.type_list_count ?_
        dsimp only
        iterate 4 (first | (k_unfold; (try dsimp only)) | walk1 | (dsimp only; walk1) | (leave1; (try dsimp only)) | skip)
        refine count_rows (s := Shared.mk _ _ _ _ _) Nj hkp lD rD lD2 hI ?_ fun t k => ?_
        · dsimp only [Around.deeper, Around.in1]; decide
        refine EltEnd.mk F3 N2 ⟨hJ.1, ?_⟩
        have hst : (alikeOf du).take (i + 1) = (alikeOf du).take i ++ [(countR du r : Int)] := by
          unfold alikeOf
          rw [List.take_add_one, List.getElem?_map, hr]
          rfl
        rw [hst]
        exact hJ.2.append (.cons _ _ .nil)
      case done =>
        refine compLed F1 Nj fun D ys k made h' tk hJ F N hne => ?_
        obtain ⟨rfl, hys⟩ := hJ
        dsimp only at F N ⊢
        have hup : ∀ p ∈ nj, p ∈ (D, W.listOf ys.toArray k) :: ([] ++ nj) := fun p hp => .tail _ hp
        rw [List.take_of_length_le (by unfold alikeOf; rw [List.length_map]; omega)] at hys
        refine ke_ne_ints (s := Shared.mk _ _ _ _ _) ((lA.mono hup).list N) (LAt.list ⟨k, .head _⟩ N) iA hys (by dsimp only [Around.deeper]; decide) ?_
        rw [decide_eq_true rfl]
        iterate 1 (first | (k_unfold; (try dsimp only)) | walk1 | (dsimp only; walk1) | (leave1; (try dsimp only)) | skip)
        refine ⟨rfl, ?_⟩
        exact CutN.go F N ⟨has.cons rfl (has.cons rfl (has.cons rfl (has.cons rfl has.nil))), lA.mono hup, lP.mono hup, cP.mono hup, cR.mono hup, cC.mono hup⟩
    clear Fj Nj q12 lA lP cP lD rD cD cR cC
    rintro hg11 tkg11 mg11 nk Fk Nk ⟨q13, lA, lP, cP, cR, cC⟩
    refine seqN1 (s := s₁) (g := s₁.heap) (L := s₁.heap.objs.size) (fun m nx => ∃ Pq qv, has [(Str.ofString "alike", .ref Al)] m ∧ LAt nx Al av ∧ LAt nx Pq qv ∧ IntsAre qv (qsOf (postsOf (nums2 ks))) ∧ CAt nx (s₁.heap.objs.size + 1 + 1) (some (.ref Pq)) ∧ CAt nx (s₁.heap.objs.size + 1 + 1 + 1 + 1 + 1) none ∧ CAt nx (s₁.heap.objs.size + 1 + 1 + 1 + 1 + 1 + 1) none) ?_ ?_
    · have F1 := has.fr Fk q13
      clear Fk q13
      refine one ?_
      refine wpAny_Assign_Name ?_ (by rfl)
      have hnl := nums2_len ks
      have hpl : (postsOf (nums2 ks)).length = (nums2 ks).length := by unfold postsOf; rw [List.length_map]
      iterate 8 (first | (k_unfold; (try dsimp only)) | walk1 | (dsimp only; walk1) | (leave1; (try dsimp only)) | skip)
      refine ldCell (s := Shared.mk _ _ _ _ _) Nk rfl cP ?_
      iterate 1 (first | (k_unfold; (try dsimp only)) | walk1 | (dsimp only; walk1) | (leave1; (try dsimp only)) | skip)
      refine set_posts (s := Shared.mk _ _ _ _ _) rfl F1 Nk lP iP (by omega) posts_low2 fun S' es pl ep h2 tk2 F2 N2 x2 => ?_
      dsimp only at F2 N2 ⊢
      iterate 1 (first | (k_unfold; (try dsimp only)) | walk1 | (dsimp only; walk1) | (leave1; (try dsimp only)) | skip)
      refine sorted_posts (s := Shared.mk _ _ _ _ _) rfl F2 N2 x2 (by omega) posts_low2 fun Pq qv h3 tk3 n3 F3 N3 hup l3 i4 => ?_
      dsimp only at F3 N3 ⊢
      refine stCell (s := Shared.mk _ _ _ _ _) F3 N3 rfl (cP.mono hup) fun h9 nx F9 N9 hl9 hc9 hP => ?_
      exact CutN.go F9 N9 ⟨Pq, qv, has.cons rfl has.nil, hl9 _ _ (lA.mono hup), hl9 _ _ l3, i4, hP, hc9 _ _ (cne _ 5 2 (by decide)) (cR.mono hup), hc9 _ _ (cne _ 6 2 (by decide)) (cC.mono hup)⟩
    clear Fk Nk q13 lA lP cP cR cC
    rintro hg12 tkg12 mg12 nl Fl Nl ⟨Pq, qv, q14, lA, lQ, iQ, cP, cR, cC⟩
    refine seqN1 (s := s₁) (g := s₁.heap) (L := s₁.heap.objs.size) (fun m nx => ∃ Rw wv, has [(Str.ofString "alike", .ref Al)] m ∧ LAt nx Al av ∧ LAt nx Pq qv ∧  LAt nx Rw wv ∧ IntsAre wv (tallies inRow (qsOf (postsOf (nums2 ks)))) ∧ CAt nx (s₁.heap.objs.size + 1 + 1) (some (.ref Pq)) ∧ CAt nx (s₁.heap.objs.size + 1 + 1 + 1 + 1 + 1) (some (.ref Rw)) ∧ CAt nx (s₁.heap.objs.size + 1 + 1 + 1 + 1 + 1 + 1) none) ?_ ?_
    · have F1 := has.fr Fl q14
      clear Fl q14
      have X7 := KX.keeps F1.keep
      have T7 := T.keeps F1.keep
      have hql : (qsOf (postsOf (nums2 ks))).length ≤ 4 := by
        have h1 := nums2_len ks
        have h2 := qs_len (posts_low2 (ns := nums2 ks))
        have h3 : (postsOf (nums2 ks)).length = (nums2 ks).length := by unfold postsOf; rw [List.length_map]
        omega
      generalize qsOf (postsOf (nums2 ks)) = qs at *
      refine one ?_
      refine wpAny_Assign_Name ?_ (by rfl)
      refine compRC (s := Shared.mk _ _ _ _ _) (cl := [(Str.ofString "posts", s₁.heap.objs.size + 1 + 1)]) (x := Str.ofString "k") (n := 3) (P' := fun i v => ∃ t, v = .int (i : Int) t) (by rfl) (by intro _; rfl) (by intro _; rfl) (by rfl) (by decide) (by rfl) (by decide)
        (fun i ys made => made = [] ∧ IntsAre ys ((tallies inRow qs).take i)) ⟨rfl, .nil⟩ ?it ?turn ?done
      case it =>
        iterate 7 (first | (k_unfold; (try dsimp only)) | walk1 | (dsimp only; walk1) | (leave1; (try dsimp only)) | skip)
        rename_i h5 tk5 t5 u5 v5 r5 F5 N5 K5
        exact srcRange (s := Shared.mk _ _ _ _ _) (n := 3) rfl K5 (Nat.le_of_lt (Heap.lt_size r5)) r5 (by decide)
      case turn =>
        intro i ys made C h2 tk2 m2 own v o2 hin hJ hln hP ho2 F2 N2
        dsimp only at F2 N2
        rw [List.forIn_nil]
        refine wpAny_pure ?_
        rw [if_pos rfl]
        obtain ⟨it0, rfl⟩ := hP
        have cK : h2.IsCell (C + 1) (some (.int (i : Int) it0)) := ⟨o2, (N2 _ (.head _)).1, ho2⟩
        have cPs : h2.IsCell (s₁.heap.objs.size + 1 + 1) (some (.ref Pq)) := cell_kept F2.keep (cP.cell Nl)
        have X8 := X7.keeps F2.keep
        have T8 := T7.keeps F2.keep
        iterate 5 (first | (k_unfold; (try dsimp only)) | walk1 | (dsimp only; walk1) | (leave1; (try dsimp only)) | skip)
        refine compR (s := Shared.mk _ _ _ _ _) (cl := [(Str.ofString "k", C + 1)]) (names := [Str.ofString "post"]) (n := qs.length) (P' := fun q vals => ∃ z t, vals = [.int z t] ∧ qs[q]? = some z) (by rfl) (by decide) (by rfl) (by decide) (by decide) (Nat.le_trans hql (by decide))
          (fun q ys made => made = [] ∧ ys.length = ((qs.take q).filter (inRow i)).length) ⟨rfl, rfl⟩ ?it3 ?turn3 ?done3
        case it3 =>
          iterate 1 (first | (k_unfold; (try dsimp only)) | walk1 | (dsimp only; walk1) | (leave1; (try dsimp only)) | skip)
          exact srcInts (s := Shared.mk _ _ _ _ _) rfl (fun _ _ e => e) (Nat.le_refl _) (list_kept F2.keep (lQ.list Nl)) iQ rfl
        case turn3 =>
          intro q4 ys4 made4 C4 h4 tk4 m4 own4 vals4 hin4 hJ4 hln4 hP4 F4 N4
          dsimp only at F4 N4
          obtain ⟨z, zt, rfl, hz⟩ := hP4
          have c4 : h4.IsCell (C + 1) (some (.int (i : Int) it0)) := cell_kept F4.keep cK
          have F5 := has.fr F4 (ps := [(Str.ofString "post", .int z zt)]) (has.cons rfl has.nil)
          clear F4
          refine oneTest ?_
          iterate 9 (first | (k_unfold; (try dsimp only)) | walk1 | (dsimp only; walk1) | (leave1; (try dsimp only)) | skip)
          cases hb : (z.fdiv 3 == (i : Int))
          · iterate 2 (first | (k_unfold; (try dsimp only)) | walk1 | (dsimp only; walk1) | (leave1; (try dsimp only)) | skip)
            refine SkipEnd.mk F5 N4 ⟨hJ4.1, ?_⟩
            rw [tally_step hz, if_neg (by unfold inRow; rw [hb]; exact Bool.false_ne_true), hJ4.2]
            rfl
          · iterate 3 (first | (k_unfold; (try dsimp only)) | walk1 | (dsimp only; walk1) | (leave1; (try dsimp only)) | skip)
            refine EltEnd.mk F5 N4 ⟨hJ4.1, ?_⟩
            rw [tally_step hz, if_pos (by unfold inRow; exact hb), List.length_append, hJ4.2]
            rfl
        case done3 =>
          rintro D5 ys5 k5 made5 h5 tk5 ⟨rfl, hl5⟩ hk5 hp5
          have hD5 := hp5 _ (.head _)
          dsimp only at hk5 hD5
          have F5 := Fr.after F2 hk5
          have N5 := News.keepsAll N2 hk5
          have hl5' : ys5.length ≤ 100 := by
            rw [hl5]
            have h1 := List.length_filter_le (inRow i) (qs.take qs.length)
            have h2 : (qs.take qs.length).length ≤ qs.length := by rw [List.take_length]; exact Nat.le_refl _
            omega
          iterate 1 (first | (k_unfold; (try dsimp only)) | walk1 | (dsimp only; walk1) | (leave1; (try dsimp only)) | skip)
          refine len_use (s := Shared.mk _ _ _ _ _) ⟨_, hD5.1, rfl, _, rfl⟩ hl5' ?_
          rw [hl5, List.take_length]
          refine EltEnd.mk F5 N5 ⟨hJ.1, ?_⟩
          rw [tallies_step inRow qs hin]
          exact hJ.2.append (.cons _ _ .nil)
      case done =>
        refine compLed F1 Nl fun D ys k made h' tk hJ F N _ => ?_
        obtain ⟨rfl, hys⟩ := hJ
        rw [List.take_of_length_le (Nat.le_of_eq (tallies_len _ _))] at hys
        have hup : ∀ p ∈ nl, p ∈ (D, W.listOf ys.toArray k) :: ([] ++ nl) := fun p hp => .tail _ hp
        refine stCell F N rfl (cR.mono hup) fun h9 nx F9 N9 hl9 hc9 hD => ?_
        exact CutN.go F9 N9 ⟨D, ys, has.cons rfl has.nil, hl9 _ _ (lA.mono hup), hl9 _ _ (lQ.mono hup),  hl9 _ _ ⟨k, .head _⟩, hys, hc9 _ _ (cne _ 2 5 (by decide)) (cP.mono hup), hD, hc9 _ _ (cne _ 6 5 (by decide)) (cC.mono hup)⟩
    clear Fl Nl q14 lA lQ  cP cR cC
    rintro hg13 tkg13 mg13 no Fo No ⟨Rw, wv, q15, lA, lQ,  lRw, iRw, cP, cR, cC⟩
    refine seqN1 (s := s₁) (g := s₁.heap) (L := s₁.heap.objs.size) (fun m nx => ∃ Cw cv, has [(Str.ofString "alike", .ref Al)] m ∧ LAt nx Al av ∧ LAt nx Pq qv ∧ LAt nx Rw wv ∧ LAt nx Cw cv ∧ IntsAre cv (tallies inCol (qsOf (postsOf (nums2 ks)))) ∧ CAt nx (s₁.heap.objs.size + 1 + 1) (some (.ref Pq)) ∧ CAt nx (s₁.heap.objs.size + 1 + 1 + 1 + 1 + 1) (some (.ref Rw)) ∧ CAt nx (s₁.heap.objs.size + 1 + 1 + 1 + 1 + 1 + 1) (some (.ref Cw))) ?_ ?_
    · have F1 := has.fr Fo q15
      clear Fo q15
      have X7 := KX.keeps F1.keep
      have T7 := T.keeps F1.keep
      have hql : (qsOf (postsOf (nums2 ks))).length ≤ 4 := by
        have h1 := nums2_len ks
        have h2 := qs_len (posts_low2 (ns := nums2 ks))
        have h3 : (postsOf (nums2 ks)).length = (nums2 ks).length := by unfold postsOf; rw [List.length_map]
        omega
      generalize qsOf (postsOf (nums2 ks)) = qs at *
      refine one ?_
      refine wpAny_Assign_Name ?_ (by rfl)
      refine compRC (s := Shared.mk _ _ _ _ _) (cl := [(Str.ofString "posts", s₁.heap.objs.size + 1 + 1)]) (x := Str.ofString "k") (n := 3) (P' := fun i v => ∃ t, v = .int (i : Int) t) (by rfl) (by intro _; rfl) (by intro _; rfl) (by rfl) (by decide) (by rfl) (by decide)
        (fun i ys made => made = [] ∧ IntsAre ys ((tallies inCol qs).take i)) ⟨rfl, .nil⟩ ?it ?turn ?done
      case it =>
        iterate 7 (first | (k_unfold; (try dsimp only)) | walk1 | (dsimp only; walk1) | (leave1; (try dsimp only)) | skip)
        rename_i h5 tk5 t5 u5 v5 r5 F5 N5 K5
        exact srcRange (s := Shared.mk _ _ _ _ _) (n := 3) rfl K5 (Nat.le_of_lt (Heap.lt_size r5)) r5 (by decide)
      case turn =>
        intro i ys made C h2 tk2 m2 own v o2 hin hJ hln hP ho2 F2 N2
        dsimp only at F2 N2
        rw [List.forIn_nil]
        refine wpAny_pure ?_
        rw [if_pos rfl]
        obtain ⟨it0, rfl⟩ := hP
        have cK : h2.IsCell (C + 1) (some (.int (i : Int) it0)) := ⟨o2, (N2 _ (.head _)).1, ho2⟩
        have cPs : h2.IsCell (s₁.heap.objs.size + 1 + 1) (some (.ref Pq)) := cell_kept F2.keep (cP.cell No)
        have X8 := X7.keeps F2.keep
        have T8 := T7.keeps F2.keep
        iterate 5 (first | (k_unfold; (try dsimp only)) | walk1 | (dsimp only; walk1) | (leave1; (try dsimp only)) | skip)
        refine compR (s := Shared.mk _ _ _ _ _) (cl := [(Str.ofString "k", C + 1)]) (names := [Str.ofString "post"]) (n := qs.length) (P' := fun q vals => ∃ z t, vals = [.int z t] ∧ qs[q]? = some z) (by rfl) (by decide) (by rfl) (by decide) (by decide) (Nat.le_trans hql (by decide))
          (fun q ys made => made = [] ∧ ys.length = ((qs.take q).filter (inCol i)).length) ⟨rfl, rfl⟩ ?it3 ?turn3 ?done3
        case it3 =>
          iterate 1 (first | (k_unfold; (try dsimp only)) | walk1 | (dsimp only; walk1) | (leave1; (try dsimp only)) | skip)
          exact srcInts (s := Shared.mk _ _ _ _ _) rfl (fun _ _ e => e) (Nat.le_refl _) (list_kept F2.keep (lQ.list No)) iQ rfl
        case turn3 =>
          intro q4 ys4 made4 C4 h4 tk4 m4 own4 vals4 hin4 hJ4 hln4 hP4 F4 N4
          dsimp only at F4 N4
          obtain ⟨z, zt, rfl, hz⟩ := hP4
          have c4 : h4.IsCell (C + 1) (some (.int (i : Int) it0)) := cell_kept F4.keep cK
          have F5 := has.fr F4 (ps := [(Str.ofString "post", .int z zt)]) (has.cons rfl has.nil)
          clear F4
          refine oneTest ?_
          iterate 9 (first | (k_unfold; (try dsimp only)) | walk1 | (dsimp only; walk1) | (leave1; (try dsimp only)) | skip)
          cases hb : (z.fmod 3 == (i : Int))
          · iterate 2 (first | (k_unfold; (try dsimp only)) | walk1 | (dsimp only; walk1) | (leave1; (try dsimp only)) | skip)
            refine SkipEnd.mk F5 N4 ⟨hJ4.1, ?_⟩
            rw [tally_step hz, if_neg (by unfold inCol; rw [hb]; exact Bool.false_ne_true), hJ4.2]
            rfl
          · iterate 3 (first | (k_unfold; (try dsimp only)) | walk1 | (dsimp only; walk1) | (leave1; (try dsimp only)) | skip)
            refine EltEnd.mk F5 N4 ⟨hJ4.1, ?_⟩
            rw [tally_step hz, if_pos (by unfold inCol; exact hb), List.length_append, hJ4.2]
            rfl
        case done3 =>
          rintro D5 ys5 k5 made5 h5 tk5 ⟨rfl, hl5⟩ hk5 hp5
          have hD5 := hp5 _ (.head _)
          dsimp only at hk5 hD5
          have F5 := Fr.after F2 hk5
          have N5 := News.keepsAll N2 hk5
          have hl5' : ys5.length ≤ 100 := by
            rw [hl5]
            have h1 := List.length_filter_le (inCol i) (qs.take qs.length)
            have h2 : (qs.take qs.length).length ≤ qs.length := by rw [List.take_length]; exact Nat.le_refl _
            omega
          iterate 1 (first | (k_unfold; (try dsimp only)) | walk1 | (dsimp only; walk1) | (leave1; (try dsimp only)) | skip)
          refine len_use (s := Shared.mk _ _ _ _ _) ⟨_, hD5.1, rfl, _, rfl⟩ hl5' ?_
          rw [hl5, List.take_length]
          refine EltEnd.mk F5 N5 ⟨hJ.1, ?_⟩
          rw [tallies_step inCol qs hin]
          exact hJ.2.append (.cons _ _ .nil)
      case done =>
        refine compLed F1 No fun D ys k made h' tk hJ F N _ => ?_
        obtain ⟨rfl, hys⟩ := hJ
        rw [List.take_of_length_le (Nat.le_of_eq (tallies_len _ _))] at hys
        have hup : ∀ p ∈ no, p ∈ (D, W.listOf ys.toArray k) :: ([] ++ no) := fun p hp => .tail _ hp
        refine stCell F N rfl (cC.mono hup) fun h9 nx F9 N9 hl9 hc9 hD => ?_
        exact CutN.go F9 N9 ⟨D, ys, has.cons rfl has.nil, hl9 _ _ (lA.mono hup), hl9 _ _ (lQ.mono hup), hl9 _ _ (lRw.mono hup), hl9 _ _ ⟨k, .head _⟩, hys, hc9 _ _ (cne _ 2 6 (by decide)) (cP.mono hup), hc9 _ _ (cne _ 5 6 (by decide)) (cR.mono hup), hD⟩
    clear Fo No q15 lA lQ lRw cP cR cC
    rintro hg14 tkg14 mg14 np Fp Np ⟨Cw, cv, q16, lA, lQ, lRw, lCw, iCw, cP, cR, cC⟩
    refine seqN1 (s := s₁) (g := s₁.heap) (L := s₁.heap.objs.size) (fun m nx => ∃ at', has [(Str.ofString "alike", .ref Al), (Str.ofString "alone", .int (aloneQ (qsOf (postsOf (nums2 ks)))) at')] m ∧ LAt nx Al av ∧ LAt nx Rw wv ∧ LAt nx Cw cv ∧ CAt nx (s₁.heap.objs.size + 1 + 1 + 1 + 1 + 1) (some (.ref Rw)) ∧ CAt nx (s₁.heap.objs.size + 1 + 1 + 1 + 1 + 1 + 1) (some (.ref Cw))) ?_ ?_
    · have F1 := has.fr Fp q16
      clear Fp q16
      have X7 := KX.keeps F1.keep
      have T7 := T.keeps F1.keep
      have hql : (qsOf (postsOf (nums2 ks))).length ≤ 4 := by
        have h1 := nums2_len ks
        have h2 := qs_len (posts_low2 (ns := nums2 ks))
        have h3 : (postsOf (nums2 ks)).length = (nums2 ks).length := by unfold postsOf; rw [List.length_map]
        omega
      have hqlow : ∀ z ∈ qsOf (postsOf (nums2 ks)), ∃ j : Nat, z = j ∧ j < 9 := fun z hz => posts_low ((mem_qs posts_low2 z).mp hz)
      generalize qsOf (postsOf (nums2 ks)) = qs at *
      refine one ?_
      refine wpAny_Assign_Name ?_ (by rfl)
      iterate 4 (first | (k_unfold; (try dsimp only)) | walk1 | (dsimp only; walk1) | (leave1; (try dsimp only)) | skip)
      refine compR (s := Shared.mk _ _ _ _ _) (cl := [(Str.ofString "rows", s₁.heap.objs.size + 1 + 1 + 1 + 1 + 1), (Str.ofString "columns", s₁.heap.objs.size + 1 + 1 + 1 + 1 + 1 + 1)]) (names := [Str.ofString "post"]) (n := qs.length) (P' := fun q vals => ∃ z t, vals = [.int z t] ∧ qs[q]? = some z) (by rfl) (by decide) (by rfl) (by decide) (by decide) (Nat.le_trans hql (by decide))
        (fun q ys made => made = [] ∧ ys.length = ((qs.take q).filter (isAlone qs)).length) ⟨rfl, rfl⟩ ?it3 ?turn3 ?done3
      case it3 =>
        refine ldCell (s := Shared.mk _ _ _ _ _) Np rfl cP ?_
        exact srcInts (s := Shared.mk _ _ _ _ _) rfl (fun _ _ e => e) (Nat.le_refl _) (lQ.list Np) iQ rfl
      case turn3 =>
        intro q4 ys4 made4 C4 h4 tk4 m4 own4 vals4 hin4 hJ4 hln4 hP4 F4 N4
        dsimp only at F4 N4
        obtain ⟨z, zt, rfl, hz⟩ := hP4
        obtain ⟨j, rfl, hj9⟩ := hqlow z (List.mem_of_getElem? hz)
        have cRw : h4.IsCell (s₁.heap.objs.size + 1 + 1 + 1 + 1 + 1) (some (.ref Rw)) := cell_kept F4.keep (cR.cell Np)
        have cCw : h4.IsCell (s₁.heap.objs.size + 1 + 1 + 1 + 1 + 1 + 1) (some (.ref Cw)) := cell_kept F4.keep (cC.cell Np)
        have F5 := has.fr F4 (ps := [(Str.ofString "post", .int (j : Int) zt)]) (has.cons rfl has.nil)
        have lRw4 : h4.IsList Rw wv.toArray := list_kept F4.keep (lRw.list Np)
        have lCw4 : h4.IsList Cw cv.toArray := list_kept F4.keep (lCw.list Np)
        clear F4
        refine oneTest ?_
        obtain ⟨x1, t1, e1, f1⟩ := ints_get iRw (i := j / 3) (by rw [tallies_len]; omega)
        obtain ⟨x2, t2, e2, f2⟩ := ints_get iCw (i := j % 3) (by rw [tallies_len]; omega)
        have hd : (j : Int).fdiv 3 = ((j / 3 : Nat) : Int) := by rw [Int.fdiv_eq_ediv_of_nonneg _ (by decide)]; omega
        have hm : (j : Int).fmod 3 = ((j % 3 : Nat) : Int) := by rw [Int.fmod_eq_emod_of_nonneg _ (by decide)]; omega
        have hal : isAlone qs (j : Int) = (x1 == 1 && x2 == 1) := by
          unfold isAlone
          rw [List.getD_eq_getElem?_getD, List.getD_eq_getElem?_getD, Int.toNat_natCast, f1, f2]
          rfl
        have hwl : wv.length = 3 := by rw [ints_len iRw, tallies_len]
        have hcl : cv.length = 3 := by rw [ints_len iCw, tallies_len]
        iterate 9 (first | (k_unfold; (try dsimp only)) | walk1 | (dsimp only; walk1) | (leave1; (try dsimp only)) | skip)
        rw [hd]
        refine item_use (j := j / 3) (s := Shared.mk _ _ _ _ _) lRw4 (by rw [hwl]; decide) e1 ?_
        iterate 3 (first | (k_unfold; (try dsimp only)) | walk1 | (dsimp only; walk1) | (leave1; (try dsimp only)) | skip)
        cases hb : (x1 == 1)
        · iterate 3 (first | (k_unfold; (try dsimp only)) | walk1 | (dsimp only; walk1) | (leave1; (try dsimp only)) | skip)
          refine SkipEnd.mk F5 N4 ⟨hJ4.1, ?_⟩
          rw [tally_step hz, if_neg (by rw [hal, hb]; exact Bool.false_ne_true), hJ4.2]
          rfl
        · iterate 10 (first | (k_unfold; (try dsimp only)) | walk1 | (dsimp only; walk1) | (leave1; (try dsimp only)) | skip)
          rw [hm]
          refine item_use (j := j % 3) (s := Shared.mk _ _ _ _ _) lCw4 (by rw [hcl]; decide) e2 ?_
          iterate 3 (first | (k_unfold; (try dsimp only)) | walk1 | (dsimp only; walk1) | (leave1; (try dsimp only)) | skip)
          cases hb2 : (x2 == 1)
          · iterate 3 (first | (k_unfold; (try dsimp only)) | walk1 | (dsimp only; walk1) | (leave1; (try dsimp only)) | skip)
            refine SkipEnd.mk F5 N4 ⟨hJ4.1, ?_⟩
            rw [tally_step hz, if_neg (by rw [hal, hb, hb2]; exact Bool.false_ne_true), hJ4.2]
            rfl
          · iterate 4 (first | (k_unfold; (try dsimp only)) | walk1 | (dsimp only; walk1) | (leave1; (try dsimp only)) | skip)
            refine EltEnd.mk F5 N4 ⟨hJ4.1, ?_⟩
            rw [tally_step hz, if_pos (by rw [hal, hb, hb2]; rfl), List.length_append, hJ4.2]
            rfl
      case done3 =>
        refine compLed F1 Np fun D ys k made h' tk hJ F N hne => ?_
        obtain ⟨rfl, hlen⟩ := hJ
        rw [List.take_length] at hlen
        have hle := List.length_filter_le (isAlone qs) qs
        dsimp only at F N ⊢
        have hup : ∀ p ∈ np, p ∈ (D, W.listOf ys.toArray k) :: ([] ++ np) := fun p hp => .tail _ hp
        iterate 1 (first | (k_unfold; (try dsimp only)) | walk1 | (dsimp only; walk1) | (leave1; (try dsimp only)) | skip)
        refine len_use (s := Shared.mk _ _ _ _ _) (LAt.list ⟨k, .head _⟩ N) (by omega) ?_
        rw [hlen]
        iterate 1 (first | (k_unfold; (try dsimp only)) | walk1 | (dsimp only; walk1) | (leave1; (try dsimp only)) | skip)
        rename_i h9 F9 N9
        exact CutN.go F9 N9 ⟨_, has.cons rfl (has.cons rfl has.nil), lA.mono hup, lRw.mono hup, lCw.mono hup, cR.mono hup, cC.mono hup⟩
    clear Fp Np q16 lA lQ lRw lCw cP cR cC
    rintro hg15 tkg15 mg15 nq Fq Nq ⟨alt, q17, lA, lRw, lCw, cR, cC⟩
    refine seqN1 (s := s₁) (g := s₁.heap) (L := s₁.heap.objs.size) (fun m nx => ∃ at' bt', has [(Str.ofString "alike", .ref Al), (Str.ofString "alone", .int (aloneQ (qsOf (postsOf (nums2 ks)))) at'), (Str.ofString "bare", .int (bareQ (qsOf (postsOf (nums2 ks)))) bt')] m ∧ LAt nx Al av) ?_ ?_
    · have F1 := has.fr Fq q17
      clear Fq q17
      have X7 := KX.keeps F1.keep
      have T7 := T.keeps F1.keep
      generalize qsOf (postsOf (nums2 ks)) = qs at *
      refine one ?_
      refine wpAny_Assign_Name ?_ (by rfl)
      iterate 5 (first | (k_unfold; (try dsimp only)) | walk1 | (dsimp only; walk1) | (leave1; (try dsimp only)) | skip)
      refine ldCell (s := Shared.mk _ _ _ _ _) Nq rfl cR ?_
      refine method_list (s := Shared.mk _ _ _ _ _) Nq (fun _ _ e => e) lRw PySem.F.slot_list_count PySem.F.type_list_count ?_
      dsimp only
      iterate 4 (first | (k_unfold; (try dsimp only)) | walk1 | (dsimp only; walk1) | (leave1; (try dsimp only)) | skip)
      refine count_list_ints (s := Shared.mk _ _ _ _ _) (lRw.list Nq) iRw ?_
      dsimp only
      iterate 2 (first | (k_unfold; (try dsimp only)) | walk1 | (dsimp only; walk1) | (leave1; (try dsimp only)) | skip)
      refine ldCell (s := Shared.mk _ _ _ _ _) Nq rfl cC ?_
      refine method_list (s := Shared.mk _ _ _ _ _) Nq (fun _ _ e => e) lCw PySem.F.slot_list_count PySem.F.type_list_count ?_
      dsimp only
      iterate 4 (first | (k_unfold; (try dsimp only)) | walk1 | (dsimp only; walk1) | (leave1; (try dsimp only)) | skip)
      refine count_list_ints (s := Shared.mk _ _ _ _ _) (lCw.list Nq) iCw ?_
      dsimp only
      iterate 1 (first | (k_unfold; (try dsimp only)) | walk1 | (dsimp only; walk1) | (leave1; (try dsimp only)) | skip)
      refine max_two_N (s := Shared.mk _ _ _ _ _) rfl F1 Nq fun h' tk' F2 N2 => ?_
      dsimp only at F2 N2 ⊢
      iterate 1 (first | (k_unfold; (try dsimp only)) | walk1 | (dsimp only; walk1) | (leave1; (try dsimp only)) | skip)
      rename_i h9 F9 N9
      exact CutN.go F9 N9 ⟨_, _, has.cons rfl (has.cons rfl (has.cons rfl has.nil)), lA⟩
    clear Fq Nq q17 lA lRw lCw cR cC
    rintro hg16 tkg16 mg16 nr Fr' Nr' ⟨alt, bat, q18, lA⟩
    refine one ?_
    · have F1 := has.fr Fr' q18
      clear Fr' q18
      have X7 := KX.keeps F1.keep
      have T7 := T.keeps F1.keep
      have hnl := nums2_len ks
      have hpl : (postsOf (nums2 ks)).length = (nums2 ks).length := by unfold postsOf; rw [List.length_map]
      have hlaw := fun M a b => law_plain (ps := postsOf (nums2 ks)) (by intro e; rw [e] at hpl; simp only [List.length_nil] at hpl; omega) (by omega) posts_low2 (M := M) a b
      have hal : (alikeOf (dueOf (postsOf (nums2 ks)))).length = 9 := by unfold alikeOf; rw [List.length_map, due_len]
      generalize bareQ (qsOf (postsOf (nums2 ks))) = bq at *
      generalize aloneQ (qsOf (postsOf (nums2 ks))) = aq at *
      generalize alikeOf (dueOf (postsOf (nums2 ks))) = al at *
      iterate 8 (first | (k_unfold; (try dsimp only)) | walk1 | (dsimp only; walk1) | (leave1; (try dsimp only)) | skip)
      cases hb : decide (bq ≤ 1)
      · rw [hb] at hlaw
        iterate 8 (first | (k_unfold; (try dsimp only)) | walk1 | (dsimp only; walk1) | (leave1; (try dsimp only)) | skip)
        refine max_list_N (s := Shared.mk _ _ _ _ _) rfl F1 Nr' (lA.list Nr') iA (by omega) fun h' M t tk' F2 N2 hM hx => ?_
        have hlM := hlaw M hM hx
        dsimp only at F2 N2 ⊢
        iterate 3 (first | (k_unfold; (try dsimp only)) | walk1 | (dsimp only; walk1) | (leave1; (try dsimp only)) | skip)
        refine ⟨?_, _, _, _, rfl, F2⟩
        have e : (false == (M == 1)) = true := by
          rw [show (M == 1) = decide (M = 1) from rfl, ← hlM]
          rfl
        rw [e]
      · rw [hb] at hlaw
        iterate 13 (first | (k_unfold; (try dsimp only)) | walk1 | (dsimp only; walk1) | (leave1; (try dsimp only)) | skip)
        refine max_list_N (s := Shared.mk _ _ _ _ _) rfl F1 Nr' (lA.list Nr') iA (by omega) fun h' M t tk' F2 N2 hM hx => ?_
        have hlM := hlaw M hM hx
        dsimp only at F2 N2 ⊢
        iterate 3 (first | (k_unfold; (try dsimp only)) | walk1 | (dsimp only; walk1) | (leave1; (try dsimp only)) | skip)
        refine ⟨?_, _, _, _, rfl, F2⟩
        have e : (decide ((aq : Int) ≤ 1) == (M == 1)) = true := by
          rw [show (M == 1) = decide (M = 1) from rfl, ← hlM, Bool.true_and, beq_self_eq_true]
        rw [e]
  · rintro fl s' ⟨rfl, h', tk, m', rfl, F'⟩
    refine goodW_bool F' hg (raisesW_false ?_) ?_
    · wrow_none_raised
    · wrow_post


  · exact fun _ _ h => h.elim)
end Mine
end
set_option maxRecDepth 100000 in
set_option maxHeartbeats 8000000 in
theorem PySem.Challenge.cw_pg0173_02_holds : PySem.Challenge.rw_pg0173_02.Holds :=
  Mine.t
