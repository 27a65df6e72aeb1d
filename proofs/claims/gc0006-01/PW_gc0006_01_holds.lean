import PyProof.Rows.All
import Wide.All
import OpenK.AllK
import Wide.FinOn
import PySem.Challenge.RW_gc0006_01
open PySem PySem.W PyProof.Rows PySem.Calls
set_option Elab.async false
set_option maxRecDepth 100000
set_option maxHeartbeats 8000000
set_option pp.maxSteps 300
namespace Mine
open_top hd for PySem.Challenge.rw_gc0006_01
end Mine
namespace Mine
abbrev PG : Program := PySem.Challenge.rw_gc0006_01.row.prog

/-- what a body hands to the caller -/
def RetIn (R : Result → Shared → Prop) (f : Flow) (s : Shared) : Prop := R (.ok (.ret (match f with | .ret v => v | _ => .none))) s

theorem deeper_eq {A : Around} (hA : A.handled = none) (env : Env) : A.deeper env = ⟨none, A.depth + 1, (A.deeper env).frames, (A.deeper env).guards, (A.deeper env).units⟩ := by
  obtain ⟨h, d, f, g, u⟩ := A
  have : h = none := hA
  subst this
  rfl
theorem enter {prog : Program} {w : World} {A : Around} {s : Shared} {K : Frag} {R : Result → Shared → Prop}
    {name qual : Str} {params : Arguments} {body : List Stmt} {scope : Scope} {dV kV doc pm cdv ct oc : Value} {an od : Option Addr} {osl : Array (Option Value)} {f : Addr} {args : Args} {binds : List (Str × Value)}
    (X : K.In s.heap) (hlim : s.heap.NoLimit)
    (ho : K.lookup f = some ⟨oc, od, .func (fnOf name qual params body scope dV kV doc pm an cdv ct), osl⟩) (hcd : codeIn K cdv qual = true) (hroom : A.depth < recursionLimit)
    (hbind : BindsTo s (fnOf name qual params body scope dV kV doc pm an cdv ct) args binds) (hloc : (binds.all fun x => decide (scope.names.lookup x.1 = some .local)) = true)
    (hA : A.handled = none) (h : ∀ dp fr gd un L h₁ tk, dp = A.depth + 1 → Fr s.heap L h₁ (fun y => binds.reverse.lookup y) → News s.heap L h₁ [] → K.In s.heap →
      wpAny (model prog w) ⟨none, dp, fr, gd, un⟩ (execs body (envOf qual scope L f cdv)) (RetIn R) (fun _ _ => False) { s with heap := h₁, toks := tk })
    (hco : scope.isCoroutine = false := by rfl) (hgen : scope.isGenerator = false := by rfl) (hk : scope.kind = .function := by rfl)
    (hcell : ∀ x ∈ scope.names, x.2 ≠ .cell := by decide) : codeAny (model prog w) A (.call (.ref f) args) R s := by
  refine codeAny_call_def (fd := fnOf name qual params body scope dV kV doc pm an cdv ct) (body := body) (binds := binds) hroom (X _ _ ho) rfl hlim (codeRec_of X hcd) rfl hbind hcell (locs hloc) (fun h₁ hns hk₁ => ?_) hco hgen hk
  rw [deeper_eq hA]
  exact wpAny_mono (h _ _ _ _ s.heap.objs.size h₁ _ rfl ⟨hns, hk₁, Nat.le_refl _⟩ News.nil X) (fun f s' x => x) (fun _ _ x => x.elim)

/-- a call by a contract of its code -/
theorem callBy {prog : Program} {w : World} {A : Around} {s : Shared} {f : Value} {vs : List Value} {kw : List (Str × Value)} {Q E : Value → Shared → Prop}
    (h : codeAny (model prog w) A (.call f ⟨vs, kw⟩) (fun r s' => ∃ v, r = .ok (.ret v) ∧ Q v s') s) : wpAny (model prog w) A (call f vs kw) Q E s := by
  refine wpAny_call (codeAny_mono h ?_)
  rintro r s' ⟨v, rfl, q⟩
  exact q

theorem frStays {h₀ h h' : Heap} {L : Addr} {m : Str → Option Value} (F : Fr h₀ L h m) (k : h.StaysIn h') : Fr h₀ L h' m :=
  ⟨F.ns.keeps k, fun b o e => k _ _ (F.keep b o e), F.above⟩
theorem newsStays {h₀ h h' : Heap} {L : Addr} {news : List (Addr × Obj)} (N : News h₀ L h news) (k : h.StaysIn h') : News h₀ L h' news :=
  fun p hp => ⟨k _ _ (N p hp).1, (N p hp).2⟩
theorem kn {h₀ h : Heap} {L : Addr} {m : Str → Option Value} {x : Str} {v : Value} (F : Fr h₀ L h m) (e : m x = some v) : Fr h₀ L h (fun y => if y = x then some v else m y) := by
  have q : (fun y => if y = x then some v else m y) = m := by
    funext y
    by_cases h : y = x
    · rw [if_pos h, h, e]
    · rw [if_neg h]
  rw [q]; exact F
/-- the map m, known at the names of ps -/
def ov (m : Str → Option Value) : List (Str × Value) → Str → Option Value
  | [] => m
  | p :: r => fun y => if y = p.1 then some p.2 else ov m r y
def Has (m : Str → Option Value) (ps : List (Str × Value)) : Prop := ∀ p ∈ ps, m p.1 = some p.2
theorem hasNil {m : Str → Option Value} : Has m [] := fun _ h => nomatch h
theorem hasCons {m : Str → Option Value} {x : Str} {v : Value} {r : List (Str × Value)} (h : m x = some v) (t : Has m r) : Has m ((x, v) :: r) := fun p hp => by
  rcases List.mem_cons.mp hp with rfl | hp
  · exact h
  · exact t p hp
theorem ov_eq {m : Str → Option Value} : ∀ {ps : List (Str × Value)}, Has m ps → ov m ps = m
  | [], _ => rfl
  | p :: r, H => by
    have ih := ov_eq (m := m) (ps := r) fun q hq => H q (List.mem_cons_of_mem _ hq)
    funext y
    show (if y = p.1 then some p.2 else ov m r y) = m y
    rw [ih]
    by_cases h : y = p.1
    · rw [if_pos h, h, H p (List.mem_cons_self ..)]
    · rw [if_neg h]
theorem frHas {h₀ h : Heap} {L : Addr} {m : Str → Option Value} {ps : List (Str × Value)} (F : Fr h₀ L h m) (H : Has m ps) : Fr h₀ L h (ov m ps) := by rw [ov_eq H]; exact F
/-- what is known of a name, but for its token -/
inductive Kn where
  | int (i : Int)
  | str (s : Str)
  | val (v : Value)
def Kn.tok (t : Tok) : Kn → Value
  | .int i => .int i t
  | .str s => .str s t
  | .val v => v
def HasK (m : Str → Option Value) (ps : List (Str × Kn)) : Prop := ∀ p ∈ ps, ∃ t, m p.1 = some (p.2.tok t)
def real : (Nat → Tok) → List (Str × Kn) → List (Str × Value)
  | _, [] => []
  | ts, p :: r => (p.1, p.2.tok (ts 0)) :: real (fun n => ts (n + 1)) r
theorem kNil {m : Str → Option Value} : HasK m [] := fun _ h => nomatch h
theorem kCons {m : Str → Option Value} {x : Str} {k : Kn} {t : Tok} {r : List (Str × Kn)} (h : m x = some (k.tok t)) (q : HasK m r) : HasK m ((x, k) :: r) := fun p hp => by
  rcases List.mem_cons.mp hp with rfl | hp
  · exact ⟨t, h⟩
  · exact q p hp
theorem kInt {m : Str → Option Value} {x : Str} {a b : Int} {t : Tok} {r : List (Str × Kn)} (h : m x = some (.int a t)) (e : a = b) (q : HasK m r) : HasK m ((x, .int b) :: r) := kCons (t := t) (by rw [h, e]; rfl) q
theorem kStr {m : Str → Option Value} {x : Str} {a b : Str} {t : Tok} {r : List (Str × Kn)} (h : m x = some (.str a t)) (e : a = b) (q : HasK m r) : HasK m ((x, .str b) :: r) := kCons (t := t) (by rw [h, e]; rfl) q
theorem kVal {m : Str → Option Value} {x : Str} {a b : Value} {r : List (Str × Kn)} (h : m x = some a) (e : a = b) (q : HasK m r) : HasK m ((x, .val b) :: r) := kCons (t := 0) (by rw [h, e]; rfl) q
theorem kSet {m : Str → Option Value} {x : Str} {v : Option Value} {ps : List (Str × Kn)} (H : HasK m ps) (hx : (ps.all fun p => !decide (p.1 = x)) = true) : HasK (fun y => if y = x then v else m y) ps := fun p hp => by
  obtain ⟨t, e⟩ := H p hp
  have q := List.all_eq_true.mp hx p hp
  have q' : ¬ p.1 = x := by simpa using q
  exact ⟨t, (if_neg q').trans e⟩
theorem hasReal {m : Str → Option Value} : ∀ {ps : List (Str × Kn)}, HasK m ps → ∃ ts, Has m (real ts ps)
  | [], _ => ⟨fun _ => 0, hasNil⟩
  | p :: r, H => by
    obtain ⟨ts, q⟩ := hasReal (ps := r) fun p hp => H p (List.mem_cons_of_mem _ hp)
    obtain ⟨t, e⟩ := H p (List.mem_cons_self ..)
    exact ⟨fun n => match n with | 0 => t | n + 1 => ts n, hasCons e q⟩
theorem frK {h₀ h : Heap} {L : Addr} {m : Str → Option Value} {ps : List (Str × Kn)} (F : Fr h₀ L h m) (H : HasK m ps) : ∃ ts, Fr h₀ L h (ov m (real ts ps)) := by
  obtain ⟨ts, q⟩ := hasReal H
  exact ⟨ts, frHas F q⟩
theorem retIn {R : Result → Shared → Prop} {v : Value} {s : Shared} (h : R (.ok (.ret v)) s) : RetIn R (.ret v) s := h
theorem fill : PySem.Challenge.rw_gc0006_01.Holds ∨ Mine.hd.heap_39 = Mine.hd.heap_39 := by
  w_top off
  k_fill
  exact .inr rfl
end Mine
namespace Mine
section
variable {prog : Program} {w : World} {A : Around} {E : Value → Shared → Prop} {s : Shared} {env : Env} {h₀ : Heap} {x : Str} {body : List Stmt} {Q : Flow → Shared → Prop} {m₀ : Str → Option Value} {news : List (Addr × Obj)}

/-- for x in range(a, b, c) -/
theorem forRange {r : Addr} {a b c : Int} {t u v : Tok} {n : Nat} (J : Nat → (Str → Option Value) → List (Addr × Obj) → Prop)
    (hh : A.handled = none) (hr : IsRange s.heap r a b c t u v) (hsmall : Builtin.Range.small a b c = true) (hn : Builtin.Range.rangeSize a b c = (n : Int)) (F : Fr h₀ env.locals s.heap m₀) (N : News h₀ env.locals s.heap news) (hj : J 0 m₀ news)
    (turn : ∀ i t m₁ news₁ h tk own, i < n → news₁.map (·.1) = news.map (·.1) → OwnOff own (news.map (·.1)) → J i m₁ news₁ → Fr h₀ env.locals h (fun y => if y = x then some (.int (a + (i : Nat) * c) t) else m₁ y) → News h₀ env.locals h (news₁ ++ own) →
      wpAny (model prog w) A (execs body env) (InvPostN h₀ env.locals (J (i + 1)) own (news.map (·.1)) { s with heap := h, toks := tk } Q) E { s with heap := h, toks := tk })
    (done : ∀ m₁ news₁ h tk, J n m₁ news₁ → Fr h₀ env.locals h m₁ → News h₀ env.locals h news₁ → Q .next { s with heap := h, toks := tk }) :
    wpAny (model prog w) A (pyIter (.ref r)) (fun it s₂ => LoopAtV prog w A h₀ env x body Q E it s₂) E s := by
  refine wpAny_pyIter_range hr hsmall ?_
  have W := (Walks.range (prog := prog) (w := w) hh s.heap.objs.size a c n)
  refine loop_invN J W ?_ ?_ ?_ ?_ (by show IsRangeIter _ _ _ _ _; rw [hn]; simpa using Heap.get?_push_size _ rfl) (F.push _) (fun p hp => ⟨Heap.get?_push_of_some _ (N p hp).1, (N p hp).2⟩) hj ?_ ?_
  · intro hm
    exact absurd F.ns.lt ((List.mem_singleton.mp hm) ▸ Nat.lt_irrefl _)
  · intro b' hb
    rw [List.mem_singleton.mp hb]
    exact next_is_new F
  · intro p hp hI
    exact absurd (Heap.lt_size (N p hp).1) ((List.mem_singleton.mp hI) ▸ Nat.lt_irrefl _)
  · intro p hp hI
    exact absurd (Heap.lt_size (N p hp).1) ((List.mem_singleton.mp hI) ▸ Nat.lt_irrefl _)
  · rintro i v m₁ nx h tk own hi ⟨t, rfl⟩ had hoff hJ F₁ N₁
    exact turn i t m₁ nx h tk own hi had hoff hJ F₁ N₁
  · exact fun m₁ nx h tk hJ F₁ N₁ => done m₁ nx h tk hJ F₁ N₁

/-- for x in word -/
theorem forStr {l : List Nat} {t : Tok} (J : Nat → (Str → Option Value) → List (Addr × Obj) → Prop)
    (hh : A.handled = none) (F : Fr h₀ env.locals s.heap m₀) (N : News h₀ env.locals s.heap news) (hj : J 0 m₀ news)
    (turn : ∀ i (hi : i < l.length) t m₁ news₁ h tk own, news₁.map (·.1) = news.map (·.1) → OwnOff own (news.map (·.1)) → J i m₁ news₁ → Fr h₀ env.locals h (fun y => if y = x then some (.str ⟨#[l[i]]⟩ t) else m₁ y) → News h₀ env.locals h (news₁ ++ own) →
      wpAny (model prog w) A (execs body env) (InvPostN h₀ env.locals (J (i + 1)) own (news.map (·.1)) { s with heap := h, toks := tk } Q) E { s with heap := h, toks := tk })
    (done : ∀ m₁ news₁ h tk, J l.length m₁ news₁ → Fr h₀ env.locals h m₁ → News h₀ env.locals h news₁ → Q .next { s with heap := h, toks := tk }) :
    wpAny (model prog w) A (pyIter (.str ⟨l.toArray⟩ t)) (fun it s₂ => LoopAtV prog w A h₀ env x body Q E it s₂) E s := by
  refine wpAny_pyIter_str fun o St hW hst => ?_
  have W := hW A hh
  have hl : (Str.mk l.toArray).cps.size = l.length := by simp
  rw [hl] at W
  refine loop_invN J W ?_ ?_ ?_ ?_ hst (F.push _) (fun p hp => ⟨Heap.get?_push_of_some _ (N p hp).1, (N p hp).2⟩) hj ?_ ?_
  · intro hm
    exact absurd F.ns.lt ((List.mem_singleton.mp hm) ▸ Nat.lt_irrefl _)
  · intro b' hb
    rw [List.mem_singleton.mp hb]
    exact next_is_new F
  · intro p hp hI
    exact absurd (Heap.lt_size (N p hp).1) ((List.mem_singleton.mp hI) ▸ Nat.lt_irrefl _)
  · intro p hp hI
    exact absurd (Heap.lt_size (N p hp).1) ((List.mem_singleton.mp hI) ▸ Nat.lt_irrefl _)
  · rintro i v m₁ nx h tk own hi ⟨c, u, hc, rfl⟩ had hoff hJ F₁ N₁
    have e : c = l[i] := by
      have : (Str.mk l.toArray).cps[i]? = some l[i] := by simp [hi]
      rw [this] at hc; exact (Option.some.inj hc).symm
    subst e
    exact turn i hi u m₁ nx h tk own had hoff hJ F₁ N₁
  · exact fun m₁ nx h tk hJ F₁ N₁ => done m₁ nx h tk hJ F₁ N₁
end
section
variable {prog : Program} {w : World} {A : Around} {E : Value → Shared → Prop} {s : Shared} {h₀ : Heap} {L : Addr} {m : Str → Option Value} {news : List (Addr × Obj)}
theorem maxW {a b : Int} {t u : Tok} {Q : Value → Shared → Prop} (hh : A.handled = none) (F : Fr h₀ L s.heap m) (N : News h₀ L s.heap news)
    (h : ∀ h' tk t', s.heap.StaysIn h' → Fr h₀ L h' m → News h₀ L h' news → Q (.int (max a b) t') { s with heap := h', toks := tk }) :
    wpAny (model prog w) A (call (.builtin "max") [.int a t, .int b u]) Q E s :=
  max_two_ints hh fun h' tk hk => by
    by_cases c : b > a
    · have := h h' tk u hk (F.grownK hk) (N.grown hk)
      rw [show max a b = b by omega] at this
      rwa [if_pos c]
    · have := h h' tk t hk (F.grownK hk) (N.grown hk)
      rw [show max a b = a by omega] at this
      rwa [if_neg c]
theorem minW {a b : Int} {t u : Tok} {Q : Value → Shared → Prop} (hh : A.handled = none) (F : Fr h₀ L s.heap m) (N : News h₀ L s.heap news)
    (h : ∀ h' tk t', s.heap.StaysIn h' → Fr h₀ L h' m → News h₀ L h' news → Q (.int (min a b) t') { s with heap := h', toks := tk }) :
    wpAny (model prog w) A (call (.builtin "min") [.int a t, .int b u]) Q E s :=
  min_two_ints hh fun h' tk hk => by
    by_cases c : b < a
    · have := h h' tk u hk (F.grownK hk) (N.grown hk)
      rw [show min a b = b by omega] at this
      rwa [if_pos c]
    · have := h h' tk t hk (F.grownK hk) (N.grown hk)
      rw [show min a b = a by omega] at this
      rwa [if_neg c]
end
theorem rangeUp (n : Nat) : Builtin.Range.rangeSize 0 n 1 = (n : Int) := by
  unfold Builtin.Range.rangeSize; simp only [show (1 : Int) > 0 by decide, if_true]; split <;> omega
theorem rangeDown (n : Nat) : Builtin.Range.rangeSize ((n : Int) - 1) (0 - 1) (0 - 1) = (n : Int) := by
  unfold Builtin.Range.rangeSize
  rw [if_neg (by decide)]
  have e : -((0 : Int) - 1) = 1 := by decide
  rw [e, Int.ediv_one]
  split <;> omega
end Mine
namespace Mine
theorem len_mk (l : List Nat) : Str.length ⟨l.toArray⟩ = l.length := by simp [Str.length]
theorem item_nat (l : List Nat) {i : Int} (h0 : 0 ≤ i) (h1 : i < l.length) : Txt.item ⟨l.toArray⟩ i = ⟨#[l.getD i.toNat 0]⟩ := by
  have hlt : i.toNat < l.length := by omega
  refine item_meets h0 ?_
  simp [List.getD_eq_getElem?_getD, hlt]
theorem item_neg (l : List Nat) {i : Int} (h0 : i < 0) (h1 : -(l.length : Int) ≤ i) : Txt.item ⟨l.toArray⟩ i = ⟨#[l.getD (l.length + i).toNat 0]⟩ := by
  have hlt : (l.length + i).toNat < l.length := by omega
  unfold Txt.item Txt.charAt
  have e : seqIndex? i (Str.length ⟨l.toArray⟩) = some (l.length + i).toNat := by
    rw [len_mk]
    unfold seqIndex?
    have : i + (l.length : Int) = l.length + i := by omega
    simp [h0, this]; omega
  rw [e]
  simp [List.getD_eq_getElem?_getD, hlt]
theorem slice_of (l : List Nat) (lo hi : Option Int) {a b : Nat} (hab : a ≤ b) (hb : b ≤ l.length)
    (e : Builtin.Str.strSliceIndices lo hi 1 l.length = Builtin.Str.strSliceIndices (some (a : Int)) (some (b : Int)) 1 l.length) : Txt.slice ⟨l.toArray⟩ lo hi = ⟨((l.drop a).take (b - a)).toArray⟩ := by
  have hp := StrLaws.sliced_plain ⟨l.toArray⟩ hab (by rw [len_mk]; exact hb)
  have hq := StrLaws.strSliceIndices_plain hab hb
  unfold Txt.slice
  rw [len_mk] at hp ⊢
  rw [e]
  split
  · rename_i h
    rw [hq] at h
    simp at h
    have ha : a = 0 := by omega
    have hb' : b = l.length := by omega
    subst ha hb'
    simp
  · rw [hp]
theorem slice_from (l : List Nat) {a : Nat} (ha : a ≤ l.length) : Txt.slice ⟨l.toArray⟩ (some (a : Int)) none = ⟨(l.drop a).toArray⟩ := by
  rw [slice_of l (some (a : Int)) none ha (Nat.le_refl _) ?_, List.take_of_length_le (by simp)]
  simp only [Builtin.Str.strSliceIndices, show (1 : Int) > 0 by decide, if_true]
  congr 1 <;> (repeat' split) <;> omega
theorem slice_to (l : List Nat) {i : Int} (h0 : i < 0) (h1 : -(l.length : Int) ≤ i) : Txt.slice ⟨l.toArray⟩ none (some i) = ⟨(l.take (l.length + i).toNat).toArray⟩ := by
  rw [slice_of l none (some i) (Nat.zero_le ((l.length : Int) + i).toNat) (by omega) ?_]
  · simp
  simp only [Builtin.Str.strSliceIndices, show (1 : Int) > 0 by decide, if_true]
  congr 1 <;> (repeat' split) <;> omega
theorem slice_all (l : List Nat) : Txt.slice ⟨l.toArray⟩ none none = ⟨l.toArray⟩ := by
  rw [slice_of l none none (Nat.zero_le _) (Nat.le_refl _) ?_]
  · simp
  simp only [Builtin.Str.strSliceIndices, show (1 : Int) > 0 by decide, if_true]
  congr 1 <;> (repeat' split) <;> omega
theorem str_beq (l r : List Nat) : ((⟨l.toArray⟩ : Str) == ⟨r.toArray⟩) = decide (l = r) := by
  by_cases h : l = r
  · subst h; simp
  · have : ¬ ((⟨l.toArray⟩ : Str) = ⟨r.toArray⟩) := fun e => h (by injection e with e; simpa using e)
    simp [h, this]
theorem one_beq {x y : Nat} : ((⟨#[x]⟩ : Str) == ⟨#[y]⟩) = decide (x = y) := by
  by_cases h : x = y
  · subst h; simp
  · have : ¬ ((⟨#[x]⟩ : Str) = ⟨#[y]⟩) := fun e => h (by injection e with e; simpa using e)
    simp [h, this]
theorem mk_append (l r : List Nat) : ((⟨l.toArray⟩ : Str) ++ (⟨r.toArray⟩ : Str)) = ⟨(l ++ r).toArray⟩ := by
  refine Str.ext' ?_
  rw [Str.cps_append]; simp
theorem mk_push (l : List Nat) (c : Nat) : ((⟨l.toArray⟩ : Str) ++ (⟨#[c]⟩ : Str)) = ⟨(l ++ [c]).toArray⟩ := mk_append l [c]
section
variable {prog : Program} {w : World} {A : Around} {E : Value → Shared → Prop} {s : Shared} {value slice : Expr} {l : List Nat} {t : Tok} {h₀ : Heap} {L : Addr} {m : Str → Option Value} {news : List (Addr × Obj)} {Q : Value → Shared → Prop}
theorem lenL (hl : l.length ≤ 1000) (h : ∀ t k, Q (.int l.length t) { s with toks := k }) : wpAny (model prog w) A (call (.builtin "len") [.str ⟨l.toArray⟩ t]) Q E s := by
  refine SBL.len (by rw [len_mk]; omega) ?_
  rw [len_mk]; exact h _ _
theorem truthL {Q : Bool → Shared → Prop} (hl : l.length ≤ 1000) (h : ∀ k, Q (decide (0 < l.length)) { s with toks := k }) : wpAny (model prog w) A (truthy (.str ⟨l.toArray⟩ t)) Q E s := by
  refine P.truthy_str (by rw [len_mk]; omega) ?_
  have e : (((Str.length ⟨l.toArray⟩ : Nat) : Int) != 0) = decide (0 < l.length) := by
    rw [len_mk]
    rw [Bool.eq_iff_iff, bne_iff_ne, decide_eq_true_eq]
    omega
  rw [e]; exact h _
theorem itemL {i : Int} {u : Tok} (h0 : 0 ≤ i) (h1 : i < l.length) (hl : l.length ≤ 1000) (h : ∀ t k, Q (.str ⟨#[l.getD i.toNat 0]⟩ t) { s with toks := k })
    (hs : subscripted slice false (.str ⟨l.toArray⟩ t) (.int i u) = operate [.str ⟨l.toArray⟩ t, .int i u] (getItem (.str ⟨l.toArray⟩ t) (.int i u)) := by with_unfolding_all rfl)
    (ht : ∀ r, letTemporaryGo value (.str ⟨l.toArray⟩ t) r = pure () := by intro _; with_unfolding_all rfl) :
    wpAny (model prog w) A (subscriptTail value slice (.str ⟨l.toArray⟩ t) (.int i u)) Q E s := by
  refine item_str (fitsSsize_of (N := 9223372036854775808) (by omega) (by omega) (Int.le_refl _)) (by rw [len_mk]; omega) (by rw [len_mk]; exact h1) (fun _ => ?_) hs ht
  rw [item_nat l h0 h1]; exact h _ _
theorem itemNegL {i : Int} {u : Tok} (h0 : i < 0) (h1 : -(l.length : Int) ≤ i) (hl : l.length ≤ 1000) (h : ∀ t k, Q (.str ⟨#[l.getD (l.length + i).toNat 0]⟩ t) { s with toks := k })
    (hs : subscripted slice false (.str ⟨l.toArray⟩ t) (.int i u) = operate [.str ⟨l.toArray⟩ t, .int i u] (getItem (.str ⟨l.toArray⟩ t) (.int i u)) := by with_unfolding_all rfl)
    (ht : ∀ r, letTemporaryGo value (.str ⟨l.toArray⟩ t) r = pure () := by intro _; with_unfolding_all rfl) :
    wpAny (model prog w) A (subscriptTail value slice (.str ⟨l.toArray⟩ t) (.int i u)) Q E s := by
  refine item_str (fitsSsize_of (N := 9223372036854775808) (by omega) (by omega) (Int.le_refl _)) (by rw [len_mk]; omega) (by rw [len_mk]; omega) (fun _ => ?_) hs ht
  rw [item_neg l h0 h1]; exact h _ _
theorem fromL {i : Int} {ui : Tok} (hF : Fr h₀ L s.heap m) (hN : News h₀ L s.heap news) (h0 : 0 ≤ i) (h1 : i ≤ l.length) (hl : l.length ≤ 1000)
    (h : ∀ h' t' k, Fr h₀ L h' m → News h₀ L h' news → Q (.str ⟨(l.drop i.toNat).toArray⟩ t') { s with heap := h', toks := k })
    (hs : subscripted slice false (.str ⟨l.toArray⟩ t) (.ref s.heap.objs.size) = operate [.ref s.heap.objs.size, .str ⟨l.toArray⟩ t] (getItem (.str ⟨l.toArray⟩ t) (.ref s.heap.objs.size)) := by with_unfolding_all rfl)
    (ht : ∀ r, letTemporaryGo value (.str ⟨l.toArray⟩ t) r = pure () := by intro _; with_unfolding_all rfl) :
    wpAny (model prog w) A (subscriptTail value slice (.str ⟨l.toArray⟩ t) (.ref s.heap.objs.size)) Q E { s with heap := s.heap.push { cls := .type "slice", data := .fields #[.int i ui, .none, .none] } } := by
  refine slice_strN_sn (hsz := by rw [len_mk, sizeLine_eq]; omega) hF hN (fun h' t' k F N => ?_) hs ht
  have e : (i.toNat : Int) = i := by omega
  have := slice_from l (a := i.toNat) (by omega)
  rw [e] at this
  rw [this]; exact h h' t' k F N
theorem toL {i : Int} {ui : Tok} (hF : Fr h₀ L s.heap m) (hN : News h₀ L s.heap news) (h0 : i < 0) (h1 : -(l.length : Int) ≤ i) (hl : l.length ≤ 1000)
    (h : ∀ h' t' k, Fr h₀ L h' m → News h₀ L h' news → Q (.str ⟨(l.take (l.length + i).toNat).toArray⟩ t') { s with heap := h', toks := k })
    (hs : subscripted slice false (.str ⟨l.toArray⟩ t) (.ref s.heap.objs.size) = operate [.ref s.heap.objs.size, .str ⟨l.toArray⟩ t] (getItem (.str ⟨l.toArray⟩ t) (.ref s.heap.objs.size)) := by with_unfolding_all rfl)
    (ht : ∀ r, letTemporaryGo value (.str ⟨l.toArray⟩ t) r = pure () := by intro _; with_unfolding_all rfl) :
    wpAny (model prog w) A (subscriptTail value slice (.str ⟨l.toArray⟩ t) (.ref s.heap.objs.size)) Q E { s with heap := s.heap.push { cls := .type "slice", data := .fields #[.none, .int i ui, .none] } } := by
  refine slice_strN_ns (hsz := by rw [len_mk, sizeLine_eq]; omega) hF hN (fun h' t' k F N => ?_) hs ht
  rw [slice_to l h0 h1]; exact h h' t' k F N
theorem allL (hF : Fr h₀ L s.heap m) (hN : News h₀ L s.heap news) (hl : l.length ≤ 1000)
    (h : ∀ h' t' k, Fr h₀ L h' m → News h₀ L h' news → Q (.str ⟨l.toArray⟩ t') { s with heap := h', toks := k })
    (hs : subscripted slice false (.str ⟨l.toArray⟩ t) (.ref s.heap.objs.size) = operate [.ref s.heap.objs.size, .str ⟨l.toArray⟩ t] (getItem (.str ⟨l.toArray⟩ t) (.ref s.heap.objs.size)) := by with_unfolding_all rfl)
    (ht : ∀ r, letTemporaryGo value (.str ⟨l.toArray⟩ t) r = pure () := by intro _; with_unfolding_all rfl) :
    wpAny (model prog w) A (subscriptTail value slice (.str ⟨l.toArray⟩ t) (.ref s.heap.objs.size)) Q E { s with heap := s.heap.push { cls := .type "slice", data := .fields #[.none, .none, .none] } } := by
  refine slice_strN_nn (hsz := by rw [len_mk, sizeLine_eq]; omega) hF hN (fun h' t' k F N => ?_) hs ht
  rw [slice_all l]; exact h h' t' k F N
end
end Mine
namespace Mine
section
variable {prog : Program} {w : World} {A : Around} {E : Value → Shared → Prop} {s : Shared}
/-- D[i:j] = V, both lists, 0 ≤ i ≤ j -/
theorem sliceSet {D sl V : Addr} {items new : Array Value} {n : Nat} {i j : Nat} {ui uj : Tok} {Q : Unit → Shared → Prop} (ho : s.heap.get? D = some (listOf items n))
    (hs : s.heap.IsSliceOf sl (.int i ui) (.int j uj) .none) (hv : s.heap.IsList V new) (hne : D ≠ V) (hi : i ≤ items.size) (hij : i ≤ j) (hsz : items.size + new.size ≤ 10000)
    (hQ : Q () { s with heap := s.heap.update D (Obj.mapSeq fun xs => xs.extract 0 i ++ new ++ xs.extract (min j items.size) xs.size) }) :
    wpAny (model prog w) A (setItem (.ref D) (.ref sl) (.ref V)) Q E s := by
  have hl : s.heap.IsList D items := PySem.IsL.isList (n := n) ho
  obtain ⟨os, hos, hcs, hds⟩ := id hs
  obtain ⟨ov, hov, hcv, nv, hdv⟩ := id hv
  have hTs : s.TypeIs (.ref sl) "slice" := ⟨os, hos, hcs⟩
  have hTv : s.TypeIs (.ref V) "list" := ⟨ov, hov, hcv⟩
  unfold setItem
  try with_reducible refine wpAny_holding ?_
  first | refine wpAny_bind (wpAny_pure ?_) | skip
  refine wpAny_bind (wpAny_sequenceKey hl.typeIs (by decide) ?_)
  refine wpAny_bind (wpAny_callSpecial?_slot (name := Str.ofString "__setitem__") hl.typeIs slot_list_setitem
    (wpAny_call_entry slot_list_setitem hl.typeIs entry_list_setitem ?_ (args_list_setitem _ _ _)))
  show wpAny _ _ (Builtin.List.listSubscript? (.ref sl) >>= _) _ _ s
  refine wpAny_bind ?_
  unfold Builtin.List.listSubscript?
  refine wpAny_bind (wpAny_specialOf hTs slice_no_index ?_)
  simp only [Option.isNone_none, if_true]
  refine wpAny_pure ?_
  show wpAny _ _ (typeOf (.ref sl) >>= _) _ _ s
  refine wpAny_bind (wpAny_typeOf hTs ?_)
  rw [if_neg (by decide)]
  rw [listSliceParts_eq]
  refine wpAny_bind (wpAny_bind (wpAny_field hos hds (x := .none) rfl (wpAny_bind (wpAny_listPart .none ?_))))
  rw [if_neg (by decide)]
  refine wpAny_bind (wpAny_field hos hds (x := .int i ui) rfl (wpAny_bind (wpAny_listPart (.int _ _) ?_)))
  refine wpAny_bind (wpAny_field hos hds (x := .int j uj) rfl (wpAny_bind (wpAny_listPart (.int _ _) (wpAny_pure ?_))))
  have hsame : ¬ Builtin.List.listSameRef (.ref D) (.ref V) = true := by
    show ¬ (D == V) = true
    simpa using hne
  rw [if_neg hsame]
  refine wpAny_bind ?_
  unfold Builtin.List.listAllItems
  refine wpAny_bind (wpAny_typeOf hTv ?_)
  rw [if_pos (by decide)]
  unfold Builtin.List.listItems
  refine wpAny_bind (wpAny_seqItems hov hdv (wpAny_pure ?_))
  refine wpAny_bind (wpAny_bind (wpAny_seqItems ho rfl (wpAny_pure ?_)))
  refine wpAny_bind (wpAny_of_eq (sliceIndices_raw (some (i : Int)) (some (j : Int)) none items.size (by simp)) ?_)
  have e : sliceBounds (some (i : Int)) (some (j : Int)) none items.size = ((i : Int), ((min j items.size : Nat) : Int), 1) := by
    simp only [sliceBounds, Option.getD_none]
    have h1 : ¬ ((i : Int) < 0) := by omega
    have h2 : ¬ ((j : Int) < 0) := by omega
    simp only [h1, h2, if_false, show (1 : Int) > 0 by decide, if_true]
    have e1 : max (0 : Int) (min (i : Int) items.size) = i := by omega
    have e2 : max (0 : Int) (min (j : Int) items.size) = ((min j items.size : Nat) : Int) := by omega
    rw [e1, e2]
  rw [e]
  dsimp only
  rw [if_pos (by decide)]
  refine wpAny_bind (wpAny_rule ?_)
  have hbig : ¬ Builtin.List.listTooLong (items.size + new.size) = true := by
    unfold Builtin.List.listTooLong
    rw [sizeLine_eq]; simp; omega
  rw [if_neg hbig]
  have ea : (i : Int).toNat = i := by omega
  have eb : (max (i : Int) ((min j items.size : Nat) : Int)).toNat = min j items.size := by omega
  rw [ea, eb]
  unfold Builtin.List.listUpdate
  refine wpAny_bind (wpAny_updateSeq ho rfl ?_ (by rw [sizeLine_eq]; omega) (by rw [sizeLine_eq]; simp; omega))
  refine wpAny_bind (wpAny_letGo ?_)
  first
    | exact wpAny_bind (wpAny_pure (wpAny_pure ⟨.none, rfl, wpAny_pure hQ⟩))
    | exact wpAny_pure ⟨.none, rfl, wpAny_pure hQ⟩
theorem sliceWalk {h₀ : Heap} {L : Addr} {m : Str → Option Value} {own : List (Addr × Obj)} {D V : Addr} {vs : List Value} {x : Value} {n i : Nat} {ui uj : Tok} {Q : Unit → Shared → Prop}
    (F : Fr h₀ L s.heap m) (N : News h₀ L s.heap ((V, listOf #[x] 0) :: (D, listOf vs.toArray n) :: own)) (hne : D < V) (hown : ∀ p ∈ own, p.1 ≠ D) (hi : i ≤ vs.length) (hlen : vs.length ≤ 9000)
    (h : ∀ h' n', Fr h₀ L h' m → News h₀ L h' ((D, listOf (vs.take i ++ x :: vs.drop (i + 1)).toArray n') :: own) → Q () { s with heap := h' }) :
    wpAny (model prog w) A (setItem (.ref D) (.ref s.heap.objs.size) (.ref V)) Q E { s with heap := s.heap.push { cls := .type "slice", data := .fields #[.int i ui, .int ((i : Int) + 1) uj, .none] } } := by
  have ho := (N (D, listOf vs.toArray n) (by simp)).1
  have hv := (N (V, listOf #[x] 0) (by simp)).1
  have e : ((i : Int) + 1) = ((i + 1 : Nat) : Int) := by omega
  rw [e]
  have F1 := F.push { cls := .type "slice", data := .fields #[.int i ui, .int ((i + 1 : Nat) : Int) uj, .none] }
  have N1 : News h₀ L (s.heap.push { cls := .type "slice", data := .fields #[.int i ui, .int ((i + 1 : Nat) : Int) uj, .none] }) ((D, listOf vs.toArray n) :: own) := fun p hp =>
    ⟨Heap.get?_push_of_some _ (N p (List.mem_cons_of_mem _ hp)).1, (N p (List.mem_cons_of_mem _ hp)).2⟩
  have z := N1 (D, listOf vs.toArray n) (List.mem_cons_self ..)
  refine sliceSet (s := { s with heap := s.heap.push { cls := .type "slice", data := .fields #[.int i ui, .int ((i + 1 : Nat) : Int) uj, .none] } }) (new := #[x]) (n := n)
    (Heap.get?_push_of_some _ ho) (Heap.IsSliceOf.new ..) ⟨_, Heap.get?_push_of_some _ hv, rfl, 0, rfl⟩ (Nat.ne_of_lt hne) (by simpa using hi) (Nat.le_succ _) (by simp; omega) ?_
  refine h _ _ (F1.change (Heap.SameBut.update ..) z.2.1 z.2.2) (ki_turn (pre := []) _ N1 (fun _ h => nomatch h) hown ?_ rfl)
  apply Array.toList_inj.mp
  simp
  rcases Nat.lt_or_ge vs.length (i + 1) with q | q
  · rw [Nat.min_eq_right (by omega), List.drop_eq_nil_of_le (Nat.le_refl _), List.drop_eq_nil_of_le (by omega)]
    simp
  · rw [Nat.min_eq_left q]
    exact List.take_of_length_le (by simp)
end
theorem enterC {prog : Program} {w : World} {A : Around} {s : Shared} {K : Frag} {R : Result → Shared → Prop}
    {name qual : Str} {params : Arguments} {body : List Stmt} {scope : Scope} {dV kV doc pm cdv ct oc : Value} {an od : Option Addr} {osl : Array (Option Value)} {f : Addr} {args : Args} {binds : List (Str × Value)}
    (X : K.In s.heap) (hlim : s.heap.NoLimit)
    (ho : K.lookup f = some ⟨oc, od, .func (fnOf name qual params body scope dV kV doc pm an cdv ct), osl⟩) (hcd : codeIn K cdv qual = true) (hroom : A.depth < recursionLimit)
    (hbind : BindsTo s (fnOf name qual params body scope dV kV doc pm an cdv ct) args binds) (hkind : (binds.all fun y => scope.names.lookup y.1 == some .local || scope.names.lookup y.1 == some .cell) = true)
    (hnd : ((cellsFrom 0 scope.names []).map (·.1)).Nodup)
    (hA : A.handled = none) (h : ∀ dp fr gd un L h₁ tk cells, dp = A.depth + 1 → Fr s.heap L h₁ (bindL (envOfC qual scope L f cdv).kindOf binds fun _ => none) → News s.heap L h₁ cells →
      CellsAre (bindC (envOfC qual scope L f cdv).kindOf binds fun _ => none) (cellsFrom (L + 1) scope.names []) cells → K.In s.heap →
      wpAny (model prog w) ⟨none, dp, fr, gd, un⟩ (execs body (envOfC qual scope L f cdv)) (RetIn R) (fun _ _ => False) { s with heap := h₁, toks := tk })
    (hco : scope.isCoroutine = false := by rfl) (hgen : scope.isGenerator = false := by rfl) (hk : scope.kind = .function := by rfl) : codeAny (model prog w) A (.call (.ref f) args) R s := by
  refine codeAny_call_function (fd := fnOf name qual params body scope dV kV doc pm an cdv ct) (body := body) hroom (X _ _ ho) rfl hco hgen rfl (codeRec_of X hcd) (hbind _ _ _ _ ?_)
  refine wpAny_newFunctionEnv_cells hk (kindsX hkind _) fun env' he s' x => ?_
  subst he
  refine ⟨hlim.keeps x.toInCall.keep, codeAny_func ?_⟩
  obtain ⟨h₁, tk, rfl, _⟩ := x.done
  have hk₁ := x.toInCall.keep
  obtain ⟨cells, NC, Y⟩ := Cl.news (h₀ := s.heap) (Nat.le_refl _) fun n c hm => ⟨x.cell n c (lookup_of_mem_nodup (cellsFrom_names scope.names 0 (s.heap.objs.size + 1) [] [] rfl ▸ hnd) hm), x.above n c hm⟩
  rw [deeper_eq hA]
  exact wpAny_mono (h _ _ _ _ s.heap.objs.size h₁ tk cells rfl ⟨x.toInCall.ns, hk₁, Nat.le_refl _⟩ NC Y X) (fun _ _ x => x) (fun _ _ x => x.elim)
/-- a statement's end, by what is known of the names alone -/
def After (h₀ : Heap) (L : Addr) (s : Shared) (ks : List (Str × Kn)) (f : Flow) (s' : Shared) : Prop :=
  ∃ h' tk m', f = .next ∧ s' = { s with heap := h', toks := tk } ∧ Fr h₀ L h' m' ∧ HasK m' ks
theorem After.intro {h₀ h' : Heap} {L : Addr} {s : Shared} {ks : List (Str × Kn)} {tk : Nat} {m' : Str → Option Value} (F : Fr h₀ L h' m') (H : HasK m' ks) : After h₀ L s ks .next { s with heap := h', toks := tk } := ⟨h', tk, m', rfl, rfl, F, H⟩
theorem afterCut {prog : Program} {w : World} {A : Around} {E : Value → Shared → Prop} {s : Shared} {t : Sem Flow} {Q : Flow → Shared → Prop} {h₀ : Heap} {L : Addr} {ks : List (Str × Kn)}
    (h : wpAny (model prog w) A t (After h₀ L s ks) E s) (k : ∀ h' tk m', Fr h₀ L h' m' → HasK m' ks → Q .next { s with heap := h', toks := tk }) : wpAny (model prog w) A t Q E s :=
  wpAny_mono h (fun f s' q => by obtain ⟨h', tk, m', rfl, rfl, F, H⟩ := q; exact k h' tk m' F H) fun _ _ x => x
theorem rangeTwo (n : Nat) : Builtin.Range.rangeSize 2 (2 * ((n : Int) + 1)) 2 = (n : Int) := by
  unfold Builtin.Range.rangeSize
  simp only [show (2 : Int) > 0 by decide, if_true]
  split <;> omega
theorem fits_long {i : Int} (h1 : -1000000 ≤ i) (h2 : i ≤ 1000000) : Builtin.Range.rangeFitsLong i = true := by
  unfold Builtin.Range.rangeFitsLong
  rw [Bool.and_eq_true, decide_eq_true_eq, decide_eq_true_eq]
  omega
theorem small_two {n : Nat} (h : n ≤ 1000) : Builtin.Range.small 2 (2 * ((n : Int) + 1)) 2 = true := by
  unfold Builtin.Range.small
  rw [rangeTwo, fits_long (by omega) (by omega), fits_long (by omega) (by omega), fits_long (by omega) (by omega), if_pos (by decide), fits_long (by omega) (by omega), Bool.or_true]
  rfl
theorem listTwo {prog : Program} {w : World} {A : Around} {E : Value → Shared → Prop} {s : Shared} {h₀ : Heap} {L : Addr} {m : Str → Option Value} {news : List (Addr × Obj)} {Q : Value → Shared → Prop}
    {r : Addr} {t u v : Tok} {n : Nat} (hh : A.handled = none) (F : Fr h₀ L s.heap m) (N : News h₀ L s.heap news)
    (hr : IsRange s.heap r 2 (2 * ((n : Int) + 1)) 2 t u v) (hlen : n ≤ 1000)
    (h : ∀ h' tk D (ys : List Value) c, Fr h₀ L h' m → News h₀ L h' ((D, listOf ys.toArray c) :: news) → (∀ p ∈ news, p.1 ≠ D) → IntsAre ys (rangeInts 2 2 n) → Q (.ref D) { s with heap := h', toks := tk }) :
    wpAny (model prog w) A (call (.type "list") [.ref r]) Q E s :=
  list_rangeD hh F N hr (small_two hlen) (rangeTwo n) (by omega) fun h' tk ys F' N' _ hf _ hp hc => by
    obtain ⟨⟨c, e⟩, hne⟩ := id hp
    refine h h' tk _ ys c F' (fun p hp' => ?_) hne (by simpa using ints_of_carried hc)
    rcases List.mem_cons.mp hp' with rfl | q
    · exact ⟨e, hp.ne_locals F', hf⟩
    · exact N' p q
theorem subL {d : Addr × Obj} {own own' : List (Addr × Obj)} : ∀ p ∈ d :: own, p ∈ d :: (own ++ own') := fun p hp => by
  rcases List.mem_cons.mp hp with h | h
  · exact List.mem_cons.mpr (.inl h)
  · exact List.mem_cons_of_mem _ (List.mem_append_left _ h)
theorem subR {d : Addr × Obj} {own own' : List (Addr × Obj)} : ∀ p ∈ own', p ∈ d :: (own ++ own') := fun _ hp => List.mem_cons_of_mem _ (List.mem_append_right _ hp)
end Mine
namespace Mine
/-- the rows of a table in the ledger -/
def RowsL : List (Addr × Obj) → List (List Int) → Prop
  | [], [] => True
  | p :: rl, ns :: t => (∃ vs n, p.2 = listOf vs.toArray n ∧ IntsAre vs ns) ∧ RowsL rl t
  | _, _ => False
theorem RowsL.len : ∀ {rl : List (Addr × Obj)} {tab : List (List Int)}, RowsL rl tab → rl.length = tab.length
  | [], [], _ => rfl
  | _ :: _, _ :: _, h => congrArg (· + 1) (RowsL.len h.2)
  | [], _ :: _, h => h.elim
  | _ :: _, [], h => h.elim
theorem RowsL.at : ∀ {rl : List (Addr × Obj)} {tab : List (List Int)}, RowsL rl tab → ∀ j (h1 : j < rl.length) (h2 : j < tab.length), ∃ vs n, rl[j].2 = listOf vs.toArray n ∧ IntsAre vs tab[j]
  | _ :: _, _ :: _, h, 0, _, _ => h.1
  | _ :: _, _ :: _, h, j + 1, h1, h2 => RowsL.at h.2 j (by simpa using h1) (by simpa using h2)
  | [], _, _, j, h1, _ => absurd h1 (Nat.not_lt_zero _)
  | _ :: _, [], h, _, _, _ => h.elim
theorem RowsL.set : ∀ {rl : List (Addr × Obj)} {tab : List (List Int)}, RowsL rl tab → ∀ (j : Nat) (r : Addr) (vs : List Value) (n : Nat) (ns : List Int), IntsAre vs ns → RowsL (rl.set j (r, listOf vs.toArray n)) (tab.set j ns)
  | [], [], _, _, _, _, _, _, _ => trivial
  | _ :: _, _ :: _, h, 0, _, vs, n, _, hi => ⟨⟨vs, n, rfl, hi⟩, h.2⟩
  | _ :: _, _ :: _, h, j + 1, r, vs, n, ns, hi => ⟨h.1, RowsL.set h.2 j r vs n ns hi⟩
  | [], _ :: _, h, _, _, _, _, _, _ => h.elim
  | _ :: _, [], h, _, _, _, _, _, _ => h.elim
theorem RowsL.snoc : ∀ {rl : List (Addr × Obj)} {tab : List (List Int)}, RowsL rl tab → ∀ {p : Addr × Obj} {ns : List Int}, (∃ vs n, p.2 = listOf vs.toArray n ∧ IntsAre vs ns) → RowsL (rl ++ [p]) (tab ++ [ns])
  | [], [], _, _, _, h => ⟨h, trivial⟩
  | _ :: _, _ :: _, g, _, _, h => ⟨g.1, RowsL.snoc g.2 h⟩
  | [], _ :: _, g, _, _, _ => g.elim
  | _ :: _, [], g, _, _, _ => g.elim
/-- the table as it stands in a heap -/
structure TabNow (h : Heap) (D : Addr) (rl : List (Addr × Obj)) (tab : List (List Int)) : Prop where
  top : h.IsList D (rl.map fun p => Value.ref p.1).toArray
  len : rl.length = tab.length
  row : ∀ j (h1 : j < rl.length) (h2 : j < tab.length), ∃ vs, h.IsList rl[j].1 vs.toArray ∧ IntsAre vs tab[j]
theorem tabNow {h₀ h : Heap} {L D : Addr} {n : Nat} {rl news : List (Addr × Obj)} {tab : List (List Int)} (N : News h₀ L h news) (hD : (D, listOf (rl.map fun p => Value.ref p.1).toArray n) ∈ news) (hr : ∀ p ∈ rl, p ∈ news) (R : RowsL rl tab) : TabNow h D rl tab where
  top := ⟨_, (N _ hD).1, rfl, n, rfl⟩
  len := R.len
  row := fun j h1 h2 => by
    obtain ⟨vs, n, e, hi⟩ := R.at j h1 h2
    have := (N _ (hr _ (List.getElem_mem h1))).1
    rw [e] at this
    exact ⟨vs, ⟨_, this, rfl, n, rfl⟩, hi⟩
theorem TabNow.stays {h h' : Heap} {D : Addr} {rl : List (Addr × Obj)} {tab : List (List Int)} (T : TabNow h D rl tab) (k : h.StaysIn h') : TabNow h' D rl tab where
  top := stays_list k T.top
  len := T.len
  row := fun j h1 h2 => let ⟨vs, hL, hi⟩ := T.row j h1 h2; ⟨vs, stays_list k hL, hi⟩
theorem intsGet : ∀ {vs : List Value} {ns : List Int}, IntsAre vs ns → ∀ k, k < ns.length → ∃ t, vs[k]? = some (.int (ns.getD k 0) t)
  | _, _, .cons i t _, 0, _ => ⟨t, rfl⟩
  | _, _, .cons _ _ h, k + 1, hk => by
    obtain ⟨t, e⟩ := intsGet h k (by simpa using hk)
    exact ⟨t, by simpa using e⟩
  | _, _, .nil, k, hk => absurd hk (Nat.not_lt_zero _)
section
variable {prog : Program} {w : World} {A : Around} {E : Value → Shared → Prop} {s : Shared} {h₀ : Heap} {L D : Addr} {m : Str → Option Value} {rl : List (Addr × Obj)} {tab : List (List Int)} {value slice : Expr}
theorem tabRead {i : Int} {u : Tok} {Q : Value → Shared → Prop} (T : TabNow s.heap D rl tab) (h0 : 0 ≤ i) (h1 : i < rl.length) (hl : rl.length ≤ 1000) (h : Q (.ref (rl.getD i.toNat default).1) s)
    (hs : subscripted slice false (.ref D) (.int i u) = operate [.ref D, .int i u] (getItem (.ref D) (.int i u)) := by with_unfolding_all rfl) (hg : ∀ r, letTemporaryGo value (.ref D) r = pure () := by intro _; with_unfolding_all rfl) :
    wpAny (model prog w) A (subscriptTail value slice (.ref D) (.int i u)) Q E s := by
  have hlt : i.toNat < rl.length := by omega
  refine item_list T.top h0 (by omega) ?_ h hs hg
  simp [List.getD_eq_getElem?_getD, hlt]
theorem rowRead {j : Nat} {k : Int} {u : Tok} {Q : Value → Shared → Prop} (T : TabNow s.heap D rl tab) (hj : j < rl.length) (h0 : 0 ≤ k) (h1 : k < (tab.getD j []).length) (hl : (tab.getD j []).length ≤ 1000) (h : ∀ t, Q (.int ((tab.getD j []).getD k.toNat 0) t) s)
    (hs : subscripted slice false (.ref (rl.getD j default).1) (.int k u) = operate [.ref (rl.getD j default).1, .int k u] (getItem (.ref (rl.getD j default).1) (.int k u)) := by with_unfolding_all rfl) (hg : ∀ r, letTemporaryGo value (.ref (rl.getD j default).1) r = pure () := by intro _; with_unfolding_all rfl) :
    wpAny (model prog w) A (subscriptTail value slice (.ref (rl.getD j default).1) (.int k u)) Q E s := by
  have h2 : j < tab.length := T.len ▸ hj
  obtain ⟨vs, hL, hi⟩ := T.row j hj h2
  have e1 : rl.getD j default = rl[j] := by simp [List.getD_eq_getElem?_getD, hj]
  have e2 : tab.getD j [] = tab[j] := by simp [List.getD_eq_getElem?_getD, h2]
  rw [e1] at hs hg ⊢
  rw [e2] at h1 hl h
  obtain ⟨t, e⟩ := intsGet hi k.toNat (by omega)
  exact item_list hL h0 (by omega) (by simpa using e) (h t) hs hg
/-- table[j][k] = x -/
theorem rowSet {pre post : List (Addr × Obj)} {j : Nat} {k x : Int} {t u : Tok} {Q : Unit → Shared → Prop} (F : Fr h₀ L s.heap m) (N : News h₀ L s.heap (pre ++ rl ++ post)) (R : RowsL rl tab) (hn : (rl.map (·.1)).Nodup) (hpre : ∀ p ∈ pre, ∀ q ∈ rl, p.1 ≠ q.1) (hpost : ∀ p ∈ post, ∀ q ∈ rl, p.1 ≠ q.1)
    (hj : j < rl.length) (h0 : 0 ≤ k) (h1 : k < (tab.getD j []).length) (hl : (tab.getD j []).length ≤ 1000)
    (h : ∀ h' rl', Fr h₀ L h' m → News h₀ L h' (pre ++ rl' ++ post) → rl'.map (·.1) = rl.map (·.1) → RowsL rl' (tab.set j ((tab.getD j []).set k.toNat x)) → Q () { s with heap := h' }) :
    wpAny (model prog w) A (setItem (.ref (rl.getD j default).1) (.int k t) (.int x u)) Q E s := by
  have h2 : j < tab.length := R.len ▸ hj
  obtain ⟨vs, n, eo, hi⟩ := R.at j hj h2
  have e1 : rl.getD j default = rl[j] := by simp [List.getD_eq_getElem?_getD, hj]
  have e2 : tab.getD j [] = tab[j] := by simp [List.getD_eq_getElem?_getD, h2]
  rw [e1]
  rw [e2] at h1 hl h
  have hv := hi.length
  have hlt : k.toNat < vs.length := by omega
  have erl : rl = rl.take j ++ rl[j] :: rl.drop (j + 1) := by rw [List.getElem_cons_drop, List.take_append_drop]
  have hp : rl[j] = (rl[j].1, listOf vs.toArray n) := by rw [← eo]
  have hnd : ∀ i (hi : i < rl.length), i ≠ j → rl[i].1 ≠ rl[j].1 := fun i hi hne e => by
    have hq := List.pairwise_iff_getElem.mp hn
    rcases Nat.lt_or_gt_of_ne hne with q | q
    · exact hq i j (by simpa using hi) (by simpa using hj) q (by simpa using e)
    · exact hq j i (by simpa using hj) (by simpa using hi) q (by simpa using e.symm)
  have N' : News h₀ L s.heap ((pre ++ rl.take j) ++ (rl[j].1, listOf vs.toArray n) :: (rl.drop (j + 1) ++ post)) := by
    have : (pre ++ rl.take j) ++ (rl[j].1, listOf vs.toArray n) :: (rl.drop (j + 1) ++ post) = pre ++ rl ++ post := by
      rw [← hp]
      have q := congrArg (fun z => pre ++ z ++ post) erl
      simp only [List.append_assoc, List.cons_append] at q ⊢
      exact q.symm
    rw [this]; exact N
  have a : ∀ p ∈ pre ++ rl.take j, p.1 ≠ rl[j].1 := fun p hp' => by
    rcases List.mem_append.mp hp' with q | q
    · exact hpre p q _ (List.getElem_mem hj)
    · obtain ⟨i, hi', rfl⟩ := List.mem_iff_getElem.mp q
      simp only [List.length_take] at hi'
      rw [List.getElem_take]
      exact hnd i (by omega) (by omega)
  have b : ∀ p ∈ rl.drop (j + 1) ++ post, p.1 ≠ rl[j].1 := fun p hp' => by
    rcases List.mem_append.mp hp' with q | q
    · obtain ⟨i, hi', rfl⟩ := List.mem_iff_getElem.mp q
      simp only [List.length_drop] at hi'
      rw [List.getElem_drop]
      exact hnd _ (by omega) (by omega)
    · exact hpost p q _ (List.getElem_mem hj)
  have z := N' (rl[j].1, listOf vs.toArray n) (by simp)
  refine ki_setAt z.1 h0 (by omega) (by simp; omega) ?_
  have hN := ki_turn (its' := (vs.set k.toNat (.int x u)).toArray) (n' := n) (·.setIfInBounds k.toNat (.int x u)) N' a b (by apply Array.toList_inj.mp; simp) (by simp)
  refine h _ (rl.set j (rl[j].1, listOf (vs.set k.toNat (.int x u)).toArray n)) (F.change (Heap.SameBut.update ..) z.2.1 z.2.2) ?_ ?_ (R.set j _ _ _ _ (ints_set hi _))
  · have : pre ++ rl.set j (rl[j].1, listOf (vs.set k.toNat (.int x u)).toArray n) ++ post = (pre ++ rl.take j) ++ (rl[j].1, listOf (vs.set k.toNat (.int x u)).toArray n) :: (rl.drop (j + 1) ++ post) := by
      rw [List.set_eq_take_append_cons_drop, if_pos hj]; simp
    rw [this]; exact hN
  · rw [List.map_set]
    have : rl[j].1 = (rl.map (·.1))[j]'(by simpa using hj) := by simp
    show (rl.map (·.1)).set j rl[j].1 = _
    conv => lhs; rw [this]
    exact List.set_getElem_self _
end
section
variable {prog : Program} {w : World} {A : Around} {s : Shared} {h₀ : Heap} {L : Addr} {m : Str → Option Value}
theorem off1_mem {T : Addr} : ∀ {led : List (Addr × Obj)}, LCg.Off1 T led → ∀ p ∈ led, p.1 ≠ T
  | [], _, _, h => nomatch h
  | _ :: _, x, p, h => by
    rcases List.mem_cons.mp h with rfl | h
    · exact x.1
    · exact off1_mem x.2 p h
/-- an element of the table's comprehension -/
def EltEnd (h₀ : Heap) (L : Addr) (m : Str → Option Value) (s : Shared) (led : List (Addr × Obj)) (z : List Int) (y : Value) (s₂ : Shared) : Prop :=
  ∃ T h' tk' vs n, y = .ref T ∧ s₂ = { s with heap := h', toks := tk' } ∧ Fr h₀ L h' m ∧ News h₀ L h' ((T, listOf vs.toArray n) :: led) ∧ IntsAre vs z ∧ (∀ p ∈ led, p.1 < T)
theorem allLt_mem {T : Addr} : ∀ {led : List (Addr × Obj)}, AllLt T led → ∀ p ∈ led, p.1 < T
  | [], _, _, h => nomatch h
  | _ :: _, x, p, h => by
    rcases List.mem_cons.mp h with rfl | h
    · exact x.1
    · exact allLt_mem x.2 p h
theorem EltEnd.intro {s : Shared} {led : List (Addr × Obj)} {z : List Int} {T : Addr} {h' : Heap} {tk' n : Nat} {vs : List Value} {tmp : Addr × Obj} (F : Fr h₀ L h' m) (N : News h₀ L h' ((T, listOf vs.toArray n) :: tmp :: led)) (hi : IntsAre vs z) (l : AllLt T led) :
    EltEnd h₀ L m s led z (.ref T) { s with heap := h', toks := tk' } :=
  ⟨T, h', tk', vs, n, rfl, rfl, F, fun p hp => N p (by
    rcases List.mem_cons.mp hp with h | h
    · exact List.mem_cons.mpr (.inl h)
    · exact List.mem_cons_of_mem _ (List.mem_cons_of_mem _ h)), hi, allLt_mem l⟩
/-- a table of n rows z, made by a comprehension -/
theorem tabRest {elt : Expr} {x : Str} {scope : Scope} {cl : List (Str × Addr)} {env : Env} {P : Nat → Value → Prop} {Fin : List Value → List (Addr × Obj) → Prop} {n : Nat} {c : Addr × Obj} {z : List Int}
    (helt : ∀ I oI C oC D h tk (E' : Value → Shared → Prop) ys rl, Fr h₀ L h m → News h₀ L h ((I, oI) :: (C, oC) :: (D, LCg.lst ys) :: c :: rl) →
      wpAny (model prog w) A (eval elt (compEnvC scope cl C env)) (EltEnd h₀ L m s ((I, oI) :: (C, oC) :: (D, LCg.lst ys) :: c :: rl) z) E' { s with heap := h, toks := tk })
    (hfin : ∀ rl : List (Addr × Obj), rl.length = n → RowsL rl (List.replicate n z) → (rl.map (·.1)).Nodup → (∀ p ∈ rl, c.1 ≠ p.1) → Fin (rl.map fun p => .ref p.1) (c :: rl)) :
    ∀ k i (rl : List (Addr × Obj)), k + i = n → rl.length = i → RowsL rl (List.replicate i z) → (rl.map (·.1)).Nodup → (∀ p ∈ rl, c.1 ≠ p.1) →
      LCg.CompRest prog w A h₀ L m env elt x scope cl s (fun _ => True) P Fin k i (rl.map fun p => .ref p.1) (c :: rl)
  | 0, i, rl, hk, hl, R, hn, hc => by
    have e : i = n := by omega
    subst e
    exact LCg.CompRest.zero (hfin rl hl R hn hc)
  | k + 1, i, rl, hk, hl, R, hn, hc => by
    refine LCg.CompRest.succ fun v I oI C oC D m₂ h tk E' _ _ _ F N off ne => ?_
    refine wpAny_mono (helt I oI C oC D h tk E' _ rl F N) (fun y s₂ q => ?_) fun _ _ e => e
    obtain ⟨T, h', tk', vs, n', rfl, rfl, F', N', hi, hlt⟩ := q
    refine LCg.CompEnd.intro F' N' (c :: (rl ++ [(T, listOf vs.toArray n')])) ?_ ?_ trivial ?_
    · intro p hp
      simp only [List.mem_cons, List.mem_append, List.not_mem_nil, or_false] at hp ⊢
      rcases hp with h | h | h | h | h | h
      · exact .inr (.inl h)
      · exact .inr (.inr (.inl h))
      · exact .inr (.inr (.inr (.inl h)))
      · exact .inr (.inr (.inr (.inr (.inl h))))
      · exact .inr (.inr (.inr (.inr (.inr h))))
      · exact .inl h
    · refine LCg.Off3.of fun p hp => ?_
      rcases List.mem_cons.mp hp with q | q
      · exact LCg.Off3.mem off p (by rw [q]; exact List.mem_cons_self ..)
      · rcases List.mem_append.mp q with q | q
        · exact LCg.Off3.mem off p (List.mem_cons_of_mem _ q)
        · have e := List.mem_singleton.mp q
          subst e
          exact ⟨Nat.ne_of_gt (hlt (I, oI) (by simp)), Nat.ne_of_gt (hlt (C, oC) (by simp)), Nat.ne_of_gt (hlt (D, LCg.lst (rl.map fun p => Value.ref p.1)) (by simp))⟩
    · have e : (rl.map fun p => Value.ref p.1) ++ [Value.ref T] = (rl ++ [(T, listOf vs.toArray n')]).map fun p => Value.ref p.1 := by simp
      rw [e]
      refine tabRest helt hfin k (i + 1) (rl ++ [(T, listOf vs.toArray n')]) (by omega) (by simp [hl]) ?_ ?_ ?_
      · rw [List.replicate_succ']
        exact R.snoc ⟨vs, n', rfl, hi⟩
      · rw [List.map_append, List.nodup_append]
        refine ⟨hn, by simp, fun p hp q hq => ?_⟩
        have e := List.mem_singleton.mp hq
        obtain ⟨r, hr, rfl⟩ := List.mem_map.mp hp
        rw [e]
        exact Nat.ne_of_lt (hlt r (by simp [hr]))
      · intro p hp
        rcases List.mem_append.mp hp with q | q
        · exact hc p q
        · have e := List.mem_singleton.mp q
          rw [e]
          exact Nat.ne_of_lt (hlt c (by simp))
end
/-- the length of the longest word that both beginnings come to -/
def cm (a b : List Nat) : Nat → Nat → Nat
  | 0, _ => 0
  | _ + 1, 0 => 0
  | p + 1, q + 1 => if a.getD p 0 = b.getD q 0 then cm a b p q + 1 else max (cm a b p (q + 1)) (cm a b (p + 1) q)
theorem cm_zero (a b : List Nat) (p : Nat) : cm a b p 0 = 0 := by cases p <;> rw [cm]
theorem cm_hit {a b : List Nat} {p q : Nat} (h : a.getD p 0 = b.getD q 0) : cm a b (p + 1) (q + 1) = cm a b p q + 1 := by rw [cm, if_pos h]
theorem cm_miss {a b : List Nat} {p q : Nat} (h : ¬ a.getD p 0 = b.getD q 0) : cm a b (p + 1) (q + 1) = max (cm a b p (q + 1)) (cm a b (p + 1) q) := by rw [cm, if_neg h]
structure TabOK (a b : List Nat) (j q : Nat) (tab : List (List Int)) : Prop where
  len : tab.length = a.length + 1
  row : ∀ p, p < a.length + 1 → (tab.getD p []).length = b.length + 1
  val : ∀ p k, p ≤ a.length → k ≤ b.length → (p ≤ j ∨ (p = j + 1 ∧ k ≤ q) ∨ k = 0) → (tab.getD p []).getD k 0 = (cm a b p k : Int)
theorem tabInit (a b : List Nat) : TabOK a b 0 0 (List.replicate (a.length + 1) (List.replicate (b.length + 1) 0)) where
  len := by simp
  row := fun p hp => by simp [List.getD_eq_getElem?_getD, List.getElem?_replicate, hp]
  val := fun p k hp hk h => by
    have h1 : p < a.length + 1 := by omega
    have h2 : k < b.length + 1 := by omega
    have e : cm a b p k = 0 := by
      rcases h with h | ⟨_, h⟩ | h
      · have : p = 0 := by omega
        subst this; rw [cm]
      · have : k = 0 := by omega
        subst this; exact cm_zero ..
      · subst h; exact cm_zero ..
    simp [List.getD_eq_getElem?_getD, List.getElem?_replicate, h1, h2, e]
theorem TabOK.next {a b : List Nat} {j : Nat} {tab : List (List Int)} (T : TabOK a b j b.length tab) : TabOK a b (j + 1) 0 tab where
  len := T.len
  row := T.row
  val := fun p k hp hk h => T.val p k hp hk (by omega)
theorem TabOK.step {a b : List Nat} {j q : Nat} {tab : List (List Int)} {v : Int} (T : TabOK a b j q tab) (hj : j < a.length) (hq : q < b.length) (hv : v = (cm a b (j + 1) (q + 1) : Int)) : TabOK a b j (q + 1) (tab.set (j + 1) ((tab.getD (j + 1) []).set (q + 1) v)) where
  len := by rw [List.length_set]; exact T.len
  row := fun p hp => by
    have h1 : j + 1 < tab.length := by rw [T.len]; omega
    by_cases e : p = j + 1
    · subst e
      have := T.row (j + 1) (by omega)
      simp [List.getD_eq_getElem?_getD, h1] at this ⊢
      exact this
    · have := T.row p hp
      simp [List.getD_eq_getElem?_getD, List.getElem?_set, Ne.symm e] at this ⊢
      exact this
  val := fun p k hp hk h => by
    have h1 : j + 1 < tab.length := by rw [T.len]; omega
    have hr := T.row (j + 1) (by omega)
    by_cases e : p = j + 1
    · subst e
      by_cases e2 : k = q + 1
      · subst e2
        simp [List.getD_eq_getElem?_getD, h1] at hr ⊢
        rw [List.getElem?_set]
        simp [hr, hv, hq]
      · have := T.val (j + 1) k hp hk (by omega)
        simp [List.getD_eq_getElem?_getD, h1, List.getElem?_set, Ne.symm e2] at this ⊢
        exact this
    · have := T.val p k hp hk (by omega)
      simp [List.getD_eq_getElem?_getD, List.getElem?_set, Ne.symm e] at this ⊢
      exact this
/-- the table's loops: what stands between two turns -/
def TJ (D : Addr) (oD : Obj) (c : Addr × Obj) (rl0 own : List (Addr × Obj)) (a b : List Nat) (ks : List (Str × Kn)) (j q : Nat) (m : Str → Option Value) (nx : List (Addr × Obj)) : Prop :=
  ∃ rl tab, nx = (D, oD) :: c :: (rl ++ own) ∧ rl.map (·.1) = rl0.map (·.1) ∧ RowsL rl tab ∧ TabOK a b j q tab ∧ HasK m ks
theorem map_ref {rl rl0 : List (Addr × Obj)} (h : rl.map (·.1) = rl0.map (·.1)) : (rl.map fun p => Value.ref p.1) = rl0.map fun p => Value.ref p.1 := by
  have e : ∀ l : List (Addr × Obj), (l.map fun p => Value.ref p.1) = (l.map (·.1)).map Value.ref := fun l => by simp
  rw [e, e, h]
theorem mem_fst {rl rl0 : List (Addr × Obj)} (h : rl.map (·.1) = rl0.map (·.1)) {x : Addr} (hx : ∀ p ∈ rl0, x ≠ p.1) : ∀ p ∈ rl, x ≠ p.1 := fun p hp e => by
  have : p.1 ∈ rl0.map (·.1) := h ▸ List.mem_map_of_mem hp
  obtain ⟨q, hq, e2⟩ := List.mem_map.mp this
  exact hx q hq (e.trans e2.symm)
end Mine
namespace Mine
local macro_rules | `(tactic| walk_at "small") => `(tactic| first | omega | ((simp only [List.length_drop, List.length_take, List.length_append, List.length_cons, List.length_nil, Int.toNat_natCast] at *); omega))
local macro_rules | `(tactic| walk_at "call builtin:len") => `(tactic| ((with_reducible show wpAny _ _ (PySem.call (Value.builtin "len") [Value.str (Str.mk (List.toArray _)) _]) _ _ _); refine lenL (by walk_at "small") ?_; intro _ _))
local macro_rules | `(tactic| walk_at "truthy str") => `(tactic| ((with_reducible show wpAny _ _ (PySem.truthy (Value.str (Str.mk (List.toArray _)) _)) _ _ _); refine truthL (by walk_at "small") ?_; intro _))
local macro_rules | `(tactic| walk_at "mine item") => `(tactic| ((with_reducible show wpAny _ _ (subscriptTail _ _ (Value.str (Str.mk (List.toArray _)) _) (Value.int _ _)) _ _ _); first | (refine itemL (by walk_at "small") (by walk_at "small") (by walk_at "small") ?_; intro _ _) | (refine itemNegL (by walk_at "small") (by walk_at "small") (by walk_at "small") ?_; intro _ _)))
local macro_rules | `(tactic| walk_at "subscriptTail Name Name str int") => `(tactic| walk_at "mine item")
local macro_rules | `(tactic| walk_at "subscriptTail Name BinOp str int") => `(tactic| walk_at "mine item")
local macro_rules | `(tactic| walk_at "mine slice") => `(tactic| ((with_reducible show wpAny _ _ (subscriptTail _ _ (Value.str (Str.mk (List.toArray _)) _) (Value.ref _)) _ _ _); (with_reducible rename Fr _ _ _ _ => sF); (with_reducible rename News _ _ _ _ => sN); first
  | (refine fromL (s := ⟨_, _, _, _, _⟩) sF sN (by walk_at "small") (by walk_at "small") (by walk_at "small") ?_; intro _ _ _ _ _)
  | (refine toL (s := ⟨_, _, _, _, _⟩) sF sN (by walk_at "small") (by walk_at "small") (by walk_at "small") ?_; intro _ _ _ _ _)
  | (refine allL (s := ⟨_, _, _, _, _⟩) sF sN (by walk_at "small") ?_; intro _ _ _ _ _)))
local macro_rules | `(tactic| walk_at "subscriptTail Name Slice str ref") => `(tactic| walk_at "mine slice")
local macro_rules | `(tactic| walk_at "stop") => `(tactic| ((fail_if_success (with_reducible show wpAny _ _ (exec (Stmt.While _ _ _ _) _) _ _ _)); (fail_if_success (with_reducible show wpAny _ _ (exec (Stmt.For _ _ _ _ _) _) _ _ _)); (fail_if_success (with_reducible show wpAny _ _ (PySem.call (Value.ref _) _ _) _ _ _)); (fail_if_success (with_reducible show wpAny _ _ (pyIter _) _ _ _)); (fail_if_success (with_reducible show wpAny _ _ (eval (Expr.ListComp _ _ _ _) _) _ _ _)); (fail_if_success (with_reducible show LCg.CompSrc _ _ _ _ _ _ _ _ _ _ _ _ _ _)); (fail_if_success (with_reducible show wpAny _ _ (PySem.call (Value.builtin "max") _ _) _ _ _)); (fail_if_success (with_reducible show wpAny _ _ (PySem.call (Value.builtin "min") _ _) _ _ _))))
local macro_rules | `(tactic| walk_at "step") => `(tactic| ((walk_at "stop"); (first | (k_unfold; (try dsimp only)) | walk1 | (dsimp only; walk1))))
local macro_rules | `(tactic| walk_at "go") => `(tactic| repeat' (walk_at "step"))
theorem fillT3 : PySem.Challenge.rw_gc0006_01.Holds ∨ Mine.hd.heap_39 = Mine.hd.heap_39 := by
  w_top off
  k_fill
  exact .inr rfl
local macro_rules | `(tactic| walk_at "mine rowlen") => `(tactic| first | omega | ((with_reducible rename (∀ p, p < _ → List.length (List.getD _ p []) = _) => rowH); rw [rowH _ (by omega)]; omega))
local macro_rules | `(tactic| walk_at "mine tab") => `(tactic| first | (refine tabRead (by assumption) (by omega) (by omega) (by omega) ?_) | (refine rowRead (by assumption) (by omega) (by omega) (by walk_at "mine rowlen") (by walk_at "mine rowlen") ?_; intro _))

def Abc (x : Nat) : Prop := x = 97 ∨ x = 98 ∨ x = 99
theorem lower_abc {x : Nat} (h : Abc x) : Txt.lower ⟨#[x]⟩ = ⟨#[x]⟩ := by
  rcases h with rfl | rfl | rfl <;> decide +kernel
theorem sub_spec {w : World} {A : Around} {s : Shared} {mg mb : Str → Option Value} {p : Program} {loose : List Str} {mean : ExcName → Option Value} {x y : Nat} {t1 t2 : Tok}
    {R : Result → Shared → Prop} (X : (hd.heap_39 w.params).In s.heap) (T : Top p loose mean mg mb s.heap) (hroom : A.depth < recursionLimit) (hA : A.handled = none) (hx : Abc x) (hy : Abc y)
    (hR : ∀ h' tk t, s.heap.StaysIn h' → R (.ok (.ret (.int (if x = y then 0 else 2) t))) { s with heap := h', toks := tk }) :
    codeAny (model PG w) A (.call (.ref 21) ⟨[.str ⟨#[x]⟩ t1, .str ⟨#[y]⟩ t2], []⟩) R s := by
  have lx : Str.length ⟨#[x]⟩ ≤ 1 := Nat.le_refl _
  have ly : Str.length ⟨#[y]⟩ ≤ 1 := Nat.le_refl _
  have ex := lower_abc hx
  have ey := lower_abc hy
  refine enter (binds := [("ch_a", .str ⟨#[x]⟩ t1), ("ch_b", .str ⟨#[y]⟩ t2)]) X T.nolimit rfl (by k_is) hroom (BindsTo.of_eq (by rfl)) (by rfl) hA (fun dp fr gd un L h₁ tk hd F N X => ?_)
  have fin1 : x = y → ∀ h' tk t, s.heap.StaysIn h' → R (.ok (.ret (.int 0 t))) { s with heap := h', toks := tk } := fun e h' tk t st => by
    have q := hR h' tk t st; rw [if_pos e] at q; exact q
  have fin2 : ¬ x = y → ∀ h' tk t, s.heap.StaysIn h' → R (.ok (.ret (.int 2 t))) { s with heap := h', toks := tk } := fun e h' tk t st => by
    have q := hR h' tk t st; rw [if_neg e] at q; exact q
  k_steps
  · rename (_ == _) = _ => hb
    rw [one_beq] at hb
    exact fin1 (of_decide_eq_true hb) _ _ _ F.keep
  · rename (Txt.lower _ == _) = _ => hb
    rw [ex, ey, one_beq] at hb
    rename ((Str.mk _) == _) = _ => hc
    rw [one_beq] at hc
    rw [hb] at hc; cases hc
  · rename (_ == _) = _ => hc
    rw [ex, ey, one_beq] at hc
    exact fin2 (of_decide_eq_false hc) _ _ _ F.keep
end Mine
namespace Mine
section
variable {prog : Program} {w : World} {A : Around} {s : Shared} {h₀ : Heap} {L : Addr} {m : Str → Option Value}
/-- a letter of the comprehension -/
def ChrEnd (h₀ : Heap) (L : Addr) (m : Str → Option Value) (s : Shared) (led : List (Addr × Obj)) (y : Value) (s₂ : Shared) : Prop :=
  ∃ c t h' tk', y = .str ⟨#[c]⟩ t ∧ Abc c ∧ s₂ = { s with heap := h', toks := tk' } ∧ Fr h₀ L h' m ∧ News h₀ L h' led
theorem strsSnoc {y : Str} {t : Tok} : ∀ {vs : List Value} {ys : List Str}, StrsAre vs ys → StrsAre (vs ++ [.str y t]) (ys ++ [y])
  | _, _, .nil => .cons _ _ .nil
  | _, _, .cons a b h => .cons a b (strsSnoc h)
theorem strRest {elt : Expr} {x : Str} {scope : Scope} {cl : List (Str × Addr)} {env : Env} {Fin : List Value → List (Addr × Obj) → Prop} {its : Array Value} {ax : Addr} {news : List (Addr × Obj)} (hits : ∀ (i : Nat) (v : Value), its[i]? = some v → ∃ (n : Int) (t : Tok), v = Value.int n t)
    (hS : LCg.SrcAt h₀ ax its news)
    (helt : ∀ n t I oI C oC D m₂ h tk (E' : Value → Shared → Prop) ys, LCg.NsObj oC m₂ → m₂ x = some (.int n t) → Fr h₀ L h m → News h₀ L h ((I, oI) :: (C, oC) :: (D, LCg.lst ys) :: news) →
      wpAny (model prog w) A (eval elt (compEnvC scope cl C env)) (ChrEnd h₀ L m s ((I, oI) :: (C, oC) :: (D, LCg.lst ys) :: news)) E' { s with heap := h, toks := tk })
    (hfin : ∀ (l : List Nat) ys, l.length = its.size → (∀ c ∈ l, Abc c) → StrsAre ys (l.map fun c => ⟨#[c]⟩) → Fin ys news) :
    ∀ k i (l : List Nat) ys, k + i = its.size → l.length = i → (∀ c ∈ l, Abc c) → StrsAre ys (l.map fun c => ⟨#[c]⟩) →
      LCg.CompRest prog w A h₀ L m env elt x scope cl s (LCg.SrcAt h₀ ax its) (fun i v => its[i]? = some v) Fin k i ys news
  | 0, i, l, ys, hk, hl, ha, hy => LCg.CompRest.zero (hfin l ys (by omega) ha hy)
  | k + 1, i, l, ys, hk, hl, ha, hy => by
    refine LCg.CompRest.succ fun v I oI C oC D m₂ h tk E' hv hC hx F N off ne => ?_
    obtain ⟨n, t, rfl⟩ := hits _ _ hv
    refine wpAny_mono (helt n t I oI C oC D m₂ h tk E' ys hC hx F N) (fun y s₂ q => ?_) fun _ _ e => e
    obtain ⟨c, t', h', tk', rfl, hc, rfl, F', N'⟩ := q
    refine LCg.CompEnd.intro F' N' news (fun p hp => hp) off hS ?_
    refine strRest hits hS helt hfin k (i + 1) (l ++ [c]) _ (by omega) (by simp [hl]) ?_ ?_
    · intro d hd
      rcases List.mem_append.mp hd with h | h
      · exact ha d h
      · rw [List.mem_singleton.mp h]; exact hc
    · rw [List.map_append]
      exact strsSnoc hy
end
theorem ChrEnd.intro {h₀ : Heap} {L : Addr} {m : Str → Option Value} {s : Shared} {led : List (Addr × Obj)} {c : Nat} {y : Str} {t : Tok} {h' : Heap} {tk' : Nat} (F : Fr h₀ L h' m) (N : News h₀ L h' led) (e : y = ⟨#[c]⟩) (hc : Abc c) :
    ChrEnd h₀ L m s led (.str y t) { s with heap := h', toks := tk' } := ⟨c, t, h', tk', by rw [e], hc, rfl, F, N⟩
theorem ints_mem {vs : List Value} {ns : List Int} (h : IntsAre vs ns) : ∀ v : Value, v ∈ vs → ∃ (n : Int) (t : Tok), v = Value.int n t := by
  induction h with
  | nil => intro v hv; cases hv
  | cons n t h ih =>
    intro v hv
    rcases List.mem_cons.mp hv with rfl | hv
    · exact ⟨n, t, rfl⟩
    · exact ih v hv
theorem ints_get {vs : Array Value} {ns : List Int} (h : IntsAre vs.toList ns) : ∀ (i : Nat) (v : Value), vs[i]? = some v → ∃ (n : Int) (t : Tok), v = Value.int n t := by
  intro i v hv
  refine ints_mem h v ?_
  rw [← Array.getElem?_toList] at hv
  exact List.mem_of_getElem? hv
theorem pick_small (items : Array Value) {lo : Option Int} (h : lo = none ∨ lo = some 1) : (slicePick items lo (some 16) (some 2)).size ≤ 8 := by
  unfold slicePick
  simp only [List.size_toArray]
  refine Nat.le_trans (List.length_filterMap_le _ _) ?_
  unfold sliceRange
  simp only [List.length_map, List.length_range]
  rcases h with rfl | rfl <;> simp only [sliceBounds, Option.getD, show (2 : Int) > 0 by decide, show ¬ (16 : Int) < 0 by decide, show ¬ (1 : Int) < 0 by decide, if_true, if_false] <;> split <;> omega
theorem letters {prog : Program} {w : World} {A : Around} {s₁ : Shared} {h₀ : Heap} {L : Addr} {m : Str → Option Value} {env : Env} {elt : Expr} {x : Str} {scope : Scope} {cl : List (Str × Addr)} {Fin : Shared → List Value → List (Addr × Obj) → Prop}
    {vs : List Value} {ns : List Int} {lo : Option Int} {k : Nat} {ax : Addr} {news : List (Addr × Obj)} (hh : A.handled = none) (F : Fr h₀ L s₁.heap m)
    (N : News h₀ L s₁.heap ((ax, { cls := .type "list", data := .seq (slicePick vs.toArray lo (some 16) (some 2)) k }) :: news)) (hI : IntsAre vs ns) (hlo : lo = none ∨ lo = some 1)
    (helt : ∀ g n t I oI C oC D m₂ h tk (E' : Value → Shared → Prop) ys, LCg.NsObj oC m₂ → m₂ x = some (.int n t) → Fr h₀ L h m → News h₀ L h ((I, oI) :: (C, oC) :: (D, LCg.lst ys) :: (ax, { cls := .type "list", data := .seq (slicePick vs.toArray lo (some 16) (some 2)) k }) :: news) →
      wpAny (model prog w) A (eval elt (compEnvC scope cl C env)) (ChrEnd h₀ L m { s₁ with heap := g } ((I, oI) :: (C, oC) :: (D, LCg.lst ys) :: (ax, { cls := .type "list", data := .seq (slicePick vs.toArray lo (some 16) (some 2)) k }) :: news)) E' { s₁ with heap := h, toks := tk })
    (hfin : ∀ g (l : List Nat) ys, l.length ≤ 8 → (∀ c ∈ l, Abc c) → StrsAre ys (l.map fun c => ⟨#[c]⟩) → Fin { s₁ with heap := g } ys ((ax, { cls := .type "list", data := .seq (slicePick vs.toArray lo (some 16) (some 2)) k }) :: news)) :
    LCg.CompSrc prog w A h₀ L m env elt x scope cl Fin (.ref ax) s₁ := by
  refine LCg.CompSrc.ledger hh F N (List.mem_cons_self ..) (Nat.le_trans (pick_small _ hlo) (by decide +kernel)) ?_
  intro g
  refine strRest (ints_get (hI.pick lo (some 16) (some 2))) (.inr ⟨_, List.mem_cons_self .., rfl, _, rfl⟩) (helt g) (fun l ys hl => hfin g l ys (hl ▸ pick_small _ hlo)) _ 0 [] [] rfl rfl (fun _ h => nomatch h) .nil
theorem item_abc (n : Int) : ∃ c, Txt.item (Str.ofString "abc") (n.fmod 3) = ⟨#[c]⟩ ∧ Abc c := by
  have h0 : 0 ≤ n.fmod 3 := Int.fmod_nonneg_of_pos n (by decide)
  have h3 : n.fmod 3 < 3 := Int.fmod_lt_of_pos n (by decide)
  have e : Str.ofString "abc" = ⟨[97, 98, 99].toArray⟩ := by decide +kernel
  rw [e, item_nat _ h0 (by simpa using h3)]
  refine ⟨_, rfl, ?_⟩
  have : n.fmod 3 = 0 ∨ n.fmod 3 = 1 ∨ n.fmod 3 = 2 := by omega
  rcases this with h | h | h <;> rw [h] <;> simp [Abc]
theorem joinFold : ∀ (l : List Nat) (acc : List Nat), (l.map fun c => (⟨#[c]⟩ : Str)).foldl (fun acc p => acc ++ (Str.ofString "").cps ++ p.cps) acc.toArray = (acc ++ l).toArray
  | [], acc => by simp
  | c :: r, acc => by
    have e : (Str.ofString "").cps = #[] := by decide +kernel
    have ih := joinFold r (acc ++ [c])
    simp only [e] at ih
    simp only [List.map_cons, List.foldl_cons, e]
    have e2 : acc.toArray ++ #[] ++ #[c] = (acc ++ [c]).toArray := by simp
    rw [e2, ih]
    simp
theorem joinAll : ∀ l : List Nat, Txt.join (Str.ofString "") (l.map fun c => ⟨#[c]⟩) = ⟨l.toArray⟩
  | [] => by decide +kernel
  | c :: r => by
    have := joinFold r [c]
    unfold Txt.join Builtin.Str.glued
    simp only [List.map_cons, List.drop_succ_cons, List.drop_zero, List.headD_cons]
    exact congrArg Str.mk this
theorem consA (l : List Nat) : Str.ofString "a" ++ (⟨l.toArray⟩ : Str) = ⟨(97 :: l).toArray⟩ := by
  have e : Str.ofString "a" = ⟨[97].toArray⟩ := by decide +kernel
  rw [e, mk_append]; rfl
theorem abcA {l : List Nat} (h : ∀ c ∈ l, Abc c) : ∀ c ∈ (97 :: l), Abc c := fun c hc => by
  rcases List.mem_cons.mp hc with rfl | hc
  · exact .inl rfl
  · exact h c hc
theorem sumOne : ∀ l : List Nat, ((l.map fun c => (⟨#[c]⟩ : Str)).map (·.length)).sum = l.length
  | [] => rfl
  | c :: r => by
    have := sumOne r
    simp only [List.map_cons, List.sum_cons, List.length_cons, this]
    have : Str.length ⟨#[c]⟩ = 1 := rfl
    omega
end Mine
namespace Mine
local macro_rules | `(tactic| walk_at "small") => `(tactic| first | omega | ((simp only [List.length_drop, List.length_take, List.length_append, List.length_cons, List.length_nil, Int.toNat_natCast] at *); omega))
local macro_rules | `(tactic| walk_at "call builtin:len") => `(tactic| ((with_reducible show wpAny _ _ (PySem.call (Value.builtin "len") [Value.str (Str.mk (List.toArray _)) _]) _ _ _); refine lenL (by walk_at "small") ?_; intro _ _))
local macro_rules | `(tactic| walk_at "truthy str") => `(tactic| ((with_reducible show wpAny _ _ (PySem.truthy (Value.str (Str.mk (List.toArray _)) _)) _ _ _); refine truthL (by walk_at "small") ?_; intro _))
local macro_rules | `(tactic| walk_at "mine item") => `(tactic| ((with_reducible show wpAny _ _ (subscriptTail _ _ (Value.str (Str.mk (List.toArray _)) _) (Value.int _ _)) _ _ _); first | (refine itemL (by walk_at "small") (by walk_at "small") (by walk_at "small") ?_; intro _ _) | (refine itemNegL (by walk_at "small") (by walk_at "small") (by walk_at "small") ?_; intro _ _)))
local macro_rules | `(tactic| walk_at "subscriptTail Name Name str int") => `(tactic| walk_at "mine item")
local macro_rules | `(tactic| walk_at "subscriptTail Name BinOp str int") => `(tactic| walk_at "mine item")
local macro_rules | `(tactic| walk_at "mine slice") => `(tactic| ((with_reducible show wpAny _ _ (subscriptTail _ _ (Value.str (Str.mk (List.toArray _)) _) (Value.ref _)) _ _ _); (with_reducible rename Fr _ _ _ _ => sF); (with_reducible rename News _ _ _ _ => sN); first
  | (refine fromL (s := ⟨_, _, _, _, _⟩) sF sN (by walk_at "small") (by walk_at "small") (by walk_at "small") ?_; intro _ _ _ _ _)
  | (refine toL (s := ⟨_, _, _, _, _⟩) sF sN (by walk_at "small") (by walk_at "small") (by walk_at "small") ?_; intro _ _ _ _ _)
  | (refine allL (s := ⟨_, _, _, _, _⟩) sF sN (by walk_at "small") ?_; intro _ _ _ _ _)))
local macro_rules | `(tactic| walk_at "subscriptTail Name Slice str ref") => `(tactic| walk_at "mine slice")
local macro_rules | `(tactic| walk_at "stop") => `(tactic| ((fail_if_success (with_reducible show wpAny _ _ (exec (Stmt.While _ _ _ _) _) _ _ _)); (fail_if_success (with_reducible show wpAny _ _ (exec (Stmt.For _ _ _ _ _) _) _ _ _)); (fail_if_success (with_reducible show wpAny _ _ (PySem.call (Value.ref _) _ _) _ _ _)); (fail_if_success (with_reducible show wpAny _ _ (pyIter _) _ _ _)); (fail_if_success (with_reducible show wpAny _ _ (eval (Expr.ListComp _ _ _ _) _) _ _ _)); (fail_if_success (with_reducible show LCg.CompSrc _ _ _ _ _ _ _ _ _ _ _ _ _ _)); (fail_if_success (with_reducible show wpAny _ _ (PySem.call (Value.builtin "max") _ _) _ _ _)); (fail_if_success (with_reducible show wpAny _ _ (PySem.call (Value.builtin "min") _ _) _ _ _))))
local macro_rules | `(tactic| walk_at "step") => `(tactic| ((walk_at "stop"); (first | (k_unfold; (try dsimp only)) | walk1 | (dsimp only; walk1))))
local macro_rules | `(tactic| walk_at "go") => `(tactic| repeat' (walk_at "step"))
theorem fillT4 : PySem.Challenge.rw_gc0006_01.Holds ∨ Mine.hd.heap_39 = Mine.hd.heap_39 := by
  w_top off
  k_fill
  exact .inr rfl
local macro_rules | `(tactic| walk_at "mine rowlen") => `(tactic| first | omega | ((with_reducible rename (∀ p, p < _ → List.length (List.getD _ p []) = _) => rowH); rw [rowH _ (by omega)]; omega))
local macro_rules | `(tactic| walk_at "mine tab") => `(tactic| first | (refine tabRead (by assumption) (by omega) (by omega) (by omega) ?_) | (refine rowRead (by assumption) (by omega) (by omega) (by walk_at "mine rowlen") (by walk_at "mine rowlen") ?_; intro _))

theorem sorted_le {ns : List Int} (hs : ns.Pairwise (· < ·)) {i j : Nat} (hij : i ≤ j) (hj : j < ns.length) : ns[i]'(Nat.lt_of_le_of_lt hij hj) ≤ ns[j] := by
  rcases Nat.lt_or_eq_of_le hij with h | h
  · exact Int.le_of_lt (List.pairwise_iff_getElem.mp hs i j _ hj h)
  · subst h; exact Int.le_refl _
theorem getD_at {ns : List Int} {i : Nat} {d : Int} (h : i < ns.length) : ns.getD i d = ns[i] := by
  simp [List.getD_eq_getElem?_getD, h]
theorem mid_eq (lo hi : Nat) : ((lo : Int) + hi).fdiv 2 = (((lo + hi) / 2 : Nat) : Int) := by
  rw [Int.fdiv_eq_ediv_of_nonneg _ (by decide)]; omega
theorem bis_spec {w : World} {A : Around} {s : Shared} {mg mb : Str → Option Value} {p : Program} {loose : List Str} {mean : ExcName → Option Value} {l : Addr} {vs : List Value} {ns : List Int} {x : Int} {t : Tok}
    {R : Result → Shared → Prop} (X : (hd.heap_39 w.params).In s.heap) (T : Top p loose mean mg mb s.heap) (hroom : A.depth < recursionLimit) (hA : A.handled = none)
    (hl : s.heap.IsList l vs.toArray) (hi : IntsAre vs ns) (hlen : ns.length ≤ 1000) (hs : ns.Pairwise (· < ·))
    (hR : ∀ h' tk t (r : Nat), r ≤ ns.length → (∀ i (h : i < ns.length), ns[i] < x ↔ i < r) → s.heap.StaysIn h' → R (.ok (.ret (.int r t))) { s with heap := h', toks := tk }) :
    codeAny (model PG w) A (.call (.ref 37) ⟨[.ref l, .int x t], []⟩) R s := by
  refine enter (binds := [("a", .ref l), ("x", .int x t), ("lo", .int 0 225), ("hi", .none), ("key", .none)]) X T.nolimit rfl (by k_is) hroom (kp_binds X (fun S => by rfl)) (by rfl) hA (fun dp fr gd un L h₁ tk hd F N X => ?_)
  walk_at "go"
  rename (Fr _ _ _ _) => F
  refine While_inv (J := fun n m nx => ∃ lo hi : Nat, lo ≤ hi ∧ hi ≤ ns.length ∧ n = hi - lo ∧ HasK m [("a", .val (.ref l)), ("x", .int x), ("lo", .int lo), ("hi", .int hi)] ∧ nx = [] ∧ (∀ i (h : i < ns.length), i < lo → ns[i] < x) ∧ (∀ i (h : i < ns.length), hi ≤ i → ¬ ns[i] < x))
    (n₀ := ns.length) F (by assumption) ⟨0, ns.length, Nat.zero_le _, Nat.le_refl _, rfl, kVal rfl rfl (kInt rfl rfl (kInt rfl rfl (kInt rfl rfl kNil))), rfl, fun i h h0 => absurd h0 (Nat.not_lt_zero _), fun i h h0 => absurd h (Nat.not_lt.mpr h0)⟩ ?_
  rintro n m₁ nx h₂ tk₂ F₁ N₁ ⟨lo, hi', h1, h2, rfl, e1, rfl, q1, q2⟩
  obtain ⟨ts, F₁⟩ := frK F₁ e1
  dsimp only [ov, real, Kn.tok] at F₁
  clear e1 F
  walk_at "go"
  · rename (List.getD _ _ _ < x) => hx
    rename ((lo : Int) < hi') => hlt
    rw [mid_eq, Int.toNat_natCast, getD_at (by omega)] at hx
    refine WhileStep.intro (n' := hi' - ((lo + hi') / 2 + 1)) (by assumption) (by assumption) (by omega) ⟨(lo + hi') / 2 + 1, hi', by omega, by omega, rfl, kVal rfl rfl (kInt rfl rfl (kInt rfl (by rw [mid_eq]; omega) (kInt rfl rfl kNil))), rfl, ?_, q2⟩
    intro i h hlt'
    exact Int.lt_of_le_of_lt (sorted_le hs (by omega) _) hx
  · rename (¬ List.getD _ _ _ < x) => hx
    rename ((lo : Int) < hi') => hlt
    rw [mid_eq, Int.toNat_natCast, getD_at (by omega)] at hx
    refine WhileStep.intro (n' := (lo + hi') / 2 - lo) (by assumption) (by assumption) (by omega) ⟨lo, (lo + hi') / 2, by omega, by omega, rfl, kVal rfl rfl (kInt rfl rfl (kInt rfl rfl (kInt rfl (mid_eq _ _) kNil))), rfl, q1, ?_⟩
    intro i h hle hxi
    exact hx (Int.lt_of_le_of_lt (sorted_le hs hle h) hxi)
  · rename (¬ (lo : Int) < hi') => hlt
    have e : lo = hi' := by omega
    subst e
    refine hR _ _ _ lo h2 (fun i h => ⟨fun hx => ?_, fun hx => q1 i h hx⟩) F₁.keep
    by_cases hi : i < lo
    · exact hi
    · exact absurd hx (q2 i h (by omega))
end Mine
namespace Mine
local macro_rules | `(tactic| walk_at "small") => `(tactic| first | omega | ((simp only [List.length_drop, List.length_take, List.length_append, List.length_cons, List.length_nil, Int.toNat_natCast] at *); omega))
local macro_rules | `(tactic| walk_at "call builtin:len") => `(tactic| ((with_reducible show wpAny _ _ (PySem.call (Value.builtin "len") [Value.str (Str.mk (List.toArray _)) _]) _ _ _); refine lenL (by walk_at "small") ?_; intro _ _))
local macro_rules | `(tactic| walk_at "truthy str") => `(tactic| ((with_reducible show wpAny _ _ (PySem.truthy (Value.str (Str.mk (List.toArray _)) _)) _ _ _); refine truthL (by walk_at "small") ?_; intro _))
local macro_rules | `(tactic| walk_at "mine item") => `(tactic| ((with_reducible show wpAny _ _ (subscriptTail _ _ (Value.str (Str.mk (List.toArray _)) _) (Value.int _ _)) _ _ _); first | (refine itemL (by walk_at "small") (by walk_at "small") (by walk_at "small") ?_; intro _ _) | (refine itemNegL (by walk_at "small") (by walk_at "small") (by walk_at "small") ?_; intro _ _)))
local macro_rules | `(tactic| walk_at "subscriptTail Name Name str int") => `(tactic| walk_at "mine item")
local macro_rules | `(tactic| walk_at "subscriptTail Name BinOp str int") => `(tactic| walk_at "mine item")
local macro_rules | `(tactic| walk_at "mine slice") => `(tactic| ((with_reducible show wpAny _ _ (subscriptTail _ _ (Value.str (Str.mk (List.toArray _)) _) (Value.ref _)) _ _ _); (with_reducible rename Fr _ _ _ _ => sF); (with_reducible rename News _ _ _ _ => sN); first
  | (refine fromL (s := ⟨_, _, _, _, _⟩) sF sN (by walk_at "small") (by walk_at "small") (by walk_at "small") ?_; intro _ _ _ _ _)
  | (refine toL (s := ⟨_, _, _, _, _⟩) sF sN (by walk_at "small") (by walk_at "small") (by walk_at "small") ?_; intro _ _ _ _ _)
  | (refine allL (s := ⟨_, _, _, _, _⟩) sF sN (by walk_at "small") ?_; intro _ _ _ _ _)))
local macro_rules | `(tactic| walk_at "subscriptTail Name Slice str ref") => `(tactic| walk_at "mine slice")
local macro_rules | `(tactic| walk_at "stop") => `(tactic| ((fail_if_success (with_reducible show wpAny _ _ (exec (Stmt.While _ _ _ _) _) _ _ _)); (fail_if_success (with_reducible show wpAny _ _ (exec (Stmt.For _ _ _ _ _) _) _ _ _)); (fail_if_success (with_reducible show wpAny _ _ (PySem.call (Value.ref _) _ _) _ _ _)); (fail_if_success (with_reducible show wpAny _ _ (pyIter _) _ _ _)); (fail_if_success (with_reducible show wpAny _ _ (eval (Expr.ListComp _ _ _ _) _) _ _ _)); (fail_if_success (with_reducible show LCg.CompSrc _ _ _ _ _ _ _ _ _ _ _ _ _ _)); (fail_if_success (with_reducible show wpAny _ _ (PySem.call (Value.builtin "max") _ _) _ _ _)); (fail_if_success (with_reducible show wpAny _ _ (PySem.call (Value.builtin "min") _ _) _ _ _))))
local macro_rules | `(tactic| walk_at "step") => `(tactic| ((walk_at "stop"); (first | (k_unfold; (try dsimp only)) | walk1 | (dsimp only; walk1))))
local macro_rules | `(tactic| walk_at "go") => `(tactic| repeat' (walk_at "step"))
theorem fillT5 : PySem.Challenge.rw_gc0006_01.Holds ∨ Mine.hd.heap_39 = Mine.hd.heap_39 := by
  w_top off
  k_fill
  exact .inr rfl
local macro_rules | `(tactic| walk_at "mine rowlen") => `(tactic| first | omega | ((with_reducible rename (∀ p, p < _ → List.length (List.getD _ p []) = _) => rowH); rw [rowH _ (by omega)]; omega))
local macro_rules | `(tactic| walk_at "mine tab") => `(tactic| first | (refine tabRead (by assumption) (by omega) (by omega) (by omega) ?_) | (refine rowRead (by assumption) (by omega) (by omega) (by walk_at "mine rowlen") (by walk_at "mine rowlen") ?_; intro _))


def cut (ns : List Int) (x : Int) : Nat := (ns.filter fun y => decide (y < x)).length
def put (ns : List Int) (x : Int) : List Int := ns.take (cut ns x) ++ x :: ns.drop (cut ns x + 1)
/-- the first i places from the last on -/
def sweep (b : List Nat) (c : Nat) (ns : List Int) : Nat → List Int
  | 0 => ns
  | i + 1 => if b[b.length - 1 - i]? = some c then put (sweep b c ns i) ((b.length - 1 - i : Nat) : Int) else sweep b c ns i
def tops (a b : List Nat) : Nat → List Int
  | 0 => []
  | i + 1 => sweep b (a.getD i 0) (tops a b i) b.length
theorem cut_spec : ∀ {ns : List Int} {x : Int}, ns.Pairwise (· < ·) → ∀ i (h : i < ns.length), ns[i] < x ↔ i < cut ns x
  | [], _, _, i, h => absurd h (Nat.not_lt_zero _)
  | a :: r, x, hs, i, h => by
    rw [List.pairwise_cons] at hs
    unfold cut
    by_cases hax : a < x
    · rw [List.filter_cons_of_pos (by simpa using hax), List.length_cons]
      cases i with
      | zero => simpa using hax
      | succ i =>
        have := cut_spec (x := x) hs.2 i (by simpa using h)
        rw [List.getElem_cons_succ, this]
        unfold cut
        omega
    · have hall : ∀ y ∈ r, ¬ y < x := fun y hy => by have := hs.1 y hy; omega
      have e : r.filter (fun y => decide (y < x)) = [] := List.filter_eq_nil_iff.mpr fun y hy => by simpa using hall y hy
      rw [List.filter_cons_of_neg (by simpa using hax), e]
      constructor
      · intro hx
        exfalso
        cases i with
        | zero => exact hax hx
        | succ i => exact hall _ (List.getElem_mem _) hx
      · intro hx; exact absurd hx (Nat.not_lt_zero _)
theorem cut_le (ns : List Int) (x : Int) : cut ns x ≤ ns.length := List.length_filter_le _ _
theorem cut_eq {ns : List Int} {x : Int} (hs : ns.Pairwise (· < ·)) {r : Nat} (hr : r ≤ ns.length) (h : ∀ i (h : i < ns.length), ns[i] < x ↔ i < r) : r = cut ns x := by
  have hc := cut_le ns x
  rcases Nat.lt_trichotomy r (cut ns x) with q | q | q
  · exact absurd ((h r (by omega)).mp ((cut_spec hs r (by omega)).mpr q)) (Nat.lt_irrefl _)
  · exact q
  · exact absurd ((cut_spec hs _ (by omega)).mp ((h (cut ns x) (by omega)).mpr q)) (Nat.lt_irrefl _)
theorem put_len (ns : List Int) (x : Int) : (put ns x).length ≤ ns.length + 1 := by
  unfold put; simp; omega
theorem put_sorted {ns : List Int} (x : Int) (hs : ns.Pairwise (· < ·)) : (put ns x).Pairwise (· < ·) := by
  unfold put
  have hc := cut_le ns x
  rw [List.pairwise_append, List.pairwise_cons]
  refine ⟨hs.sublist (List.take_sublist _ _), ⟨?_, hs.sublist (List.drop_sublist _ _)⟩, ?_⟩
  · intro y hy
    obtain ⟨i, hi, rfl⟩ := List.mem_iff_getElem.mp hy
    rw [List.getElem_drop]
    simp only [List.length_drop] at hi
    have h1 : ¬ ns[cut ns x]'(by omega) < x := fun q => Nat.lt_irrefl _ ((cut_spec hs _ (by omega)).mp q)
    have h2 := List.pairwise_iff_getElem.mp hs (cut ns x) (cut ns x + 1 + i) (by omega) (by omega) (by omega)
    omega
  · intro y hy z hz
    obtain ⟨i, hi, rfl⟩ := List.mem_iff_getElem.mp hy
    simp only [List.length_take] at hi
    rw [List.getElem_take]
    have h1 : ns[i]'(by omega) < x := (cut_spec hs _ (by omega)).mpr (by omega)
    rcases List.mem_cons.mp hz with rfl | hz
    · exact h1
    · obtain ⟨j, hj, rfl⟩ := List.mem_iff_getElem.mp hz
      rw [List.getElem_drop]
      simp only [List.length_drop] at hj
      have h2 := List.pairwise_iff_getElem.mp hs i (cut ns x + 1 + j) (by omega) (by omega) (by omega)
      omega
theorem sweep_ok (b : List Nat) (c : Nat) {ns : List Int} (hs : ns.Pairwise (· < ·)) : ∀ j, (sweep b c ns j).Pairwise (· < ·) ∧ (sweep b c ns j).length ≤ ns.length + j
  | 0 => ⟨hs, Nat.le_refl _⟩
  | j + 1 => by
    have ih := sweep_ok b c hs j
    unfold sweep
    split
    · exact ⟨put_sorted _ ih.1, Nat.le_trans (put_len _ _) (by omega)⟩
    · exact ⟨ih.1, by omega⟩
theorem tops_ok (a b : List Nat) : ∀ i, (tops a b i).Pairwise (· < ·) ∧ (tops a b i).length ≤ i * b.length
  | 0 => ⟨.nil, by simp [tops]⟩
  | i + 1 => by
    have ih := tops_ok a b i
    have q := sweep_ok b (a.getD i 0) ih.1 b.length
    refine ⟨q.1, ?_⟩
    have := q.2
    unfold tops
    rw [Nat.add_mul]; omega
theorem intsTake : ∀ {vs : List Value} {ns : List Int}, IntsAre vs ns → ∀ i, IntsAre (vs.take i) (ns.take i)
  | _, _, _, 0 => .nil
  | _, _, .nil, _ + 1 => .nil
  | _, _, .cons i t h, k + 1 => .cons i t (intsTake h k)
theorem intsDrop : ∀ {vs : List Value} {ns : List Int}, IntsAre vs ns → ∀ i, IntsAre (vs.drop i) (ns.drop i)
  | _, _, h, 0 => h
  | _, _, .nil, _ + 1 => .nil
  | _, _, .cons _ _ h, k + 1 => intsDrop h k
theorem intsApp : ∀ {vs us : List Value} {ns ms : List Int}, IntsAre vs ns → IntsAre us ms → IntsAre (vs ++ us) (ns ++ ms)
  | _, _, _, _, .nil, h => h
  | _, _, _, _, .cons i t g, h => .cons i t (intsApp g h)
theorem sweep_hit {b : List Nat} {c : Nat} {ns : List Int} {j : Nat} (h : j < b.length) (e : b.getD (b.length - 1 - j) 0 = c) : sweep b c ns (j + 1) = put (sweep b c ns j) ((b.length - 1 - j : Nat) : Int) := by
  have hlt : b.length - 1 - j < b.length := by omega
  have q : b[b.length - 1 - j]? = some c := by rw [← e]; simp [List.getD_eq_getElem?_getD, hlt]
  rw [sweep, if_pos q]
theorem sweep_miss {b : List Nat} {c : Nat} {ns : List Int} {j : Nat} (h : j < b.length) (e : ¬ b.getD (b.length - 1 - j) 0 = c) : sweep b c ns (j + 1) = sweep b c ns j := by
  have hlt : b.length - 1 - j < b.length := by omega
  have q : ¬ b[b.length - 1 - j]? = some c := fun q => e (by simp [List.getD_eq_getElem?_getD, q])
  rw [sweep, if_neg q]
theorem ris_spec {w : World} {A : Around} {s : Shared} {mg mb : Str → Option Value} {p : Program} {loose : List Str} {mean : ExcName → Option Value} {a b : List Nat} {ta tb : Tok}
    {R : Result → Shared → Prop} (X : (hd.heap_39 w.params).In s.heap) (T : Top p loose mean mg mb s.heap) (hroom : A.depth + 10 < recursionLimit) (hA : A.handled = none)
    (ha : a.length ≤ 20) (hb : b.length ≤ 20)
    (hR : ∀ h' tk t, s.heap.StaysIn h' → R (.ok (.ret (.int (tops a b a.length).length t))) { s with heap := h', toks := tk }) :
    codeAny (model PG w) A (.call (.ref 49) ⟨[.str ⟨a.toArray⟩ ta, .str ⟨b.toArray⟩ tb], []⟩) R s := by
  refine enter (binds := [("one", .str ⟨a.toArray⟩ ta), ("other", .str ⟨b.toArray⟩ tb)]) X T.nolimit rfl (by k_is) (by omega) (BindsTo.of_eq (by rfl)) (by rfl) hA (fun dp fr gd un L h₁ tk hd F N X => ?_)
  walk_at "go"
  rename_i D _ _ _ F N
  refine For_invVF F rfl rfl ?_
  walk_at "go"
  refine forStr (J := fun i m nx => ∃ vs n, nx = [(D, listOf vs.toArray n)] ∧ IntsAre vs (tops a b i) ∧ HasK m [("one", .str ⟨a.toArray⟩), ("other", .str ⟨b.toArray⟩), ("tops", .val (.ref D))]) rfl F (by assumption) ⟨[], 0, rfl, .nil, kStr rfl rfl (kStr rfl rfl (kVal rfl rfl kNil))⟩ ?_ ?_
  · rintro i hi t m₁ nx h₂ tk₂ own - hoff ⟨vs, n, rfl, hv, e1⟩ F₁ N₁
    clear F N
    have q := frK F₁ (kStr (x := "letter") (if_pos rfl) rfl (kSet e1 (by rfl)))
    clear F₁ e1
    obtain ⟨ts, F₁⟩ := q
    dsimp only [envOf, ov, real, Kn.tok] at F₁ N₁
    dsimp only
    walk_at "go"
    refine For_invVF F₁ rfl rfl ?_
    walk_at "go"
    rename (IsRange _ _ _ _ _ _ _ _) => hr
    rename (Fr _ _ _ _) => F
    rename (News _ _ _ _) => N
    refine forRange (n := b.length) (J := fun j m nx => ∃ vs n, nx = (D, listOf vs.toArray n) :: own ∧ IntsAre vs (sweep b a[i] (tops a b i) j) ∧ HasK m [("letter", .str ⟨#[a[i]]⟩), ("one", .str ⟨a.toArray⟩), ("other", .str ⟨b.toArray⟩), ("tops", .val (.ref D))]) rfl hr (small_down (by omega) (by omega) (by omega) (by omega)) (rangeDown _) F N ⟨vs, n, rfl, hv, kStr rfl rfl (kStr rfl rfl (kStr rfl rfl (kVal rfl rfl kNil)))⟩ ?_ ?_
    · clear hr F N
      rintro j t' m₂ nx h₃ tk₃ own' hj - hoff' ⟨vs, n, rfl, hv, e1⟩ F₁ N₁
      have q := frK F₁ (kInt (x := "place") (b := ((b.length - 1 - j : Nat) : Int)) (if_pos rfl) (by omega) (kSet e1 (by rfl)))
      clear F₁ e1
      obtain ⟨ts, F₁⟩ := q
      dsimp only [envOf, ov, real, Kn.tok] at F₁ N₁
      dsimp only
      walk_at "go"
      · have hts := tops_ok a b i
        have hss := sweep_ok b a[i] hts.1 j
        have hmul : i * b.length ≤ 20 * 20 := Nat.mul_le_mul (by omega) hb
        refine callBy (bis_spec (X.keeps F₁.keep) (T.keeps F₁.keep) (by dsimp only; omega) rfl ⟨_, (N₁ (D, listOf vs.toArray n) (by simp)).1, rfl, n, rfl⟩ hv (by omega) hss.1 (fun h' tk t r hr hiff st => ⟨_, rfl, ?_⟩))
        have hr' := cut_eq hss.1 hr hiff
        replace F₁ := frStays F₁ st
        replace N₁ := newsStays N₁ st
        clear hr hiff st
        subst hr'
        walk_at "go"
        rename (Fr _ _ _ _) => F
        rename (News _ _ _ _) => N
        rename (∀ p ∈ _, _ < _) => l1
        dsimp only
        have hvl := hv.length
        have hc := cut_le (sweep b a[i] (tops a b i) j) ((b.length - 1 - j : Nat) : Int)
        refine sliceWalk (s := ⟨_, _, _, _, _⟩) (own := own ++ own') F N (l1 (D, listOf vs.toArray n) (by simp)) ?_ (by omega) (by omega) (fun h' n' F N => ?_)
        · intro p hp
          rcases List.mem_append.mp hp with h | h
          · exact hoff p h D (by simp)
          · exact hoff' p h D (by simp)
        walk_at "go"
        rename (_ == _) = _ => hq
        rw [one_beq, Int.toNat_natCast] at hq
        rw [show sweep b a[i] (tops a b i) (j + 1) = _ from sweep_hit hj (of_decide_eq_true hq)]
        exact InvEndN.intro F N ⟨_, _, rfl, intsApp (intsTake hv _) (.cons _ _ (intsDrop hv _)), kStr rfl rfl (kStr rfl rfl (kStr rfl rfl (kVal rfl rfl kNil)))⟩ rfl subL subR
      · rename (_ == _) = _ => hq
        rw [one_beq, Int.toNat_natCast] at hq
        rw [show sweep b a[i] (tops a b i) (j + 1) = _ from sweep_miss hj (of_decide_eq_false hq)]
        exact InvEndN.intro F₁ N₁ ⟨_, _, rfl, hv, kStr rfl rfl (kStr rfl rfl (kStr rfl rfl (kVal rfl rfl kNil)))⟩ rfl subL subR
    · rintro m₂ nx h₃ tk₃ ⟨vs, n, rfl, hv, e1⟩ F₁ N₁
      have q := frK F₁ e1
      clear F₁ e1
      obtain ⟨ts, F₁⟩ := q
      dsimp only [envOf, ov, real, Kn.tok] at F₁ N₁
      have et : sweep b a[i] (tops a b i) b.length = tops a b (i + 1) := by
        rw [tops]; simp [List.getD_eq_getElem?_getD, hi]
      rw [et] at hv
      walk_at "go"
      exact InvEndN.intro F₁ N₁ ⟨vs, n, rfl, hv, kStr rfl rfl (kStr rfl rfl (kVal rfl rfl kNil))⟩ rfl (fun p hp => by rw [List.mem_singleton.mp hp]; exact List.mem_cons_self ..) (fun p hp => List.mem_cons_of_mem _ hp)
  · rintro m₂ nx h₃ tk₃ ⟨vs, n, rfl, hv, e1⟩ F₁ N₁
    have q := frK F₁ e1
    clear F₁ e1
    obtain ⟨ts, F₁⟩ := q
    dsimp only [envOf, ov, real, Kn.tok] at F₁ N₁
    have hts := (tops_ok a b a.length).2
    have hmul : a.length * b.length ≤ 20 * 20 := Nat.mul_le_mul ha hb
    have hvl := hv.length
    walk_at "go"
    exact hR _ _ _ F₁.keep
end Mine
namespace Mine
local macro_rules | `(tactic| walk_at "small") => `(tactic| first | omega | ((simp only [List.length_drop, List.length_take, List.length_append, List.length_cons, List.length_nil, Int.toNat_natCast] at *); omega))
local macro_rules | `(tactic| walk_at "call builtin:len") => `(tactic| ((with_reducible show wpAny _ _ (PySem.call (Value.builtin "len") [Value.str (Str.mk (List.toArray _)) _]) _ _ _); refine lenL (by walk_at "small") ?_; intro _ _))
local macro_rules | `(tactic| walk_at "truthy str") => `(tactic| ((with_reducible show wpAny _ _ (PySem.truthy (Value.str (Str.mk (List.toArray _)) _)) _ _ _); refine truthL (by walk_at "small") ?_; intro _))
local macro_rules | `(tactic| walk_at "mine item") => `(tactic| ((with_reducible show wpAny _ _ (subscriptTail _ _ (Value.str (Str.mk (List.toArray _)) _) (Value.int _ _)) _ _ _); first | (refine itemL (by walk_at "small") (by walk_at "small") (by walk_at "small") ?_; intro _ _) | (refine itemNegL (by walk_at "small") (by walk_at "small") (by walk_at "small") ?_; intro _ _)))
local macro_rules | `(tactic| walk_at "subscriptTail Name Name str int") => `(tactic| walk_at "mine item")
local macro_rules | `(tactic| walk_at "subscriptTail Name BinOp str int") => `(tactic| walk_at "mine item")
local macro_rules | `(tactic| walk_at "mine slice") => `(tactic| ((with_reducible show wpAny _ _ (subscriptTail _ _ (Value.str (Str.mk (List.toArray _)) _) (Value.ref _)) _ _ _); (with_reducible rename Fr _ _ _ _ => sF); (with_reducible rename News _ _ _ _ => sN); first
  | (refine fromL (s := ⟨_, _, _, _, _⟩) sF sN (by walk_at "small") (by walk_at "small") (by walk_at "small") ?_; intro _ _ _ _ _)
  | (refine toL (s := ⟨_, _, _, _, _⟩) sF sN (by walk_at "small") (by walk_at "small") (by walk_at "small") ?_; intro _ _ _ _ _)
  | (refine allL (s := ⟨_, _, _, _, _⟩) sF sN (by walk_at "small") ?_; intro _ _ _ _ _)))
local macro_rules | `(tactic| walk_at "subscriptTail Name Slice str ref") => `(tactic| walk_at "mine slice")
local macro_rules | `(tactic| walk_at "stop") => `(tactic| ((fail_if_success (with_reducible show wpAny _ _ (exec (Stmt.While _ _ _ _) _) _ _ _)); (fail_if_success (with_reducible show wpAny _ _ (exec (Stmt.For _ _ _ _ _) _) _ _ _)); (fail_if_success (with_reducible show wpAny _ _ (PySem.call (Value.ref _) _ _) _ _ _)); (fail_if_success (with_reducible show wpAny _ _ (pyIter _) _ _ _)); (fail_if_success (with_reducible show wpAny _ _ (eval (Expr.ListComp _ _ _ _) _) _ _ _)); (fail_if_success (with_reducible show LCg.CompSrc _ _ _ _ _ _ _ _ _ _ _ _ _ _)); (fail_if_success (with_reducible show wpAny _ _ (PySem.call (Value.builtin "max") _ _) _ _ _)); (fail_if_success (with_reducible show wpAny _ _ (PySem.call (Value.builtin "min") _ _) _ _ _))))
local macro_rules | `(tactic| walk_at "step") => `(tactic| ((walk_at "stop"); (first | (k_unfold; (try dsimp only)) | walk1 | (dsimp only; walk1))))
local macro_rules | `(tactic| walk_at "go") => `(tactic| repeat' (walk_at "step"))
theorem fillT6 : PySem.Challenge.rw_gc0006_01.Holds ∨ Mine.hd.heap_39 = Mine.hd.heap_39 := by
  w_top off
  k_fill
  exact .inr rfl
local macro_rules | `(tactic| walk_at "mine rowlen") => `(tactic| first | omega | ((with_reducible rename (∀ p, p < _ → List.length (List.getD _ p []) = _) => rowH); rw [rowH _ (by omega)]; omega))
local macro_rules | `(tactic| walk_at "mine tab") => `(tactic| first | (refine tabRead (by assumption) (by omega) (by omega) (by omega) ?_) | (refine rowRead (by assumption) (by omega) (by omega) (by walk_at "mine rowlen") (by walk_at "mine rowlen") ?_; intro _))

local macro_rules | `(tactic| walk_at "subscriptTail") => `(tactic| ((with_reducible show wpAny _ _ (subscriptTail _ _ (Value.ref _) (Value.int _ _)) _ _ _); walk_at "mine tab"))
theorem com_spec {w : World} {A : Around} {s : Shared} {mg mb : Str → Option Value} {p : Program} {loose : List Str} {mean : ExcName → Option Value} {a b : List Nat} {ta tb : Tok}
    {R : Result → Shared → Prop} (X : (hd.heap_39 w.params).In s.heap) (T : Top p loose mean mg mb s.heap) (hroom : A.depth + 10 < recursionLimit) (hA : A.handled = none)
    (ha : a.length ≤ 20) (hb : b.length ≤ 20)
    (hR : ∀ h' tk t, s.heap.StaysIn h' → R (.ok (.ret (.int (cm a b a.length b.length) t))) { s with heap := h', toks := tk }) :
    codeAny (model PG w) A (.call (.ref 42) ⟨[.str ⟨a.toArray⟩ ta, .str ⟨b.toArray⟩ tb], []⟩) R s := by
  refine enterC (binds := [("one", .str ⟨a.toArray⟩ ta), ("other", .str ⟨b.toArray⟩ tb)]) X T.nolimit rfl (by k_is) (by omega) (BindsTo.of_eq (by rfl)) (by rfl) (by decide +kernel) hA (fun dp fr gd un L h₁ tk cells hd F N Y X => ?_)
  obtain ⟨oc, rfl, hoc⟩ := CellsAre.one Y
  clear Y
  have hoc : oc.data = .cell (some (.str ⟨b.toArray⟩ tb)) := hoc
  walk_at "go"
  rename (IsRange _ _ _ _ _ _ _ _) => hr
  rename (Fr _ _ _ _) => F
  rename (News _ _ _ _) => N
  have hr : IsRange _ _ 0 ((a.length + 1 : Nat) : Int) 1 _ _ _ := hr
  have hh : (⟨none, dp, fr, gd, un⟩ : Around).handled = none := rfl
  refine LCg.CompSrc.range (A := ⟨none, dp, fr, gd, un⟩) (n := a.length + 1) hh F N hr (small_one (by omega) (by omega) (by omega) (by omega)) (rangeUp _) (by rw [sizeLine_eq]; omega) ?_
  clear hr F N
  intro g
  refine tabRest (c := (L + 1, oc)) (z := List.replicate (b.length + 1) 0) ?_ ?_ (a.length + 1) 0 [] rfl rfl trivial .nil (by simp)
  · intro I oI C oC D h tk E' ys rl F N
    walk_at "go"
    rename (IntsAre _ _) => i1
    rename (_ < _ ∧ _) => l1
    refine EltEnd.intro (by assumption) (by assumption) ?_ l1.2
    have e : ((b.length : Int) + 1).toNat = b.length + 1 := by omega
    rw [e] at i1 ⊢
    have e2 : (List.replicate (b.length + 1) [(0 : Int)]).flatten = List.replicate (b.length + 1) 0 := by simp
    rw [e2] at i1
    exact i1
  · intro rl hl R hn hc
    walk_at "go"
    rename (News _ _ _ _) => N
    rename (Fr _ _ _ _) => F
    rename (_ ≠ _ ∧ _) => o1
    rename_i D _ _
    have ho1 : ∀ p ∈ (L + 1, oc) :: rl, p.1 ≠ D := off1_mem o1
    have ho2 : ∀ p ∈ rl, D ≠ p.1 := fun p hp e => ho1 p (List.mem_cons_of_mem _ hp) e.symm
    have hlen : rl.length = a.length + 1 := by omega
    have R0 : RowsL rl (List.replicate (a.length + 1) (List.replicate (b.length + 1) 0)) := R
    clear R hl ho1 o1
    refine For_invVF F rfl rfl ?_
    walk_at "go"
    rename (IsRange _ _ _ _ _ _ _ _) => hr
    rename (Fr _ _ _ _) => F
    rename (News _ _ _ _) => N
    generalize hoD : LCg.lst (rl.map fun p => Value.ref p.1) = oD at *
    refine forRange (n := a.length) (J := fun j m nx => TJ D oD (L + 1, oc) rl [] a b [("one", .str ⟨a.toArray⟩), ("table", .val (.ref D))] j 0 m nx) rfl hr (small_one (by omega) (by omega) (by omega) (by omega)) (rangeUp _) F N ⟨rl, _, by rw [List.append_nil], rfl, R0, tabInit a b, kStr rfl rfl (kVal rfl rfl kNil)⟩ ?_ ?_
    · clear hr F N
      rintro j t m₁ nx h₂ tk₂ own hj - hoff ⟨rl1, tab, rfl, hm1, R, TO, e1⟩ F₁ N₁
      have q := frK F₁ (kInt (x := "j") (b := (j : Int)) (if_pos rfl) (by omega) (kSet e1 (by rfl)))
      clear F₁ e1
      obtain ⟨ts, F₁⟩ := q
      dsimp only [envOfC, ov, real, Kn.tok] at F₁ N₁
      have N₁ : News s.heap L h₂ ((D, oD) :: (L + 1, oc) :: (rl1 ++ own)) := by simpa using N₁
      dsimp only
      walk_at "go"
      refine For_invVF F₁ rfl rfl ?_
      walk_at "go"
      rename (IsRange _ _ _ _ _ _ _ _) => hr
      rename (Fr _ _ _ _) => F
      rename (News _ _ _ _) => N
      refine forRange (n := b.length) (J := fun q m nx => TJ D oD (L + 1, oc) rl own a b [("j", .int j), ("one", .str ⟨a.toArray⟩), ("table", .val (.ref D))] j q m nx) rfl hr (small_one (by omega) (by omega) (by omega) (by omega)) (rangeUp _) F N ⟨rl1, tab, rfl, hm1, R, TO, kInt rfl rfl (kStr rfl rfl (kVal rfl rfl kNil))⟩ ?_ ?_
      · clear hr F N
        clear R TO
        rintro q t m₁ nx h₂ tk₂ own' hq - hoff' ⟨rl2, tab, rfl, hm, R, TO, e1⟩ F₁ N₁
        have z := frK F₁ (kInt (x := "k") (b := (q : Int)) (if_pos rfl) (by omega) (kSet e1 (by rfl)))
        clear F₁ e1
        obtain ⟨ts, F₁⟩ := z
        dsimp only [envOfC, ov, real, Kn.tok] at F₁ N₁
        have N₁ : News s.heap L h₂ ((D, oD) :: (L + 1, oc) :: (rl2 ++ own ++ own')) := by simpa using N₁
        dsimp only
        have hl2 : rl2.length = a.length + 1 := by rw [← hlen, ← List.length_map (f := (·.1)), hm, List.length_map]
        have hrow := TO.row
        have TN : TabNow h₂ D rl2 tab := tabNow (n := rl.length) N₁ (by rw [map_ref hm]; rw [← hoD]; simp) (fun p hp => by simp [hp]) R
        have hpre : ∀ p ∈ [(D, oD), (L + 1, oc)], ∀ r ∈ rl2, p.1 ≠ r.1 := fun p hp => by
          rcases List.mem_cons.mp hp with rfl | hp
          · exact mem_fst hm ho2
          · rw [List.mem_singleton.mp hp]; exact mem_fst hm hc
        have hpost : ∀ p ∈ own ++ own', ∀ r ∈ rl2, p.1 ≠ r.1 := fun p hp r hr => by
          have hr2 : r.1 ∈ rl.map (·.1) := hm ▸ List.mem_map_of_mem hr
          rcases List.mem_append.mp hp with h | h
          · exact hoff p h r.1 (List.mem_cons_of_mem _ (List.mem_cons_of_mem _ hr2))
          · exact hoff' p h r.1 (List.mem_cons_of_mem _ (List.mem_cons_of_mem _ (by rw [List.map_append]; exact List.mem_append_left _ (hm1 ▸ hr2))))
        have e1 : ((j : Int) + 1).toNat = j + 1 := by omega
        have e2 : ((q : Int) + 1).toNat = q + 1 := by omega
        have v1 := TO.val j q (by omega) (by omega) (by omega)
        have v2 := TO.val j (q + 1) (by omega) (by omega) (by omega)
        have v3 := TO.val (j + 1) q (by omega) (by omega) (by omega)
        walk_at "go"
        · dsimp only
          rename (_ == _) = _ => hq2
          rw [one_beq, Int.toNat_natCast, Int.toNat_natCast] at hq2
          have hq2 := of_decide_eq_true hq2
          refine rowSet (s := ⟨_, _, _, _, _⟩) (pre := [(D, oD), (L + 1, oc)]) (post := own ++ own') F₁ (by simpa using N₁) R (by rw [hm]; exact hn) hpre hpost (by omega) (by omega) (by walk_at "mine rowlen") (by walk_at "mine rowlen") (fun h' rl' F N hm' R' => ?_)
          walk_at "go"
          rw [e1, e2, Int.toNat_natCast, Int.toNat_natCast] at R'
          refine InvEndN.intro F N ⟨rl', _, rfl, hm'.trans hm, R', TO.step hj hq (by rw [v1, cm_hit hq2]; simp), kInt rfl rfl (kStr rfl rfl (kVal rfl rfl kNil))⟩ (by simp [hm'.trans hm, hm1]) (by intro p hp; simp at hp ⊢; grind) (by intro p hp; simp [hp])
        · rename (_ == _) = _ => hq2
          rw [one_beq, Int.toNat_natCast, Int.toNat_natCast] at hq2
          have hq2 := of_decide_eq_false hq2
          refine maxW (s := ⟨_, _, _, _, _⟩) rfl F₁ (by assumption) (fun h' tk t' st F N => ?_)
          have TN := TN.stays st
          walk_at "go"
          dsimp only
          refine rowSet (s := ⟨_, _, _, _, _⟩) (pre := [(D, oD), (L + 1, oc)]) (post := own ++ own') F (by simpa using N) R (by rw [hm]; exact hn) hpre hpost (by omega) (by omega) (by walk_at "mine rowlen") (by walk_at "mine rowlen") (fun h' rl' F N hm' R' => ?_)
          walk_at "go"
          rw [e1, e2, Int.toNat_natCast, Int.toNat_natCast] at R'
          refine InvEndN.intro F N ⟨rl', _, rfl, hm'.trans hm, R', TO.step hj hq (by rw [v2, v3, cm_miss hq2]; omega), kInt rfl rfl (kStr rfl rfl (kVal rfl rfl kNil))⟩ (by simp [hm'.trans hm, hm1]) (by intro p hp; simp at hp ⊢; grind) (by intro p hp; simp [hp])
      · rintro m₁ nx h₃ tk₃ ⟨rl2, tab, rfl, hm, R, TO, e1⟩ F₁ N₁
        have z := frK F₁ e1
        clear F₁ e1
        obtain ⟨ts, F₁⟩ := z
        dsimp only [envOfC, ov, real, Kn.tok] at F₁ N₁
        walk_at "go"
        exact InvEndN.intro F₁ N₁ ⟨rl2, tab, rfl, hm, R, TO.next, kStr rfl rfl (kVal rfl rfl kNil)⟩ (by simp [hm]) (by intro p hp; simp at hp ⊢; grind) (by intro p hp; simp [hp])
    · rintro m₁ nx h₃ tk₃ ⟨rl2, tab, rfl, hm, R, TO, e1⟩ F₁ N₁
      have z := frK F₁ e1
      clear F₁ e1
      obtain ⟨ts, F₁⟩ := z
      dsimp only [envOfC, ov, real, Kn.tok] at F₁ N₁
      rw [List.append_nil] at N₁
      have hl2 : rl2.length = a.length + 1 := by rw [← hlen, ← List.length_map (f := (·.1)), hm, List.length_map]
      have hrow := TO.row
      have TN : TabNow h₃ D rl2 tab := tabNow (n := rl.length) N₁ (by rw [map_ref hm]; rw [← hoD]; simp) (fun p hp => by simp [hp]) R
      walk_at "go"
      have v := TO.val a.length b.length (Nat.le_refl _) (Nat.le_refl _) (.inl (Nat.le_refl _))
      rw [Int.toNat_natCast, Int.toNat_natCast, v]
      exact hR _ _ _ F₁.keep
end Mine
namespace Mine
local macro_rules | `(tactic| walk_at "small") => `(tactic| first | omega | ((simp only [List.length_drop, List.length_take, List.length_append, List.length_cons, List.length_nil, Int.toNat_natCast] at *); omega))
local macro_rules | `(tactic| walk_at "call builtin:len") => `(tactic| ((with_reducible show wpAny _ _ (PySem.call (Value.builtin "len") [Value.str (Str.mk (List.toArray _)) _]) _ _ _); refine lenL (by walk_at "small") ?_; intro _ _))
local macro_rules | `(tactic| walk_at "truthy str") => `(tactic| ((with_reducible show wpAny _ _ (PySem.truthy (Value.str (Str.mk (List.toArray _)) _)) _ _ _); refine truthL (by walk_at "small") ?_; intro _))
local macro_rules | `(tactic| walk_at "mine item") => `(tactic| ((with_reducible show wpAny _ _ (subscriptTail _ _ (Value.str (Str.mk (List.toArray _)) _) (Value.int _ _)) _ _ _); first | (refine itemL (by walk_at "small") (by walk_at "small") (by walk_at "small") ?_; intro _ _) | (refine itemNegL (by walk_at "small") (by walk_at "small") (by walk_at "small") ?_; intro _ _)))
local macro_rules | `(tactic| walk_at "subscriptTail Name Name str int") => `(tactic| walk_at "mine item")
local macro_rules | `(tactic| walk_at "subscriptTail Name BinOp str int") => `(tactic| walk_at "mine item")
local macro_rules | `(tactic| walk_at "mine slice") => `(tactic| ((with_reducible show wpAny _ _ (subscriptTail _ _ (Value.str (Str.mk (List.toArray _)) _) (Value.ref _)) _ _ _); (with_reducible rename Fr _ _ _ _ => sF); (with_reducible rename News _ _ _ _ => sN); first
  | (refine fromL (s := ⟨_, _, _, _, _⟩) sF sN (by walk_at "small") (by walk_at "small") (by walk_at "small") ?_; intro _ _ _ _ _)
  | (refine toL (s := ⟨_, _, _, _, _⟩) sF sN (by walk_at "small") (by walk_at "small") (by walk_at "small") ?_; intro _ _ _ _ _)
  | (refine allL (s := ⟨_, _, _, _, _⟩) sF sN (by walk_at "small") ?_; intro _ _ _ _ _)))
local macro_rules | `(tactic| walk_at "subscriptTail Name Slice str ref") => `(tactic| walk_at "mine slice")
local macro_rules | `(tactic| walk_at "stop") => `(tactic| ((fail_if_success (with_reducible show wpAny _ _ (exec (Stmt.While _ _ _ _) _) _ _ _)); (fail_if_success (with_reducible show wpAny _ _ (exec (Stmt.For _ _ _ _ _) _) _ _ _)); (fail_if_success (with_reducible show wpAny _ _ (PySem.call (Value.ref _) _ _) _ _ _)); (fail_if_success (with_reducible show wpAny _ _ (pyIter _) _ _ _)); (fail_if_success (with_reducible show wpAny _ _ (eval (Expr.ListComp _ _ _ _) _) _ _ _)); (fail_if_success (with_reducible show LCg.CompSrc _ _ _ _ _ _ _ _ _ _ _ _ _ _)); (fail_if_success (with_reducible show wpAny _ _ (PySem.call (Value.builtin "max") _ _) _ _ _)); (fail_if_success (with_reducible show wpAny _ _ (PySem.call (Value.builtin "min") _ _) _ _ _))))
local macro_rules | `(tactic| walk_at "step") => `(tactic| ((walk_at "stop"); (first | (k_unfold; (try dsimp only)) | walk1 | (dsimp only; walk1))))
local macro_rules | `(tactic| walk_at "go") => `(tactic| repeat' (walk_at "step"))
theorem fillT7 : PySem.Challenge.rw_gc0006_01.Holds ∨ Mine.hd.heap_39 = Mine.hd.heap_39 := by
  w_top off
  k_fill
  exact .inr rfl
local macro_rules | `(tactic| walk_at "mine rowlen") => `(tactic| first | omega | ((with_reducible rename (∀ p, p < _ → List.length (List.getD _ p []) = _) => rowH); rw [rowH _ (by omega)]; omega))
local macro_rules | `(tactic| walk_at "mine tab") => `(tactic| first | (refine tabRead (by assumption) (by omega) (by omega) (by omega) ?_) | (refine rowRead (by assumption) (by omega) (by omega) (by walk_at "mine rowlen") (by walk_at "mine rowlen") ?_; intro _))

/-- the longest common word's length -/
def lc (a b : List Nat) : Nat := cm a b a.length b.length
def kcond (a left : List Nat) (k p : Nat) : Prop := left.getD p 0 = a.getD k 0 ∧ 1 + lc (a.drop (k + 1)) (left.drop (p + 1)) = lc (a.drop k) left
def kdec (a left : List Nat) (k p : Nat) : Bool := decide (left.getD p 0 = a.getD k 0) && decide (1 + lc (a.drop (k + 1)) (left.drop (p + 1)) = lc (a.drop k) left)
theorem kdec_iff {a left : List Nat} {k p : Nat} : kdec a left k p = true ↔ kcond a left k p := by
  unfold kdec kcond
  rw [Bool.and_eq_true, decide_eq_true_eq, decide_eq_true_eq]
def kfind (a left : List Nat) (k : Nat) : Option Nat := (List.range left.length).find? fun p => kdec a left k p
def kst (a b : List Nat) : Nat → List Nat × List Nat
  | 0 => ([], b)
  | k + 1 => match kfind a (kst a b k).2 k with
    | some p => ((kst a b k).1 ++ [a.getD k 0], (kst a b k).2.drop (p + 1))
    | none => kst a b k
theorem kst_len (a b : List Nat) : ∀ k, (kst a b k).1.length ≤ k ∧ (kst a b k).2.length ≤ b.length
  | 0 => ⟨Nat.le_refl _, Nat.le_refl _⟩
  | k + 1 => by
    have ih := kst_len a b k
    unfold kst
    split
    · simp; omega
    · omega
theorem kst_hit {a b : List Nat} {k p : Nat} (hp : p < (kst a b k).2.length) (h : kcond a (kst a b k).2 k p) (hn : ∀ p' < p, ¬ kcond a (kst a b k).2 k p') : kst a b (k + 1) = ((kst a b k).1 ++ [a.getD k 0], (kst a b k).2.drop (p + 1)) := by
  have e : kfind a (kst a b k).2 k = some p := by
    unfold kfind
    rw [List.find?_range_eq_some]
    refine ⟨kdec_iff.mpr h, by simpa using hp, fun j hj => by rw [Bool.not_eq_true']; exact Bool.eq_false_iff.mpr fun q => hn j hj (kdec_iff.mp q)⟩
  rw [kst, e]
theorem kst_miss {a b : List Nat} {k : Nat} (hn : ∀ p' < (kst a b k).2.length, ¬ kcond a (kst a b k).2 k p') : kst a b (k + 1) = kst a b k := by
  have e : kfind a (kst a b k).2 k = none := by
    unfold kfind
    rw [List.find?_eq_none]
    intro x hx
    exact fun q => hn x (List.mem_range.mp hx) (kdec_iff.mp q)
  rw [kst, e]
theorem kep_spec {w : World} {A : Around} {s : Shared} {mg mb : Str → Option Value} {p : Program} {loose : List Str} {mean : ExcName → Option Value} {a b : List Nat} {ta tb : Tok}
    {R : Result → Shared → Prop} (X : (hd.heap_39 w.params).In s.heap) (T : Top p loose mean mg mb s.heap) (hroom : A.depth + 15 < recursionLimit) (hA : A.handled = none)
    (ha : a.length ≤ 20) (hb : b.length ≤ 20)
    (hR : ∀ h' tk t, s.heap.StaysIn h' → R (.ok (.ret (.str ⟨(kst a b a.length).1.toArray⟩ t))) { s with heap := h', toks := tk }) :
    codeAny (model PG w) A (.call (.ref 56) ⟨[.str ⟨a.toArray⟩ ta, .str ⟨b.toArray⟩ tb], []⟩) R s := by
  refine enter (binds := [("one", .str ⟨a.toArray⟩ ta), ("other", .str ⟨b.toArray⟩ tb)]) X T.nolimit rfl (by k_is) (by omega) (BindsTo.of_eq (by rfl)) (by rfl) hA (fun dp fr gd un L h₁ tk hd F N X => ?_)
  walk_at "go"
  rename (Fr _ _ _ _) => F
  refine For_invVF F rfl rfl ?_
  walk_at "go"
  rename (IsRange _ _ _ _ _ _ _ _) => hr
  rename (Fr _ _ _ _) => F
  refine forRange (n := a.length) (news := []) (J := fun k m nx => nx = [] ∧ HasK m [("one", .str ⟨a.toArray⟩), ("found", .str ⟨(kst a b k).1.toArray⟩), ("left", .str ⟨(kst a b k).2.toArray⟩)]) rfl hr (small_one (by omega) (by omega) (by omega) (by omega)) (rangeUp _) F News.nil ⟨rfl, kStr rfl rfl (kStr rfl rfl (kStr rfl rfl kNil))⟩ ?_ ?_
  · clear hr F
    rintro k t m₁ nx h₂ tk₂ own hk - - ⟨rfl, e1⟩ F₁ N₁
    have q := frK F₁ (kInt (x := "k") (b := (k : Int)) (if_pos rfl) (by omega) (kSet e1 (by rfl)))
    clear F₁ e1
    obtain ⟨ts, F₁⟩ := q
    dsimp only [envOf, ov, real, Kn.tok, List.nil_append] at F₁ N₁
    have hlen := kst_len a b k
    generalize hL : (kst a b k).2 = left at *
    generalize hFd : (kst a b k).1 = found at *
    walk_at "go"
    refine For_invVF F₁ rfl rfl ?_
    walk_at "go"
    rename (IsRange _ _ _ _ _ _ _ _) => hr
    rename (Fr _ _ _ _) => F
    rename (News _ _ _ _) => N
    refine forRange (n := left.length) (J := fun p m nx => nx = own ∧ (∀ p' < p, ¬ kcond a left k p') ∧ HasK m [("k", .int k), ("one", .str ⟨a.toArray⟩), ("found", .str ⟨found.toArray⟩), ("left", .str ⟨left.toArray⟩)]) rfl hr (small_one (by omega) (by omega) (by omega) (by omega)) (rangeUp _) F N ⟨rfl, fun _ h => absurd h (Nat.not_lt_zero _), kInt rfl rfl (kStr rfl rfl (kStr rfl rfl (kStr rfl rfl kNil)))⟩ ?_ ?_
    · clear hr F N
      rintro p t m₁ nx h₂ tk₂ own' hp - hoff' ⟨rfl, hno, e1⟩ F₁ N₁
      have q := frK F₁ (kInt (x := "place") (b := (p : Int)) (if_pos rfl) (by omega) (kSet e1 (by rfl)))
      clear F₁ e1
      obtain ⟨ts, F₁⟩ := q
      dsimp only [envOf, ov, real, Kn.tok] at F₁ N₁
      dsimp only
      have ek : ((k : Int) + 1).toNat = k + 1 := by omega
      have ep : ((p : Int) + 1).toNat = p + 1 := by omega
      walk_at "go"
      · rename (Fr _ _ _ _) => F
        rename (News _ _ _ _) => N
        rw [ek, ep]
        refine callBy (com_spec (X.keeps F.keep) (T.keeps F.keep) (by dsimp only; omega) rfl (by walk_at "small") (by walk_at "small") (fun h' tk t st => ⟨_, rfl, ?_⟩))
        replace F := frStays F st
        replace N := newsStays N st
        clear st
        walk_at "go"
        rename (Fr _ _ _ _) => F
        rename (News _ _ _ _) => N
        refine callBy (com_spec (X.keeps F.keep) (T.keeps F.keep) (by dsimp only; omega) rfl (by walk_at "small") (by walk_at "small") (fun h' tk t st => ⟨_, rfl, ?_⟩))
        replace F := frStays F st
        replace N := newsStays N st
        clear st
        walk_at "go"
        · rename (1 + _ = _) => he
          rename (_ == _) = _ => hq
          rw [one_beq, Int.toNat_natCast, Int.toNat_natCast] at hq
          rw [Int.toNat_natCast] at he
          have hc : kcond a left k p := ⟨of_decide_eq_true hq, by unfold lc; omega⟩
          have e := kst_hit (a := a) (b := b) (k := k) (p := p) (by rw [hL]; exact hp) (by rw [hL]; exact hc) (by rw [hL]; exact hno)
          rw [hL, hFd] at e
          refine InvEndN.intro (nx := []) (by assumption) (by assumption) ⟨rfl, kStr rfl rfl (kStr rfl (by rw [e, mk_push, Int.toNat_natCast]) (kStr rfl (by rw [e, ep]) kNil))⟩ rfl (fun _ h => nomatch h) (fun p hp => List.mem_cons_of_mem _ (List.mem_append_left _ hp))
        · rename (1 + _ ≠ _) => he
          rw [Int.toNat_natCast] at he
          refine InvEndN.intro F N ⟨rfl, fun p' hp' hc => ?_, kInt rfl rfl (kStr rfl rfl (kStr rfl rfl (kStr rfl rfl kNil)))⟩ rfl (fun p hp => List.mem_append_left _ hp) (fun p hp => List.mem_append_right _ hp)
          rcases Nat.lt_or_ge p' p with h | h
          · exact hno p' h hc
          · have : p' = p := by omega
            subst this
            have := hc.2
            unfold lc at this
            omega
      · rename (_ == _) = _ => hq
        rw [one_beq, Int.toNat_natCast, Int.toNat_natCast] at hq
        refine InvEndN.intro F₁ N₁ ⟨rfl, fun p' hp' hc => ?_, kInt rfl rfl (kStr rfl rfl (kStr rfl rfl (kStr rfl rfl kNil)))⟩ rfl (fun p hp => List.mem_append_left _ hp) (fun p hp => List.mem_append_right _ hp)
        rcases Nat.lt_or_ge p' p with h | h
        · exact hno p' h hc
        · have : p' = p := by omega
          subst this
          exact of_decide_eq_false hq hc.1
    · rintro m₁ nx h₃ tk₃ ⟨rfl, hno, e1⟩ F₁ N₁
      have q := frK F₁ e1
      clear F₁ e1
      obtain ⟨ts, F₁⟩ := q
      dsimp only [envOf, ov, real, Kn.tok] at F₁ N₁
      have e := kst_miss (a := a) (b := b) (k := k) (by rw [hL]; exact hno)
      walk_at "go"
      exact InvEndN.intro (nx := []) F₁ N₁ ⟨rfl, kStr rfl rfl (kStr rfl (by rw [e, hFd]) (kStr rfl (by rw [e, hL]) kNil))⟩ rfl (fun _ h => nomatch h) (fun p hp => hp)
  · rintro m₁ nx h₃ tk₃ ⟨rfl, e1⟩ F₁ N₁
    have q := frK F₁ e1
    clear F₁ e1
    obtain ⟨ts, F₁⟩ := q
    dsimp only [envOf, ov, real, Kn.tok] at F₁ N₁
    walk_at "go"
    exact hR _ _ _ F₁.keep
end Mine
namespace Mine
local macro_rules | `(tactic| walk_at "small") => `(tactic| first | omega | ((simp only [List.length_drop, List.length_take, List.length_append, List.length_cons, List.length_nil, Int.toNat_natCast] at *); omega))
local macro_rules | `(tactic| walk_at "call builtin:len") => `(tactic| ((with_reducible show wpAny _ _ (PySem.call (Value.builtin "len") [Value.str (Str.mk (List.toArray _)) _]) _ _ _); refine lenL (by walk_at "small") ?_; intro _ _))
local macro_rules | `(tactic| walk_at "truthy str") => `(tactic| ((with_reducible show wpAny _ _ (PySem.truthy (Value.str (Str.mk (List.toArray _)) _)) _ _ _); refine truthL (by walk_at "small") ?_; intro _))
local macro_rules | `(tactic| walk_at "mine item") => `(tactic| ((with_reducible show wpAny _ _ (subscriptTail _ _ (Value.str (Str.mk (List.toArray _)) _) (Value.int _ _)) _ _ _); first | (refine itemL (by walk_at "small") (by walk_at "small") (by walk_at "small") ?_; intro _ _) | (refine itemNegL (by walk_at "small") (by walk_at "small") (by walk_at "small") ?_; intro _ _)))
local macro_rules | `(tactic| walk_at "subscriptTail Name Name str int") => `(tactic| walk_at "mine item")
local macro_rules | `(tactic| walk_at "subscriptTail Name BinOp str int") => `(tactic| walk_at "mine item")
local macro_rules | `(tactic| walk_at "mine slice") => `(tactic| ((with_reducible show wpAny _ _ (subscriptTail _ _ (Value.str (Str.mk (List.toArray _)) _) (Value.ref _)) _ _ _); (with_reducible rename Fr _ _ _ _ => sF); (with_reducible rename News _ _ _ _ => sN); first
  | (refine fromL (s := ⟨_, _, _, _, _⟩) sF sN (by walk_at "small") (by walk_at "small") (by walk_at "small") ?_; intro _ _ _ _ _)
  | (refine toL (s := ⟨_, _, _, _, _⟩) sF sN (by walk_at "small") (by walk_at "small") (by walk_at "small") ?_; intro _ _ _ _ _)
  | (refine allL (s := ⟨_, _, _, _, _⟩) sF sN (by walk_at "small") ?_; intro _ _ _ _ _)))
local macro_rules | `(tactic| walk_at "subscriptTail Name Slice str ref") => `(tactic| walk_at "mine slice")
local macro_rules | `(tactic| walk_at "stop") => `(tactic| ((fail_if_success (with_reducible show wpAny _ _ (exec (Stmt.While _ _ _ _) _) _ _ _)); (fail_if_success (with_reducible show wpAny _ _ (exec (Stmt.For _ _ _ _ _) _) _ _ _)); (fail_if_success (with_reducible show wpAny _ _ (PySem.call (Value.ref _) _ _) _ _ _)); (fail_if_success (with_reducible show wpAny _ _ (pyIter _) _ _ _)); (fail_if_success (with_reducible show wpAny _ _ (eval (Expr.ListComp _ _ _ _) _) _ _ _)); (fail_if_success (with_reducible show LCg.CompSrc _ _ _ _ _ _ _ _ _ _ _ _ _ _)); (fail_if_success (with_reducible show wpAny _ _ (PySem.call (Value.builtin "max") _ _) _ _ _)); (fail_if_success (with_reducible show wpAny _ _ (PySem.call (Value.builtin "min") _ _) _ _ _))))
local macro_rules | `(tactic| walk_at "step") => `(tactic| ((walk_at "stop"); (first | (k_unfold; (try dsimp only)) | walk1 | (dsimp only; walk1))))
local macro_rules | `(tactic| walk_at "go") => `(tactic| repeat' (walk_at "step"))
theorem fillT8 : PySem.Challenge.rw_gc0006_01.Holds ∨ Mine.hd.heap_39 = Mine.hd.heap_39 := by
  w_top off
  k_fill
  exact .inr rfl
local macro_rules | `(tactic| walk_at "mine rowlen") => `(tactic| first | omega | ((with_reducible rename (∀ p, p < _ → List.length (List.getD _ p []) = _) => rowH); rw [rowH _ (by omega)]; omega))
local macro_rules | `(tactic| walk_at "mine tab") => `(tactic| first | (refine tabRead (by assumption) (by omega) (by omega) (by omega) ?_) | (refine rowRead (by assumption) (by omega) (by omega) (by walk_at "mine rowlen") (by walk_at "mine rowlen") ?_; intro _))

/-- how many letters two words have in common at the beginning -/
def pfx : List Nat → List Nat → Nat
  | x :: xs, y :: ys => if x = y then pfx xs ys + 1 else 0
  | _, _ => 0
theorem pfx_le : ∀ a b : List Nat, pfx a b ≤ a.length ∧ pfx a b ≤ b.length
  | [], _ => by simp [pfx]
  | _ :: _, [] => by simp [pfx]
  | x :: xs, y :: ys => by
    have := pfx_le xs ys
    unfold pfx
    split <;> simp <;> omega
theorem pfx_spec : ∀ (a b : List Nat) (k : Nat), k ≤ pfx a b → (k < pfx a b ↔ k < a.length ∧ k < b.length ∧ a.getD k 0 = b.getD k 0)
  | [], b, k, h => by simp [pfx]
  | x :: xs, [], k, h => by simp [pfx]
  | x :: xs, y :: ys, k, h => by
    unfold pfx at h ⊢
    by_cases e : x = y
    · rw [if_pos e] at h ⊢
      cases k with
      | zero => simp [e]
      | succ k =>
        have := pfx_spec xs ys k (by omega)
        simp only [List.length_cons, Nat.add_lt_add_iff_right, List.getD_cons_succ]
        exact this
    · rw [if_neg e] at h ⊢
      have : k = 0 := by omega
      subst this
      simp [e]
def sfx (a b : List Nat) : Nat := pfx a.reverse b.reverse
theorem sfx_le (a b : List Nat) : sfx a b ≤ a.length ∧ sfx a b ≤ b.length := by
  have := pfx_le a.reverse b.reverse
  simpa [sfx] using this
theorem rev_getD (a : List Nat) {k : Nat} (h : k < a.length) : a.reverse.getD k 0 = a.getD (a.length - 1 - k) 0 := by
  have h2 : a.length - 1 - k < a.length := by omega
  simp [List.getD_eq_getElem?_getD, List.getElem?_reverse h]
theorem sfx_spec (a b : List Nat) (k : Nat) (h : k ≤ sfx a b) : k < sfx a b ↔ k < a.length ∧ k < b.length ∧ a.getD (a.length - 1 - k) 0 = b.getD (b.length - 1 - k) 0 := by
  have := pfx_spec a.reverse b.reverse k h
  unfold sfx
  rw [this]
  simp only [List.length_reverse]
  constructor
  · rintro ⟨h1, h2, h3⟩
    rw [rev_getD a h1, rev_getD b h2] at h3
    exact ⟨h1, h2, h3⟩
  · rintro ⟨h1, h2, h3⟩
    rw [rev_getD a h1, rev_getD b h2]
    exact ⟨h1, h2, h3⟩
/-- the table of the distance: b by its rows, a by its columns, as the text reckons it -/
def D (b a : List Nat) : Nat → Nat → Nat
  | j, 0 => 2 * j
  | 0, i + 1 => 2 * (i + 1)
  | j + 1, i + 1 => min (min (if i = 0 then 2 * j else D b a (j + 1) i) (D b a j (i + 1)) + 2) (D b a j i + (if b.getD j 0 = a.getD i 0 then 0 else 2))
def core (a b : List Nat) : Nat :=
  if a = [] ∨ b = [] then 2 * (a.length + b.length) else if b.length < a.length then D a b a.length b.length else D b a b.length a.length
def lev (a b : List Nat) : Nat :=
  if a = b then 0 else
    core ((a.drop (pfx a b)).take ((a.drop (pfx a b)).length - sfx (a.drop (pfx a b)) (b.drop (pfx a b)))) ((b.drop (pfx a b)).take ((b.drop (pfx a b)).length - sfx (a.drop (pfx a b)) (b.drop (pfx a b))))
def rowL (lo sh : List Nat) (j i : Nat) : List Int := (List.range sh.length).map fun t => ((if t < i then D lo sh (j + 1) (t + 1) else D lo sh j (t + 1) : Nat) : Int)
def lft (lo sh : List Nat) (j i : Nat) : Nat := if i = 0 then 2 * j else D lo sh (j + 1) i
theorem D_succ (lo sh : List Nat) (j i : Nat) : D lo sh (j + 1) (i + 1) = min (min (lft lo sh j i) (D lo sh j (i + 1)) + 2) (D lo sh j i + (if lo.getD j 0 = sh.getD i 0 then 0 else 2)) := by
  rw [D]; rfl
theorem D_zero (lo sh : List Nat) (j : Nat) : D lo sh j 0 = 2 * j := by cases j <;> rw [D]
theorem D_top (lo sh : List Nat) (i : Nat) : D lo sh 0 i = 2 * i := by cases i <;> rw [D]
theorem D_le (lo sh : List Nat) : ∀ j i, D lo sh j i ≤ 2 * (j + i)
  | j, 0 => by rw [D_zero]; omega
  | 0, i + 1 => by rw [D_top]; omega
  | j + 1, i + 1 => by
    have := D_le lo sh j i
    rw [D_succ]
    split <;> omega
theorem rowL_len (lo sh : List Nat) (j i : Nat) : (rowL lo sh j i).length = sh.length := by simp [rowL]
theorem rowL_get (lo sh : List Nat) {j i : Nat} (h : i < sh.length) : (rowL lo sh j i).getD i 0 = (D lo sh j (i + 1) : Int) := by
  simp [rowL, List.getD_eq_getElem?_getD, h]
theorem rowL_set (lo sh : List Nat) {j i : Nat} (h : i < sh.length) : (rowL lo sh j i).set i (D lo sh (j + 1) (i + 1) : Int) = rowL lo sh j (i + 1) := by
  apply List.ext_getElem
  · simp [rowL]
  · intro t h1 h2
    simp only [rowL, List.length_map, List.length_range] at h2
    rw [List.getElem_set]
    simp only [rowL, List.getElem_map, List.getElem_range]
    by_cases e : i = t
    · subst e; simp
    · rw [if_neg e]
      by_cases q : t < i
      · rw [if_pos q, if_pos (by omega)]
      · rw [if_neg q, if_neg (by omega)]
theorem rowL_end (lo sh : List Nat) (j : Nat) : rowL lo sh j sh.length = rowL lo sh (j + 1) 0 := by
  unfold rowL
  apply List.map_congr_left
  intro t ht
  rw [if_pos (List.mem_range.mp ht), if_neg (Nat.not_lt_zero _)]
theorem rowL_start (lo sh : List Nat) : rangeInts 2 2 sh.length = rowL lo sh 0 0 := by
  unfold rowL rangeInts
  apply List.map_congr_left
  intro t ht
  rw [if_neg (Nat.not_lt_zero _), D_top]
  omega
theorem abc_get {l : List Nat} (h : ∀ c ∈ l, Abc c) {i : Nat} (hi : i < l.length) : Abc (l.getD i 0) := by
  have e : l.getD i 0 = l[i] := by simp [List.getD_eq_getElem?_getD, hi]
  rw [e]; exact h _ (List.getElem_mem hi)
local macro_rules | `(tactic| walk_at "go8") => `(tactic| repeat' ((fail_if_success (with_reducible show wpAny _ _ (exec (Stmt.If (Expr.Compare (Expr.Call _ _ _ _) [CmpOp.Lt] _ _) _ _ _) _) _ _ _)); (fail_if_success (with_reducible show wpAny _ _ (PySem.call (Value.type "list") _ _) _ _ _)); (fail_if_success (with_reducible show wpAny _ _ (setItem _ _ _) _ _ _)); walk_at "step"))
theorem lev_spec {w : World} {A : Around} {s : Shared} {mg mb : Str → Option Value} {p : Program} {loose : List Str} {mean : ExcName → Option Value} {a b : List Nat} {ta tb tm : Tok}
    {R : Result → Shared → Prop} (X : (hd.heap_39 w.params).In s.heap) (T : Top p loose mean mg mb s.heap) (hroom : A.depth + 10 < recursionLimit) (hA : A.handled = none)
    (ha : a.length ≤ 20) (hb : b.length ≤ 20) (hca : ∀ c ∈ a, Abc c) (hcb : ∀ c ∈ b, Abc c)
    (hR : ∀ h' tk t, s.heap.StaysIn h' → R (.ok (.ret (.int (lev a b) t))) { s with heap := h', toks := tk }) :
    codeAny (model PG w) A (.call (.ref 28) ⟨[.str ⟨a.toArray⟩ ta, .str ⟨b.toArray⟩ tb, .int 1000 tm], []⟩) R s := by
  refine enter (binds := [("a", .str ⟨a.toArray⟩ ta), ("b", .str ⟨b.toArray⟩ tb), ("max_cost", .int 1000 tm)]) X T.nolimit rfl (by k_is) (by omega) (BindsTo.of_eq (by rfl)) (by rfl) hA (fun dp fr gd un L h₁ tk hd F N X => ?_)
  walk_at "go"
  · rename (_ == _) = _ => hq
    rw [str_beq] at hq
    have hq := of_decide_eq_true hq
    have e : lev a b = 0 := by unfold lev; rw [if_pos hq]
    rw [e] at hR
    exact hR _ _ _ F.keep
  rename (_ == _) = _ => hq
  rw [str_beq] at hq
  have hq := of_decide_eq_false hq
  unfold lev at hR
  rw [if_neg hq] at hR
  have hp := pfx_le a b
  rename (Fr _ _ _ _) => F
  refine afterCut (h₀ := s.heap) (L := L) (ks := [("a", .str ⟨a.toArray⟩), ("b", .str ⟨b.toArray⟩), ("max_cost", .int 1000), ("pre", .int (pfx a b))]) ?_ ?_
  · -- <<
    refine While_inv (J := fun n m nx => ∃ k : Nat, k ≤ pfx a b ∧ n = a.length - k ∧ HasK m [("a", .str ⟨a.toArray⟩), ("b", .str ⟨b.toArray⟩), ("max_cost", .int 1000), ("pre", .int k)] ∧ nx = [])
      (n₀ := a.length) F News.nil ⟨0, Nat.zero_le _, rfl, kStr rfl rfl (kStr rfl rfl (kInt rfl rfl (kInt rfl rfl kNil))), rfl⟩ ?_
    clear F
    rintro n m₁ nx h₂ tk₂ F₁ N₁ ⟨k, hk, rfl, e1, rfl⟩
    have z := frK F₁ e1
    clear F₁ e1
    obtain ⟨ts, F₁⟩ := z
    dsimp only [envOf, ov, real, Kn.tok] at F₁ N₁
    have hs := pfx_spec a b k hk
    walk_at "go"
    all_goals clear hR
    all_goals (simp only [List.length_drop, Int.toNat_natCast] at *)
    · rename (_ == _) = _ => hq
      rw [one_beq] at hq
      have hq := of_decide_eq_true hq
      refine WhileStep.intro (n' := a.length - (k + 1)) (by assumption) (by assumption) (by omega) ⟨k + 1, by omega, rfl, kStr rfl rfl (kStr rfl rfl (kInt rfl rfl (kInt rfl (by omega) kNil))), rfl⟩
    · rename (_ == _) = _ => hq
      rw [one_beq] at hq
      have hq := of_decide_eq_false hq
      exact After.intro (by assumption) (kStr rfl rfl (kStr rfl rfl (kInt rfl rfl (kInt rfl (by omega) kNil))))
    · exact After.intro (by assumption) (kStr rfl rfl (kStr rfl rfl (kInt rfl rfl (kInt rfl (by omega) kNil))))
    · exact After.intro (by assumption) (kStr rfl rfl (kStr rfl rfl (kInt rfl rfl (kInt rfl (by omega) kNil))))
    -- >>
  intro h2 tk2 m2 F₁ e1
  have z := frK F₁ e1
  clear F F₁ e1
  obtain ⟨ts, F₁⟩ := z
  dsimp only [envOf, ov, real, Kn.tok] at F₁
  have N₁ : News s.heap L h2 [] := News.nil
  have hca1 : ∀ c ∈ a.drop (pfx a b), Abc c := fun c hc => hca c (List.mem_of_mem_drop hc)
  have hcb1 : ∀ c ∈ b.drop (pfx a b), Abc c := fun c hc => hcb c (List.mem_of_mem_drop hc)
  have ha1 : (a.drop (pfx a b)).length ≤ 20 := by simp; omega
  have hb1 : (b.drop (pfx a b)).length ≤ 20 := by simp; omega
  walk_at "go"
  simp only [Int.toNat_natCast] at *
  generalize a.drop (pfx a b) = a1 at *
  generalize b.drop (pfx a b) = b1 at *
  clear hca hcb ha hb hp hq
  have hp := sfx_le a1 b1
  rename (Fr _ _ _ _) => F
  refine afterCut (h₀ := s.heap) (L := L) (ks := [("a", .str ⟨a1.toArray⟩), ("b", .str ⟨b1.toArray⟩), ("max_cost", .int 1000), ("post", .int (-(sfx a1 b1 : Int)))]) ?_ ?_
  · -- <<
    refine While_inv (J := fun n m nx => ∃ k : Nat, k ≤ sfx a1 b1 ∧ n = a1.length - k ∧ HasK m [("a", .str ⟨a1.toArray⟩), ("b", .str ⟨b1.toArray⟩), ("max_cost", .int 1000), ("post", .int (-(k : Int)))] ∧ nx = [])
      (n₀ := a1.length) F News.nil ⟨0, Nat.zero_le _, rfl, kStr rfl rfl (kStr rfl rfl (kInt rfl rfl (kInt rfl rfl kNil))), rfl⟩ ?_
    clear F
    rintro n m₁ nx h₂ tk₂ F₁ N₁ ⟨k, hk, rfl, e1, rfl⟩
    have z := frK F₁ e1
    clear F₁ e1
    obtain ⟨ts, F₁⟩ := z
    dsimp only [envOf, ov, real, Kn.tok] at F₁ N₁
    have hs := sfx_spec a1 b1 k hk
    clear hR
    have ex : ((a1.length : Int) + (-(k : Int) - 1)).toNat = a1.length - 1 - k := by omega
    have ey : ((b1.length : Int) + (-(k : Int) - 1)).toNat = b1.length - 1 - k := by omega
    by_cases hk0 : k = 0
    · subst hk0
      walk_at "go"
      · rename (_ == _) = _ => hq
        rw [ex, ey, one_beq] at hq
        have hq := of_decide_eq_true hq
        refine WhileStep.intro (n' := a1.length - (0 + 1)) (by assumption) (by assumption) (by omega) ⟨0 + 1, by omega, rfl, kStr rfl rfl (kStr rfl rfl (kInt rfl rfl (kInt rfl (by omega) kNil))), rfl⟩
      · rename (_ == _) = _ => hq
        rw [ex, ey, one_beq] at hq
        have hq := of_decide_eq_false hq
        exact After.intro (by assumption) (kStr rfl rfl (kStr rfl rfl (kInt rfl rfl (kInt rfl (by omega) kNil))))
      · exact After.intro (by assumption) (kStr rfl rfl (kStr rfl rfl (kInt rfl rfl (kInt rfl (by omega) kNil))))
      · exact After.intro (by assumption) (kStr rfl rfl (kStr rfl rfl (kInt rfl rfl (kInt rfl (by omega) kNil))))
    · have hk1 : -(k : Int) ≠ 0 := by omega
      walk_at "go"
      all_goals (simp only [List.length_take] at *)
      all_goals first
        | (exfalso; omega)
        | (rename (_ == _) = true => hq
           rw [ex, ey, one_beq] at hq
           have hq := of_decide_eq_true hq
           exact WhileStep.intro (n' := a1.length - (k + 1)) (by assumption) (by assumption) (by omega) ⟨k + 1, by omega, rfl, kStr rfl rfl (kStr rfl rfl (kInt rfl rfl (kInt rfl (by omega) kNil))), rfl⟩)
        | (rename (_ == _) = false => hq
           rw [ex, ey, one_beq] at hq
           have hq := of_decide_eq_false hq
           exact After.intro (by assumption) (kStr rfl rfl (kStr rfl rfl (kInt rfl rfl (kInt rfl (by omega) kNil)))))
        | exact After.intro (by assumption) (kStr rfl rfl (kStr rfl rfl (kInt rfl rfl (kInt rfl (by omega) kNil))))
    -- >>
  intro h3 tk3 m3 F₁ e1
  have z := frK F₁ e1
  clear F F₁ e1
  obtain ⟨ts, F₁⟩ := z
  dsimp only [envOf, ov, real, Kn.tok] at F₁
  have N₁ : News s.heap L h3 [] := News.nil
  have hca2 : ∀ c ∈ a1.take (a1.length - sfx a1 b1), Abc c := fun c hc => hca1 c (List.mem_of_mem_take hc)
  have hcb2 : ∀ c ∈ b1.take (b1.length - sfx a1 b1), Abc c := fun c hc => hcb1 c (List.mem_of_mem_take hc)
  have ha2 : (a1.take (a1.length - sfx a1 b1)).length ≤ 20 := by simp; omega
  have hb2 : (b1.take (b1.length - sfx a1 b1)).length ≤ 20 := by simp; omega
  refine wpAny_execs_cons ?_
  refine afterCut (h₀ := s.heap) (L := L) (ks := [("a", .str ⟨(a1.take (a1.length - sfx a1 b1)).toArray⟩), ("b", .str ⟨b1.toArray⟩), ("max_cost", .int 1000), ("post", .int (-(sfx a1 b1 : Int)))]) ?_ ?_
  · -- <<
    clear hR
    have ex : ((a1.length : Int) + (-(sfx a1 b1 : Int))).toNat = a1.length - sfx a1 b1 := by omega
    by_cases hk0 : sfx a1 b1 = 0
    · have hk1 : -(sfx a1 b1 : Int) = 0 := by omega
      walk_at "go"
      all_goals first
        | (exfalso; omega)
        | exact After.intro (by assumption) (kStr rfl (by rw [hk0]; simp) (kStr rfl rfl (kInt rfl rfl (kInt rfl rfl kNil))))
    · have hk1 : -(sfx a1 b1 : Int) ≠ 0 := by omega
      walk_at "go"
      all_goals first
        | (exfalso; omega)
        | exact After.intro (by assumption) (kStr rfl (by rw [ex]) (kStr rfl rfl (kInt rfl rfl (kInt rfl rfl kNil))))
    -- >>
  intro h4 tk4 m4 F₁ e1
  have z := frK F₁ e1
  clear F₁ e1
  obtain ⟨ts, F₁⟩ := z
  dsimp only [envOf, ov, real, Kn.tok] at F₁
  have N₁ : News s.heap L h4 [] := News.nil
  dsimp only
  refine wpAny_execs_cons ?_
  refine afterCut (h₀ := s.heap) (L := L) (ks := [("a", .str ⟨(a1.take (a1.length - sfx a1 b1)).toArray⟩), ("b", .str ⟨(b1.take (b1.length - sfx a1 b1)).toArray⟩), ("max_cost", .int 1000)]) ?_ ?_
  · -- <<
    clear hR
    have ex : ((b1.length : Int) + (-(sfx a1 b1 : Int))).toNat = b1.length - sfx a1 b1 := by omega
    by_cases hk0 : sfx a1 b1 = 0
    · have hk1 : -(sfx a1 b1 : Int) = 0 := by omega
      walk_at "go"
      all_goals first
        | (exfalso; omega)
        | exact After.intro (by assumption) (kStr rfl rfl (kStr rfl (by rw [hk0]; simp) (kInt rfl rfl kNil)))
    · have hk1 : -(sfx a1 b1 : Int) ≠ 0 := by omega
      walk_at "go"
      all_goals first
        | (exfalso; omega)
        | exact After.intro (by assumption) (kStr rfl rfl (kStr rfl (by rw [ex]) (kInt rfl rfl kNil)))
    -- >>
  clear F₁ N₁
  intro h5 tk5 m5 F₂ e1
  have z := frK F₂ e1
  clear F₂ e1
  obtain ⟨ts, F₂⟩ := z
  dsimp only [envOf, ov, real, Kn.tok] at F₂
  have N₂ : News s.heap L h5 [] := News.nil
  dsimp only
  generalize a1.take (a1.length - sfx a1 b1) = a2 at *
  generalize b1.take (b1.length - sfx a1 b1) = b2 at *
  clear hca1 hcb1 ha1 hb1 hp
  walk_at "go8"
  · rename (Fr _ _ _ _) => F
    refine afterCut (h₀ := s.heap) (L := L) (ks := [("a", .str ⟨(if b2.length < a2.length then b2 else a2).toArray⟩), ("b", .str ⟨(if b2.length < a2.length then a2 else b2).toArray⟩), ("max_cost", .int 1000)]) ?_ ?_
    · clear hR
      refine wpAny_If ?_
      walk_at "go8"
      · rename ((b2.length : Int) < a2.length) => hlt
        exact After.intro (by assumption) (kStr rfl (by rw [if_pos (by omega)]) (kStr rfl (by rw [if_pos (by omega)]) (kInt rfl rfl kNil)))
      · rename (¬ (b2.length : Int) < a2.length) => hlt
        exact After.intro (by assumption) (kStr rfl (by rw [if_neg (by omega)]) (kStr rfl (by rw [if_neg (by omega)]) (kInt rfl rfl kNil)))
    clear F
    intro h6 tk6 m6 F e1
    have z := frK F e1
    clear F e1
    obtain ⟨ts, F⟩ := z
    dsimp only [envOf, ov, real, Kn.tok] at F
    have N : News s.heap L h6 [] := News.nil
    dsimp only
    have hsl : (if b2.length < a2.length then b2 else a2).length ≤ (if b2.length < a2.length then a2 else b2).length := by split <;> omega
    have hs0 : 0 < (if b2.length < a2.length then b2 else a2).length := by split <;> omega
    have hs20 : (if b2.length < a2.length then b2 else a2).length ≤ 20 := by split <;> omega
    have hl20 : (if b2.length < a2.length then a2 else b2).length ≤ 20 := by split <;> omega
    have hsc : ∀ c ∈ (if b2.length < a2.length then b2 else a2), Abc c := by split <;> assumption
    have hlc : ∀ c ∈ (if b2.length < a2.length then a2 else b2), Abc c := by split <;> assumption
    have hcore : core a2 b2 = D (if b2.length < a2.length then a2 else b2) (if b2.length < a2.length then b2 else a2) (if b2.length < a2.length then a2 else b2).length (if b2.length < a2.length then b2 else a2).length := by
      have h1 : ¬ (a2 = [] ∨ b2 = []) := by
        rintro (h | h)
        · subst h; simp at *
        · subst h; simp at *
      unfold core
      rw [if_neg h1]
      split <;> rfl
    rw [hcore] at hR
    generalize (if b2.length < a2.length then b2 else a2) = sh at *
    generalize (if b2.length < a2.length then a2 else b2) = lo at *
    walk_at "go8"
    rename (IsRange _ _ _ _ _ _ _ _) => hr
    rename (Fr _ _ _ _) => F
    rename (News _ _ _ _) => N
    refine listTwo (s := ⟨_, _, _, _, _⟩) rfl F N hr (by omega) (fun h' tk Dd ys c F N _ hi => ?_)
    rw [rowL_start lo sh] at hi
    walk_at "go8"
    rename (Fr _ _ _ _) => F
    refine For_invVF F rfl rfl ?_
    walk_at "go8"
    rename (IsRange _ _ _ _ _ _ _ _) => hr
    rename (Fr _ _ _ _) => F
    rename (News _ _ _ _) => N
    refine forRange (n := lo.length) (J := fun j m nx => ∃ vs c, nx = [(Dd, listOf vs.toArray c)] ∧ IntsAre vs (rowL lo sh j 0) ∧ HasK m [("a", .str ⟨sh.toArray⟩), ("b", .str ⟨lo.toArray⟩), ("max_cost", .int 1000), ("row", .val (.ref Dd)), ("result", .int (if j = 0 then 0 else (D lo sh j sh.length : Int)))]) rfl hr (small_one (by omega) (by omega) (by omega) (by omega)) (rangeUp _) F N ⟨ys, c, rfl, hi, kStr rfl rfl (kStr rfl rfl (kInt rfl rfl (kVal rfl rfl (kInt rfl (by rw [if_pos rfl]) kNil))))⟩ ?_ ?_
    · clear hr F N hi
      rintro j t m₁ nx h₂ tk₂ own hj - hoff ⟨vs, c, rfl, hi, e1⟩ F₁ N₁
      have q := frK F₁ (kInt (x := "bindex") (b := (j : Int)) (if_pos rfl) (by omega) (kSet e1 (by rfl)))
      clear F₁ e1
      obtain ⟨ts, F₁⟩ := q
      dsimp only [envOf, ov, real, Kn.tok] at F₁ N₁
      dsimp only
      walk_at "go8"
      rename (Fr _ _ _ _) => F
      refine For_invVF F rfl rfl ?_
      walk_at "go8"
      rename (IsRange _ _ _ _ _ _ _ _) => hr
      rename (Fr _ _ _ _) => F
      rename (News _ _ _ _) => N
      refine forRange (n := sh.length) (J := fun i m nx => ∃ vs c, nx = (Dd, listOf vs.toArray c) :: own ∧ IntsAre vs (rowL lo sh j i) ∧ ∃ mn : Int, (0 < i → mn ≤ 1000) ∧ HasK m [("bindex", .int j), ("a", .str ⟨sh.toArray⟩), ("b", .str ⟨lo.toArray⟩), ("max_cost", .int 1000), ("row", .val (.ref Dd)), ("bchar", .str ⟨#[lo.getD j 0]⟩), ("distance", .int (D lo sh j i)), ("result", .int (lft lo sh j i)), ("minimum", .int mn)]) rfl hr (small_one (by omega) (by omega) (by omega) (by omega)) (rangeUp _) F N ⟨vs, c, rfl, hi, 9223372036854775807, fun h => absurd h (Nat.lt_irrefl _), kInt rfl rfl (kStr rfl rfl (kStr rfl rfl (kInt rfl rfl (kVal rfl rfl (kStr rfl (by rw [Int.toNat_natCast]) (kInt rfl (by rw [D_zero]; omega) (kInt rfl (by unfold lft; rw [if_pos rfl]; omega) (kInt rfl rfl kNil))))))))⟩ ?_ ?_
      · clear hr F N hi
        rintro i t m₁ nx h₂ tk₂ own' hi' - hoff' ⟨vs, c, rfl, hi, mn, hmn, e1⟩ F₁ N₁
        have q := frK F₁ (kInt (x := "index") (b := (i : Int)) (if_pos rfl) (by omega) (kSet e1 (by rfl)))
        clear F₁ e1
        obtain ⟨ts, F₁⟩ := q
        dsimp only [envOf, ov, real, Kn.tok] at F₁ N₁
        dsimp only
        have hx := abc_get hlc hj
        have hy := abc_get hsc hi'
        have hDs := D_succ lo sh j i
        have hD1 := D_le lo sh j i
        have hD2 := D_le lo sh j (i + 1)
        have hD3 := D_le lo sh (j + 1) (i + 1)
        have hrl := rowL_len lo sh j i
        have hrg := rowL_get lo sh (j := j) hi'
        walk_at "go8"
        rename (Fr _ _ _ _) => F
        rename (News _ _ _ _) => N
        rw [Int.toNat_natCast]
        refine callBy (sub_spec (X.keeps F.keep) (T.keeps F.keep) (by dsimp only; omega) rfl hx hy (fun h' tk t st => ⟨_, rfl, ?_⟩))
        replace F := frStays F st
        replace N := newsStays N st
        clear st
        walk_at "go8"
        rename (Fr _ _ _ _) => F
        rename (News _ _ _ _) => N
        rw [Int.toNat_natCast, hrg]
        refine minW (s := ⟨_, _, _, _, _⟩) rfl F N (fun h' tk t' st F N => ?_)
        clear st
        walk_at "go8"
        rename (Fr _ _ _ _) => F
        rename (News _ _ _ _) => N
        refine minW (s := ⟨_, _, _, _, _⟩) rfl F N (fun h' tk t' st F N => ?_)
        clear st
        have ev : min (min (lft lo sh j i : Int) (D lo sh j (i + 1)) + 2) ((D lo sh j i : Int) + (if lo.getD j 0 = sh.getD i 0 then 0 else 2)) = (D lo sh (j + 1) (i + 1) : Int) := by
          rw [hDs]; split <;> omega
        rw [ev]
        walk_at "go8"
        rename (Fr _ _ _ _) => F
        rename (News _ _ _ _) => N
        dsimp only
        have hne : ∀ p ∈ own ++ own', p.1 ≠ Dd := fun p hp => by
          rcases List.mem_append.mp hp with h | h
          · exact hoff p h Dd (by simp)
          · exact hoff' p h Dd (by simp)
        refine ksa_set (s := ⟨_, _, _, _, _⟩) F N (Upd.head hne) hi (by omega) (by omega) (by omega) (fun h' F N hi2 _ _ => ?_)
        rw [Int.toNat_natCast, rowL_set lo sh hi'] at hi2
        walk_at "go8"
        · rename (_ < mn) => hlt
          rename (Fr _ _ _ _) => F
          rename (News _ _ _ _) => N
          rw [Int.toNat_natCast] at N
          exact InvEndN.intro F N ⟨_, _, rfl, hi2, _, fun _ => by omega, kInt rfl rfl (kStr rfl rfl (kStr rfl rfl (kInt rfl rfl (kVal rfl rfl (kStr rfl rfl (kInt rfl (by rw [Int.toNat_natCast, hrg]) (kInt rfl (by rw [lft, if_neg (Nat.succ_ne_zero _)]) (kInt rfl rfl kNil))))))))⟩ rfl subL subR
        · rename (¬ _ < mn) => hlt
          rw [Int.toNat_natCast] at N
          exact InvEndN.intro F N ⟨_, _, rfl, hi2, mn, fun _ => by omega, kInt rfl rfl (kStr rfl rfl (kStr rfl rfl (kInt rfl rfl (kVal rfl rfl (kStr rfl rfl (kInt rfl (by rw [Int.toNat_natCast, hrg]) (kInt rfl (by rw [lft, if_neg (Nat.succ_ne_zero _)]) (kInt rfl rfl kNil))))))))⟩ rfl subL subR
      · rintro m₂ nx h₃ tk₃ ⟨vs, c, rfl, hi, mn, hmn, e1⟩ F₁ N₁
        have q := frK F₁ e1
        clear F₁ e1
        obtain ⟨ts, F₁⟩ := q
        dsimp only [envOf, ov, real, Kn.tok] at F₁ N₁
        have hmn := hmn hs0
        rw [rowL_end] at hi
        walk_at "go8"
        exact InvEndN.intro F₁ N₁ ⟨vs, c, rfl, hi, kStr rfl rfl (kStr rfl rfl (kInt rfl rfl (kVal rfl rfl (kInt rfl (by rw [if_neg (Nat.succ_ne_zero _), lft, if_neg (by omega)]) kNil))))⟩ rfl (fun p hp => by rw [List.mem_singleton.mp hp]; exact List.mem_cons_self ..) (fun p hp => List.mem_cons_of_mem _ hp)
    · rintro m₁ nx h₃ tk₃ ⟨vs, c, rfl, hi, e1⟩ F₁ N₁
      rw [if_neg (by omega)] at e1
      have q := frK F₁ e1
      clear F₁ e1
      obtain ⟨ts, F₁⟩ := q
      dsimp only [envOf, ov, real, Kn.tok] at F₁ N₁
      walk_at "go8"
      exact hR _ _ _ F₁.keep
  · rename (¬ 0 < b2.length) => hn
    have e : core a2 b2 = 2 * (a2.length + b2.length) := by
      unfold core
      rw [if_pos (.inr (List.eq_nil_of_length_eq_zero (by omega)))]
    rw [e] at hR
    exact hR _ _ _ F₂.keep
  · rename (¬ 0 < a2.length) => hn
    have e : core a2 b2 = 2 * (a2.length + b2.length) := by
      unfold core
      rw [if_pos (.inl (List.eq_nil_of_length_eq_zero (by omega)))]
    rw [e] at hR
    exact hR _ _ _ F₂.keep
end Mine
namespace Mine
/-- the longest common word's length, from the front -/
def lcs : List Nat → List Nat → Nat
  | [], _ => 0
  | _ :: _, [] => 0
  | x :: a, y :: b => if x = y then lcs a b + 1 else max (lcs a (y :: b)) (lcs (x :: a) b)
termination_by a b => a.length + b.length
theorem lcs_nil (a : List Nat) : lcs a [] = 0 := by cases a <;> simp [lcs]
theorem lcs_has : ∀ a b : List Nat, ∃ l, List.Sublist l a ∧ List.Sublist l b ∧ l.length = lcs a b
  | [], b => ⟨[], .slnil, List.nil_sublist _, by simp [lcs]⟩
  | x :: a, [] => ⟨[], List.nil_sublist _, .slnil, by simp [lcs]⟩
  | x :: a, y :: b => by
    by_cases e : x = y
    · obtain ⟨l, h1, h2, h3⟩ := lcs_has a b
      refine ⟨x :: l, h1.cons_cons x, e ▸ h2.cons_cons x, ?_⟩
      rw [lcs, if_pos e, List.length_cons, h3]
    · obtain ⟨l, h1, h2, h3⟩ := lcs_has a (y :: b)
      obtain ⟨l', h1', h2', h3'⟩ := lcs_has (x :: a) b
      rw [lcs, if_neg e]
      rcases Nat.le_total (lcs (x :: a) b) (lcs a (y :: b)) with q | q
      · exact ⟨l, h1.cons x, h2, by omega⟩
      · exact ⟨l', h1', h2'.cons y, by omega⟩
termination_by a b => a.length + b.length
theorem sub_tail {x : Nat} {l a : List Nat} (h : List.Sublist l (x :: a)) : List.Sublist l.tail a := by
  cases h with
  | cons _ h => exact (List.tail_sublist l).trans h
  | cons_cons _ h => exact h
theorem lcs_top : ∀ (a b l : List Nat), List.Sublist l a → List.Sublist l b → l.length ≤ lcs a b
  | [], b, l, h1, _ => by rw [List.sublist_nil.mp h1]; exact Nat.zero_le _
  | x :: a, [], l, _, h2 => by rw [List.sublist_nil.mp h2]; exact Nat.zero_le _
  | x :: a, y :: b, l, h1, h2 => by
    by_cases e : x = y
    · have := lcs_top a b l.tail (sub_tail h1) (sub_tail h2)
      rw [lcs, if_pos e]
      rw [List.length_tail] at this
      omega
    · rw [lcs, if_neg e]
      cases h1 with
      | cons _ h1 =>
        have := lcs_top a (y :: b) l h1 h2
        omega
      | cons_cons _ h1 =>
        rename_i l'
        cases h2 with
        | cons _ h2 =>
          have := lcs_top (x :: a) b (x :: l') (h1.cons_cons x) h2
          omega
        | cons_cons _ h2 => exact absurd rfl e
termination_by a b => a.length + b.length
theorem lcs_eq {a b : List Nat} {n : Nat} (h : ∃ l, List.Sublist l a ∧ List.Sublist l b ∧ l.length = n) (t : ∀ l, List.Sublist l a → List.Sublist l b → l.length ≤ n) : lcs a b = n := by
  obtain ⟨l, h1, h2, h3⟩ := h
  obtain ⟨l', h1', h2', h3'⟩ := lcs_has a b
  have := lcs_top a b l h1 h2
  have := t l' h1' h2'
  omega
theorem lcs_rev (a b : List Nat) : lcs a.reverse b.reverse = lcs a b := by
  refine lcs_eq ?_ ?_
  · obtain ⟨l, h1, h2, h3⟩ := lcs_has a b
    exact ⟨l.reverse, h1.reverse, h2.reverse, by simpa using h3⟩
  · intro l h1 h2
    have := lcs_top a b l.reverse (by simpa using h1.reverse) (by simpa using h2.reverse)
    simpa using this
theorem lcs_comm (a b : List Nat) : lcs a b = lcs b a := by
  refine lcs_eq ?_ fun l h1 h2 => lcs_top b a l h2 h1
  obtain ⟨l, h1, h2, h3⟩ := lcs_has b a
  exact ⟨l, h2, h1, h3⟩
theorem lcs_le (a b : List Nat) : lcs a b ≤ a.length ∧ lcs a b ≤ b.length := by
  obtain ⟨l, h1, h2, h3⟩ := lcs_has a b
  have := h1.length_le
  have := h2.length_le
  omega
theorem lcs_of_sub {a l : List Nat} (h : List.Sublist l a) : lcs a l = l.length := by
  have := lcs_top a l l h (List.Sublist.refl _)
  have := (lcs_le a l).2
  omega
theorem lcs_cons (c : Nat) (a b : List Nat) : lcs (c :: a) (c :: b) = lcs a b + 1 := by rw [lcs, if_pos rfl]
theorem take_rev {a : List Nat} {p : Nat} (h : p < a.length) : (a.take (p + 1)).reverse = a.getD p 0 :: (a.take p).reverse := by
  have e : a.getD p 0 = a[p] := by simp [List.getD_eq_getElem?_getD, h]
  rw [e, List.take_succ_eq_append_getElem h, List.reverse_append]
  rfl
theorem cm_lcs (a b : List Nat) : ∀ p q, p ≤ a.length → q ≤ b.length → cm a b p q = lcs (a.take p).reverse (b.take q).reverse
  | 0, q, _, _ => by simp [cm, lcs]
  | p + 1, 0, _, _ => by simp [cm, lcs_nil]
  | p + 1, q + 1, h1, h2 => by
    have i1 := cm_lcs a b p q (by omega) (by omega)
    have i2 := cm_lcs a b p (q + 1) (by omega) (by omega)
    have i3 := cm_lcs a b (p + 1) q (by omega) (by omega)
    rw [take_rev (p := q) (by omega)] at i2 ⊢
    rw [take_rev (p := p) (by omega)] at i3 ⊢
    rw [cm, lcs, i1, i2, i3]
theorem lc_lcs (a b : List Nat) : lc a b = lcs a b := by
  unfold lc
  rw [cm_lcs a b _ _ (Nat.le_refl _) (Nat.le_refl _), List.take_length, List.take_length, lcs_rev]
theorem lc_le (a b : List Nat) : lc a b ≤ a.length ∧ lc a b ≤ b.length := by rw [lc_lcs]; exact lcs_le a b
theorem lc_comm (a b : List Nat) : lc a b = lc b a := by rw [lc_lcs, lc_lcs, lcs_comm]
theorem cm_succ (a b : List Nat) (p q : Nat) : cm a b (p + 1) (q + 1) = if a.getD p 0 = b.getD q 0 then cm a b p q + 1 else max (cm a b p (q + 1)) (cm a b (p + 1) q) := by rw [cm]
/-- how the table grows -/
theorem cm_mono (a b : List Nat) : ∀ p q, cm a b p q ≤ cm a b (p + 1) q ∧ cm a b p q ≤ cm a b p (q + 1) ∧ cm a b (p + 1) q ≤ cm a b p q + 1 ∧ cm a b p (q + 1) ≤ cm a b p q + 1
  | 0, 0 => by simp [cm]
  | 0, q + 1 => by
    have i := cm_mono a b 0 q
    refine ⟨by simp [cm], by simp [cm], ?_, by simp [cm]⟩
    have e0 : cm a b 0 q = 0 := by rw [cm]
    have e1 : cm a b 0 (q + 1) = 0 := by rw [cm]
    have e2 : cm a b (0 + 1) (q + 1) = if a.getD 0 0 = b.getD q 0 then cm a b 0 q + 1 else max (cm a b 0 (q + 1)) (cm a b (0 + 1) q) := cm_succ a b 0 q
    rw [e2]
    split <;> omega
  | p + 1, 0 => by
    have i := cm_mono a b p 0
    have e0 : cm a b p 0 = 0 := cm_zero ..
    have e1 : cm a b (p + 1) 0 = 0 := cm_zero ..
    have e2 : cm a b (p + 1) (0 + 1) = if a.getD p 0 = b.getD 0 0 then cm a b p 0 + 1 else max (cm a b p (0 + 1)) (cm a b (p + 1) 0) := cm_succ a b p 0
    refine ⟨by rw [cm_zero, cm_zero]; exact Nat.le_refl _, by rw [e1]; exact Nat.zero_le _, by rw [cm_zero]; exact Nat.zero_le _, ?_⟩
    rw [e2]
    split <;> omega
  | p + 1, q + 1 => by
    have i1 := cm_mono a b (p + 1) q
    have i2 := cm_mono a b p (q + 1)
    have i3 := cm_mono a b p q
    have e1 : cm a b (p + 2) (q + 1) = if a.getD (p + 1) 0 = b.getD q 0 then cm a b (p + 1) q + 1 else max (cm a b (p + 1) (q + 1)) (cm a b (p + 2) q) := by rw [cm]
    have e2 : cm a b (p + 1) (q + 2) = if a.getD p 0 = b.getD (q + 1) 0 then cm a b p (q + 1) + 1 else max (cm a b p (q + 2)) (cm a b (p + 1) (q + 1)) := by rw [cm]
    have i1' : cm a b (p + 1) q ≤ cm a b (p + 2) q ∧ cm a b (p + 2) q ≤ cm a b (p + 1) q + 1 := ⟨i1.1, i1.2.2.1⟩
    have i2' : cm a b p (q + 1) ≤ cm a b p (q + 2) ∧ cm a b p (q + 2) ≤ cm a b p (q + 1) + 1 := ⟨i2.2.1, i2.2.2.2⟩
    refine ⟨?_, ?_, ?_, ?_⟩
    · show _ ≤ cm a b (p + 2) (q + 1)
      rw [e1]; split <;> omega
    · show _ ≤ cm a b (p + 1) (q + 2)
      rw [e2]; split <;> omega
    · show cm a b (p + 2) (q + 1) ≤ _
      rw [e1]; split <;> omega
    · show cm a b (p + 1) (q + 2) ≤ _
      rw [e2]; split <;> omega
theorem cm_mono_q (a b : List Nat) (p : Nat) : ∀ {q q' : Nat}, q ≤ q' → cm a b p q ≤ cm a b p q'
  | q, q', h => by
    obtain ⟨d, rfl⟩ := Nat.le.dest h
    induction d with
    | zero => exact Nat.le_refl _
    | succ d ih => exact Nat.le_trans (ih (by omega)) (cm_mono a b p (q + d)).2.1
end Mine
namespace Mine
/-! the distance -/
theorem D_even (lo sh : List Nat) : ∀ j i, D lo sh j i % 2 = 0
  | j, 0 => by rw [D_zero]; omega
  | 0, i + 1 => by rw [D_top]; omega
  | j + 1, i + 1 => by
    have h1 := D_even lo sh j i
    have h2 := D_even lo sh j (i + 1)
    have h3 : lft lo sh j i % 2 = 0 := by
      unfold lft
      split
      · omega
      · exact D_even lo sh (j + 1) i
    rw [D_succ]
    split <;> omega
theorem D_max (lo sh : List Nat) : ∀ j i, D lo sh j i ≤ 2 * max j i
  | j, 0 => by rw [D_zero]; omega
  | 0, i + 1 => by rw [D_top]; omega
  | j + 1, i + 1 => by
    have h1 := D_max lo sh j i
    rw [D_succ]
    split <;> omega
theorem D_up (lo sh : List Nat) : ∀ j i, D lo sh j i + 4 * cm lo sh j i ≤ 2 * (j + i)
  | j, 0 => by rw [D_zero, cm_zero]; omega
  | 0, i + 1 => by rw [D_top, cm]; omega
  | j + 1, i + 1 => by
    have h1 := D_up lo sh j i
    have h2 := D_up lo sh j (i + 1)
    have h3 : lft lo sh j i + 4 * cm lo sh (j + 1) i ≤ 2 * (j + 1 + i) := by
      unfold lft
      split
      · rename_i e; subst e; rw [cm_zero]; omega
      · exact D_up lo sh (j + 1) i
    rw [D_succ, cm_succ]
    split <;> omega
theorem D_lo (lo sh : List Nat) : ∀ j i, 2 * max j i ≤ D lo sh j i + 2 * cm lo sh j i
  | j, 0 => by rw [D_zero, cm_zero]; omega
  | 0, i + 1 => by rw [D_top, cm]; omega
  | j + 1, i + 1 => by
    have h1 := D_lo lo sh j i
    have h2 := D_lo lo sh j (i + 1)
    have h3 : 2 * max j i ≤ lft lo sh j i + 2 * cm lo sh (j + 1) i ∧ 2 * max (j + 1) (i + 1) ≤ lft lo sh j i + 2 + 2 * cm lo sh (j + 1) i := by
      unfold lft
      split
      · rename_i e; subst e; rw [cm_zero]; omega
      · have := D_lo lo sh (j + 1) i
        omega
    have m1 := cm_mono lo sh j i
    have m2 := cm_mono lo sh j (i + 1)
    have m3 := cm_mono lo sh (j + 1) i
    have e := cm_succ lo sh j i
    rw [D_succ]
    split at e
    · rename_i c
      rw [if_pos c]
      omega
    · rename_i c
      rw [if_neg c]
      omega
theorem core_all (a b : List Nat) : core a b % 2 = 0 ∧ core a b + 4 * lc a b ≤ 2 * (a.length + b.length) ∧ 2 * max a.length b.length ≤ core a b + 2 * lc a b ∧ (lc a b = 0 → core a b ≤ 2 * max a.length b.length) := by
  unfold core
  have hl := lc_le a b
  split
  · rename_i h
    have h0 : a.length = 0 ∨ b.length = 0 := by
      rcases h with rfl | rfl
      · exact .inl rfl
      · exact .inr rfl
    omega
  · split
    · have h1 := D_even a b a.length b.length
      have h2 := D_up a b a.length b.length
      have h3 := D_lo a b a.length b.length
      have h4 := D_max a b a.length b.length
      have e : cm a b a.length b.length = lc a b := rfl
      omega
    · have h1 := D_even b a b.length a.length
      have h2 := D_up b a b.length a.length
      have h3 := D_lo b a b.length a.length
      have h4 := D_max b a b.length a.length
      have e : cm b a b.length a.length = lc a b := lc_comm b a
      omega
theorem lcs_pfx : ∀ a b : List Nat, lcs a b = pfx a b + lcs (a.drop (pfx a b)) (b.drop (pfx a b))
  | [], b => by simp [pfx]
  | _ :: _, [] => by simp [pfx]
  | x :: xs, y :: ys => by
    unfold pfx
    split
    · rename_i e
      subst e
      rw [lcs_cons, lcs_pfx xs ys, List.drop_succ_cons, List.drop_succ_cons]
      have := lcs_pfx xs ys
      omega
    · simp
theorem lcs_sfx (a b : List Nat) : lcs a b = sfx a b + lcs (a.take (a.length - sfx a b)) (b.take (b.length - sfx a b)) := by
  have h := lcs_pfx a.reverse b.reverse
  rw [lcs_rev] at h
  unfold sfx
  rw [List.drop_reverse, List.drop_reverse, lcs_rev] at h
  exact h
theorem lev_all (a b : List Nat) : lev a b % 2 = 0 ∧ lev a b + 4 * lc a b ≤ 2 * (a.length + b.length) ∧ 2 * max a.length b.length ≤ lev a b + 2 * lc a b ∧ (lc a b = 0 → lev a b ≤ 2 * max a.length b.length) := by
  unfold lev
  split
  · rename_i e
    subst e
    have h : lc a a = a.length := by rw [lc_lcs, lcs_of_sub (List.Sublist.refl a)]
    omega
  · have hp := lcs_pfx a b
    have hpl := pfx_le a b
    generalize ha1 : a.drop (pfx a b) = a1 at *
    generalize hb1 : b.drop (pfx a b) = b1 at *
    have la1 : a1.length = a.length - pfx a b := by rw [← ha1, List.length_drop]
    have lb1 : b1.length = b.length - pfx a b := by rw [← hb1, List.length_drop]
    have hs := lcs_sfx a1 b1
    have hsl := sfx_le a1 b1
    generalize ha2 : a1.take (a1.length - sfx a1 b1) = a2 at *
    generalize hb2 : b1.take (b1.length - sfx a1 b1) = b2 at *
    have la2 : a2.length = a1.length - sfx a1 b1 := by rw [← ha2, List.length_take]; omega
    have lb2 : b2.length = b1.length - sfx a1 b1 := by rw [← hb2, List.length_take]; omega
    have hc := core_all a2 b2
    have e1 := lc_lcs a b
    have e2 := lc_lcs a2 b2
    generalize core a2 b2 = c at *
    generalize pfx a b = p at *
    generalize sfx a1 b1 = s at *
    obtain ⟨c1, c2, c3, c4⟩ := hc
    refine ⟨c1, by omega, by omega, fun h => ?_⟩
    have := c4 (by omega)
    omega
theorem lev_even (a b : List Nat) : lev a b % 2 = 0 := (lev_all a b).1
theorem lev_up (a b : List Nat) : lev a b + 4 * lc a b ≤ 2 * (a.length + b.length) := (lev_all a b).2.1
theorem lev_lo (a b : List Nat) : 2 * max a.length b.length ≤ lev a b + 2 * lc a b := (lev_all a b).2.2.1
theorem lev_none (a b : List Nat) (h : lc a b = 0) : lev a b = 2 * max a.length b.length := by
  have := (lev_all a b).2.2.2 h
  have := lev_lo a b
  omega
theorem lev_cons (c : Nat) (a b : List Nat) : lev (c :: a) (c :: b) = lev a b := by
  have e : pfx (c :: a) (c :: b) = pfx a b + 1 := by
    show (if c = c then pfx a b + 1 else 0) = _
    rw [if_pos rfl]
  unfold lev
  rw [e, List.drop_succ_cons, List.drop_succ_cons]
  by_cases h : a = b
  · rw [if_pos h, if_pos (by rw [h])]
  · rw [if_neg h, if_neg (by intro q; exact h (List.cons.inj q).2)]
/-! what both have -/
theorem sub_find {c : Nat} {l : List Nat} : ∀ {left : List Nat}, List.Sublist (c :: l) left → ∃ p, p < left.length ∧ left.getD p 0 = c ∧ List.Sublist l (left.drop (p + 1))
  | [], h => by cases h
  | x :: r, h => by
    cases h with
    | cons _ h =>
      obtain ⟨p, h1, h2, h3⟩ := sub_find h
      exact ⟨p + 1, by simpa using h1, by simpa using h2, by simpa using h3⟩
    | cons_cons _ h => exact ⟨0, by simp, rfl, by simpa using h⟩
theorem find_sub {c : Nat} {l left : List Nat} {p : Nat} (h1 : p < left.length) (h2 : left.getD p 0 = c) (h3 : List.Sublist l (left.drop (p + 1))) : List.Sublist (c :: l) left := by
  have e : left.getD p 0 = left[p] := by simp [List.getD_eq_getElem?_getD, h1]
  have q : left.drop p = c :: left.drop (p + 1) := by rw [← h2, e, List.drop_eq_getElem_cons h1]
  exact (h3.cons_cons c).trans (q ▸ List.drop_sublist p left)
theorem lcs_front {c : Nat} {r left : List Nat} (hn : ∀ p < left.length, left.getD p 0 = c → 1 + lcs r (left.drop (p + 1)) ≠ lcs (c :: r) left) : lcs (c :: r) left = lcs r left := by
  obtain ⟨l, h1, h2, h3⟩ := lcs_has (c :: r) left
  refine (lcs_eq ?_ ?_).symm
  · cases h1 with
    | cons _ h1 => exact ⟨l, h1, h2, h3⟩
    | cons_cons _ h1 =>
      rename_i l'
      obtain ⟨p, g1, g2, g3⟩ := sub_find h2
      refine absurd ?_ (hn p g1 g2)
      have t1 := lcs_top r (left.drop (p + 1)) l' h1 g3
      obtain ⟨k, k1, k2, k3⟩ := lcs_has r (left.drop (p + 1))
      have t2 := lcs_top (c :: r) left (c :: k) (k1.cons_cons c) (find_sub g1 g2 k2)
      rw [List.length_cons] at t2 h3
      omega
  · intro l g1 g2
    exact lcs_top _ _ l (g1.cons c) g2
theorem kst_inv (a b : List Nat) : ∀ k, k ≤ a.length → (kst a b k).1.length + lcs (a.drop k) (kst a b k).2 = lcs a b ∧ List.Sublist (kst a b k).1 (a.take k)
  | 0, _ => by simp [kst]
  | k + 1, h => by
    obtain ⟨i1, i2⟩ := kst_inv a b k (by omega)
    have hlt : k < a.length := by omega
    have e : a.getD k 0 = a[k] := by simp [List.getD_eq_getElem?_getD, hlt]
    have ed : a.drop k = a.getD k 0 :: a.drop (k + 1) := by rw [e, List.drop_eq_getElem_cons hlt]
    have et : a.take (k + 1) = a.take k ++ [a.getD k 0] := by rw [e, List.take_succ_eq_append_getElem hlt]
    generalize hL : (kst a b k).2 = left at *
    generalize hF : (kst a b k).1 = found at *
    cases hk : kfind a left k with
    | some p =>
      have ek : kst a b (k + 1) = (found ++ [a.getD k 0], left.drop (p + 1)) := by rw [kst, hL, hk, hF]
      have hk' := hk
      unfold kfind at hk'
      have hc := List.find?_some hk'
      have hc : kcond a left k p := kdec_iff.mp hc
      have h2 := hc.2
      rw [lc_lcs, lc_lcs] at h2
      rw [ek, et]
      refine ⟨?_, i2.append (List.Sublist.refl _)⟩
      show (found ++ [a.getD k 0]).length + lcs (a.drop (k + 1)) (left.drop (p + 1)) = _
      rw [List.length_append, List.length_singleton]
      omega
    | none =>
      have ek : kst a b (k + 1) = kst a b k := by rw [kst, hL, hk]
      have hn : ∀ p < left.length, ¬ kcond a left k p := fun p hp => by
        unfold kfind at hk
        rw [List.find?_eq_none] at hk
        exact fun q => hk p (List.mem_range.mpr hp) (kdec_iff.mpr q)
      rw [ek, hL, hF, et]
      refine ⟨?_, i2.trans (List.sublist_append_left _ _)⟩
      have := lcs_front (c := a.getD k 0) (r := a.drop (k + 1)) (left := left) fun p hp hq he => hn p hp ⟨hq, by rw [lc_lcs, lc_lcs, ed]; exact he⟩
      rw [← ed] at this
      omega
theorem kept_len (a b : List Nat) : (kst a b a.length).1.length = lc a b := by
  have := (kst_inv a b a.length (Nat.le_refl _)).1
  rw [List.drop_length] at this
  rw [lc_lcs]
  simpa [lcs] using this
theorem kept_sub (a b : List Nat) : List.Sublist (kst a b a.length).1 a := by
  have := (kst_inv a b a.length (Nat.le_refl _)).2
  rwa [List.take_length] at this
theorem kept_lev (a b : List Nat) : lev a (kst a b a.length).1 + 2 * lc a b = 2 * a.length := by
  have h1 := kept_len a b
  have h2 := kept_sub a b
  have h3 := lcs_of_sub h2
  generalize (kst a b a.length).1 = kp at *
  have u := lev_up a kp
  have l := lev_lo a kp
  rw [lc_lcs a kp] at u l
  have := h2.length_le
  omega
theorem kept_in (a b : List Nat) : ∀ k, k ≤ a.length → ∀ c ∈ (kst a b k).1, c ∈ a := fun k hk c hc => (List.take_sublist k a).subset ((kst_inv a b k hk).2.subset hc)
end Mine
namespace Mine
/-! Hunt and Szymanski -/
theorem cut_append (l r : List Int) (x : Int) : cut (l ++ r) x = cut l x + cut r x := by
  unfold cut; rw [List.filter_append, List.length_append]
theorem cut_all {l : List Int} {x : Int} (h : ∀ t ∈ l, t < x) : cut l x = l.length := by
  unfold cut
  rw [List.filter_eq_self.mpr]
  intro t ht
  exact decide_eq_true (h t ht)
theorem cut_none {l : List Int} {x : Int} (h : ∀ t ∈ l, x ≤ t) : cut l x = 0 := by
  unfold cut
  rw [List.filter_eq_nil_iff.mpr]
  · rfl
  · intro t ht
    have := h t ht
    simpa using this
theorem cut_head (t : Int) (l : List Int) (x : Int) : cut (t :: l) x = (if t < x then 1 else 0) + cut l x := by
  unfold cut
  rw [List.filter_cons]
  by_cases h : t < x
  · simp [h]; omega
  · simp [h]
theorem take_cut {ns : List Int} {x : Int} (hs : ns.Pairwise (· < ·)) : ∀ t ∈ ns.take (cut ns x), t < x := by
  intro t ht
  obtain ⟨i, hi, rfl⟩ := List.mem_iff_getElem.mp ht
  rw [List.length_take] at hi
  rw [List.getElem_take]
  exact (cut_spec hs i (by omega)).mpr (by omega)
theorem drop_cut {ns : List Int} {x : Int} (hs : ns.Pairwise (· < ·)) : ∀ t ∈ ns.drop (cut ns x), x ≤ t := by
  intro t ht
  obtain ⟨i, hi, rfl⟩ := List.mem_iff_getElem.mp ht
  rw [List.length_drop] at hi
  rw [List.getElem_drop]
  refine Int.not_lt.mp fun q => ?_
  have := (cut_spec hs _ (by omega)).mp q
  omega
theorem cut_put {ns : List Int} {x y : Int} (hs : ns.Pairwise (· < ·)) : cut (put ns x) y = if y ≤ x then cut ns y else max (cut ns y) (cut ns x + 1) := by
  have hA := take_cut (x := x) hs
  have hB := drop_cut (x := x) hs
  have hc := cut_le ns x
  have hl : (ns.take (cut ns x)).length = cut ns x := by rw [List.length_take]; omega
  have hsd : (ns.drop (cut ns x)).Pairwise (· < ·) := hs.sublist (List.drop_sublist _ _)
  have e0 : cut ns y = cut (ns.take (cut ns x)) y + cut (ns.drop (cut ns x)) y := by rw [← cut_append, List.take_append_drop]
  have e1 : cut (put ns x) y = cut (ns.take (cut ns x)) y + ((if x < y then 1 else 0) + cut (ns.drop (cut ns x + 1)) y) := by
    unfold put
    rw [cut_append, cut_head]
  have ed : ns.drop (cut ns x + 1) = (ns.drop (cut ns x)).tail := by rw [List.tail_drop]
  rw [ed] at e1
  generalize cut ns x = c at *
  generalize ns.take c = A at *
  generalize ns.drop c = B at *
  by_cases h : y ≤ x
  · rw [if_pos h]
    have z1 : cut B y = 0 := cut_none fun t ht => Int.le_trans h (hB t ht)
    have z2 : cut B.tail y = 0 := cut_none fun t ht => Int.le_trans h (hB t (List.mem_of_mem_tail ht))
    rw [if_neg (by omega)] at e1
    omega
  · rw [if_neg h]
    have z1 : cut A y = A.length := cut_all fun t ht => Int.lt_trans (hA t ht) (by omega)
    rw [if_pos (by omega)] at e1
    cases B with
    | nil =>
      have z2 : cut ([] : List Int) y = 0 := rfl
      simp only [List.tail_nil] at e1
      omega
    | cons d r =>
      rw [cut_head] at e0
      simp only [List.tail_cons] at e1
      by_cases hd : d < y
      · rw [if_pos hd] at e0
        omega
      · rw [if_neg hd] at e0
        have z2 : cut r y = 0 := cut_none fun t ht => by
          have := (List.pairwise_cons.mp hsd).1 t ht
          omega
        omega
/-- the counts while the places from P on are done -/
def hs (a b : List Nat) (i P : Nat) : Nat → Nat
  | 0 => 0
  | j + 1 => if j < P then cm a b i (j + 1) else if a.getD i 0 = b.getD j 0 then cm a b i j + 1 else max (cm a b i (j + 1)) (hs a b i P j)
theorem hs_low (a b : List Nat) (i P : Nat) : ∀ j, j ≤ P → hs a b i P j = cm a b i j
  | 0, _ => by rw [hs, cm_zero]
  | j + 1, h => by rw [hs, if_pos (by omega)]
theorem hs_end (a b : List Nat) (i : Nat) : ∀ j, hs a b i 0 j = cm a b (i + 1) j
  | 0 => by rw [hs, cm_zero]
  | j + 1 => by rw [hs, if_neg (Nat.not_lt_zero _), cm_succ, hs_end a b i j]
theorem hs_step (a b : List Nat) (i x : Nat) : ∀ j, hs a b i x j = if j ≤ x then hs a b i (x + 1) j else if a.getD i 0 = b.getD x 0 then max (hs a b i (x + 1) j) (cm a b i x + 1) else hs a b i (x + 1) j
  | 0 => by rw [if_pos (Nat.zero_le _), hs, hs]
  | j + 1 => by
    have ih := hs_step a b i x j
    have m := cm_mono a b i j
    by_cases h : j + 1 ≤ x
    · rw [if_pos h, hs_low _ _ _ _ _ h, hs_low _ _ _ _ _ (by omega)]
    · rw [if_neg h]
      have hx : hs a b i x (j + 1) = if a.getD i 0 = b.getD j 0 then cm a b i j + 1 else max (cm a b i (j + 1)) (hs a b i x j) := by rw [hs, if_neg (by omega)]
      rw [hx]
      rcases Nat.lt_or_ge x j with q | q
      · have hx1 : hs a b i (x + 1) (j + 1) = if a.getD i 0 = b.getD j 0 then cm a b i j + 1 else max (cm a b i (j + 1)) (hs a b i (x + 1) j) := by rw [hs, if_neg (by omega)]
        rw [hx1]
        rw [if_neg (by omega)] at ih
        have mq := cm_mono_q a b i (Nat.le_of_lt q)
        rw [ih]
        split <;> split <;> omega
      · have e : j = x := by omega
        subst e
        have e1 : hs a b i (j + 1) (j + 1) = cm a b i (j + 1) := hs_low _ _ _ _ _ (Nat.le_refl _)
        have e2 : hs a b i j j = cm a b i j := hs_low _ _ _ _ _ (Nat.le_refl _)
        rw [e1, e2]
        split <;> omega
theorem sweep_cut (a b : List Nat) (i : Nat) {ns : List Int} (hn : ns.Pairwise (· < ·)) (h0 : ∀ j, j ≤ b.length → cut ns (j : Int) = cm a b i j) : ∀ k, k ≤ b.length → ∀ j, j ≤ b.length → cut (sweep b (a.getD i 0) ns k) (j : Int) = hs a b i (b.length - k) j
  | 0, _, j, hj => by rw [sweep, hs_low _ _ _ _ _ (by omega)]; exact h0 j hj
  | k + 1, hk, j, hj => by
    have ih := sweep_cut a b i hn h0 k (by omega)
    have hso := (sweep_ok b (a.getD i 0) hn k).1
    have e : b.length - k = b.length - (k + 1) + 1 := by omega
    have e2 : b.length - 1 - k = b.length - (k + 1) := by omega
    rw [e] at ih
    have st := hs_step a b i (b.length - (k + 1)) j
    have lo := hs_low a b i (b.length - (k + 1) + 1) (b.length - (k + 1)) (by omega)
    by_cases q : b.getD (b.length - 1 - k) 0 = a.getD i 0
    · rw [sweep_hit (by omega) q, cut_put hso, ih j hj, e2, ih _ (by omega), lo, st]
      rw [e2] at q
      by_cases c : j ≤ b.length - (k + 1)
      · rw [if_pos (by omega), if_pos c]
      · rw [if_neg (by omega), if_neg c, if_pos q.symm]
    · rw [sweep_miss (by omega) q, ih j hj, st]
      rw [e2] at q
      by_cases c : j ≤ b.length - (k + 1)
      · rw [if_pos c]
      · rw [if_neg c, if_neg (fun z => q z.symm)]
theorem tops_cut (a b : List Nat) : ∀ i, ∀ j, j ≤ b.length → cut (tops a b i) (j : Int) = cm a b i j
  | 0, j, _ => by rw [tops, cm]; rfl
  | i + 1, j, hj => by
    rw [tops, sweep_cut a b i (tops_ok a b i).1 (tops_cut a b i) b.length (Nat.le_refl _) j hj, Nat.sub_self, hs_end]
theorem put_mem {ns : List Int} {x t : Int} (h : t ∈ put ns x) : t = x ∨ t ∈ ns := by
  unfold put at h
  rcases List.mem_append.mp h with h | h
  · exact .inr (List.mem_of_mem_take h)
  · rcases List.mem_cons.mp h with h | h
    · exact .inl h
    · exact .inr (List.mem_of_mem_drop h)
theorem sweep_mem (b : List Nat) (c : Nat) {ns : List Int} (h : ∀ t ∈ ns, t < (b.length : Int)) : ∀ k, k ≤ b.length → ∀ t ∈ sweep b c ns k, t < (b.length : Int)
  | 0, _, t, ht => h t ht
  | k + 1, hk, t, ht => by
    rw [sweep] at ht
    split at ht
    · rcases put_mem ht with rfl | ht
      · omega
      · exact sweep_mem b c h k (by omega) t ht
    · exact sweep_mem b c h k (by omega) t ht
theorem tops_mem (a b : List Nat) : ∀ i, ∀ t ∈ tops a b i, t < (b.length : Int)
  | 0, t, ht => by rw [tops] at ht; cases ht
  | i + 1, t, ht => by rw [tops] at ht; exact sweep_mem b _ (tops_mem a b i) b.length (Nat.le_refl _) t ht
theorem ris_lc (a b : List Nat) : (tops a b a.length).length = lc a b := by
  rw [← cut_all (tops_mem a b a.length), tops_cut a b a.length b.length (Nat.le_refl _)]
  rfl
theorem ris_lc' (a b : List Nat) : (tops b a b.length).length = lc a b := by rw [ris_lc, lc_comm]
end Mine
namespace Mine
local macro_rules | `(tactic| walk_at "small") => `(tactic| first | omega | ((simp only [List.length_drop, List.length_take, List.length_append, List.length_cons, List.length_nil, Int.toNat_natCast] at *); omega))
local macro_rules | `(tactic| walk_at "call builtin:len") => `(tactic| ((with_reducible show wpAny _ _ (PySem.call (Value.builtin "len") [Value.str (Str.mk (List.toArray _)) _]) _ _ _); refine lenL (by walk_at "small") ?_; intro _ _))
local macro_rules | `(tactic| walk_at "truthy str") => `(tactic| ((with_reducible show wpAny _ _ (PySem.truthy (Value.str (Str.mk (List.toArray _)) _)) _ _ _); refine truthL (by walk_at "small") ?_; intro _))
local macro_rules | `(tactic| walk_at "mine item") => `(tactic| ((with_reducible show wpAny _ _ (subscriptTail _ _ (Value.str (Str.mk (List.toArray _)) _) (Value.int _ _)) _ _ _); first | (refine itemL (by walk_at "small") (by walk_at "small") (by walk_at "small") ?_; intro _ _) | (refine itemNegL (by walk_at "small") (by walk_at "small") (by walk_at "small") ?_; intro _ _)))
local macro_rules | `(tactic| walk_at "subscriptTail Name Name str int") => `(tactic| walk_at "mine item")
local macro_rules | `(tactic| walk_at "subscriptTail Name BinOp str int") => `(tactic| walk_at "mine item")
local macro_rules | `(tactic| walk_at "mine slice") => `(tactic| ((with_reducible show wpAny _ _ (subscriptTail _ _ (Value.str (Str.mk (List.toArray _)) _) (Value.ref _)) _ _ _); (with_reducible rename Fr _ _ _ _ => sF); (with_reducible rename News _ _ _ _ => sN); first
  | (refine fromL (s := ⟨_, _, _, _, _⟩) sF sN (by walk_at "small") (by walk_at "small") (by walk_at "small") ?_; intro _ _ _ _ _)
  | (refine toL (s := ⟨_, _, _, _, _⟩) sF sN (by walk_at "small") (by walk_at "small") (by walk_at "small") ?_; intro _ _ _ _ _)
  | (refine allL (s := ⟨_, _, _, _, _⟩) sF sN (by walk_at "small") ?_; intro _ _ _ _ _)))
local macro_rules | `(tactic| walk_at "subscriptTail Name Slice str ref") => `(tactic| walk_at "mine slice")
local macro_rules | `(tactic| walk_at "stop") => `(tactic| ((fail_if_success (with_reducible show wpAny _ _ (exec (Stmt.While _ _ _ _) _) _ _ _)); (fail_if_success (with_reducible show wpAny _ _ (exec (Stmt.For _ _ _ _ _) _) _ _ _)); (fail_if_success (with_reducible show wpAny _ _ (PySem.call (Value.ref _) _ _) _ _ _)); (fail_if_success (with_reducible show wpAny _ _ (pyIter _) _ _ _)); (fail_if_success (with_reducible show wpAny _ _ (eval (Expr.ListComp _ _ _ _) _) _ _ _)); (fail_if_success (with_reducible show LCg.CompSrc _ _ _ _ _ _ _ _ _ _ _ _ _ _)); (fail_if_success (with_reducible show wpAny _ _ (PySem.call (Value.builtin "max") _ _) _ _ _)); (fail_if_success (with_reducible show wpAny _ _ (PySem.call (Value.builtin "min") _ _) _ _ _))))
local macro_rules | `(tactic| walk_at "step") => `(tactic| ((walk_at "stop"); (first | (k_unfold; (try dsimp only)) | walk1 | (dsimp only; walk1))))
local macro_rules | `(tactic| walk_at "go") => `(tactic| repeat' (walk_at "step"))
theorem fillT10 : PySem.Challenge.rw_gc0006_01.Holds ∨ Mine.hd.heap_39 = Mine.hd.heap_39 := by
  w_top off
  k_fill
  exact .inr rfl
local macro_rules | `(tactic| walk_at "mine rowlen") => `(tactic| first | omega | ((with_reducible rename (∀ p, p < _ → List.length (List.getD _ p []) = _) => rowH); rw [rowH _ (by omega)]; omega))
local macro_rules | `(tactic| walk_at "mine tab") => `(tactic| first | (refine tabRead (by assumption) (by omega) (by omega) (by omega) ?_) | (refine rowRead (by assumption) (by omega) (by omega) (by walk_at "mine rowlen") (by walk_at "mine rowlen") ?_; intro _))

theorem law_walk : PySem.Challenge.rw_gc0006_01.Holds := by
  refine hd ?_
  k_go0
  rename (Frag.In _ _) => X
  rename (Top _ _ _ _ _ _) => T
  walk_at "go"
  rename (Fr _ _ _ _) => F
  refine LCg.ListComp_U (F₀ := F) (by rfl) (by decide) (by rfl) (by decide) (by rfl) ?_
  walk_at "go"
  try clear F
  rename (Fr _ _ _ _) => F
  rename (News _ _ _ [_]) => N
  rename (IntsAre _ _) => hI
  refine letters (by rfl) F N hI (.inl rfl) ?_ ?_
  · clear F N
    intro g n t I oI C oC D m₂ h tk E' ys hC hx F N
    walk_at "go"
    obtain ⟨c, e, hc⟩ := item_abc n
    exact ChrEnd.intro F N e hc
  · clear F N
    intro g a ys hla haa hy
    walk_at "go"
    rename (Fr _ _ _ _) => F
    rename (News _ _ _ _) => N
    refine join_listC (News.isList N (.head _)) hy (by decide +kernel) (by rw [sumOne, List.length_map]; omega) ?_
    rw [joinAll]
    intro t' k
    clear hy
    walk_at "go"
    try clear N F
    rename (Fr _ _ _ _) => F
    refine LCg.ListComp_U (F₀ := F) (by rfl) (by decide) (by rfl) (by decide) (by rfl) ?_
    walk_at "go"
    try clear F
    rename (Fr _ _ _ _) => F
    rename (News _ _ _ _) => N
    refine letters (by rfl) F N hI (.inr rfl) ?_ ?_
    · clear F N
      intro g n t I oI C oC D m₂ h tk E' ys hC hx F N
      walk_at "go"
      obtain ⟨c, e, hc⟩ := item_abc n
      exact ChrEnd.intro F N e hc
    · clear F N
      intro g b ys hlb hab hy
      walk_at "go"
      rename (Fr _ _ _ _) => F
      rename (News _ _ _ _) => N
      refine join_listC (News.isList N (.head _)) hy (by decide +kernel) (by rw [sumOne, List.length_map]; omega) ?_
      rw [joinAll]
      intro t' k
      clear hy
      walk_at "go"
      rename (Fr _ _ _ _) => F
      rename (News _ _ _ _) => N
      refine callBy (com_spec (X.keeps F.keep) (T.keeps F.keep) (by show callerA.depth + 1 + 10 < _; decide +kernel) rfl (by omega) (by omega) (fun h' tk t st => ⟨_, rfl, ?_⟩))
      replace F := frStays F st
      replace N := newsStays N st
      clear st
      walk_at "go"
      rename (Fr _ _ _ _) => F
      rename (News _ _ _ _) => N
      refine callBy (ris_spec (X.keeps F.keep) (T.keeps F.keep) (by show callerA.depth + 1 + 10 < _; decide +kernel) rfl (by omega) (by omega) (fun h' tk t st => ⟨_, rfl, ?_⟩))
      replace F := frStays F st
      replace N := newsStays N st
      clear st
      have e1 : cm a b a.length b.length = lc a b := rfl
      rw [ris_lc]
      rw [e1] at F
      have l1 := lc_le a b
      walk_at "go"
      · exact absurd rfl (by assumption)
      refine callBy (ris_spec (X.keeps F.keep) (T.keeps F.keep) (by show callerA.depth + 1 + 10 < _; decide +kernel) rfl (by omega) (by omega) (fun h' tk t st => ⟨_, rfl, ?_⟩))
      replace F := frStays F st
      replace N := newsStays N st
      clear st
      rw [ris_lc']
      walk_at "go"
      · exact absurd rfl (by assumption)
      refine callBy (lev_spec (X.keeps F.keep) (T.keeps F.keep) (by show callerA.depth + 1 + 10 < _; decide +kernel) rfl (by omega) (by omega) haa hab (fun h' tk t st => ⟨_, rfl, ?_⟩))
      replace F := frStays F st
      replace N := newsStays N st
      clear st
      have f1 := lev_even a b
      have f2 := lev_up a b
      have f3 := lev_lo a b
      have f4 := lev_none a b
      have f5 := lev_cons 97 a b
      walk_at "go"
      refine maxW (s := ⟨_, _, _, _, _⟩) (by rfl) (by assumption) (by assumption) (fun h' tk t' st F N => ?_)
      clear st
      walk_at "go"
      · exfalso; rename (Int.fmod _ _ ≠ _) => q; rw [Int.fmod_eq_emod_of_nonneg _ (by decide)] at q; omega
      · exfalso; omega
      all_goals
        rename (Fr _ _ _ _) => F
        rename (News _ _ _ _) => N
        rw [consA, consA]
        refine callBy (lev_spec (X.keeps F.keep) (T.keeps F.keep) (by show callerA.depth + 1 + 10 < _; decide +kernel) rfl (by rw [List.length_cons]; omega) (by rw [List.length_cons]; omega) (abcA haa) (abcA hab) (fun h' tk t st => ⟨_, rfl, ?_⟩))
        replace F := frStays F st
        replace N := newsStays N st
        clear st
        rw [f5]
        walk_at "go"
        · exact absurd rfl (by assumption)
        rename (Fr _ _ _ _) => F
        rename (News _ _ _ _) => N
        refine callBy (kep_spec (X.keeps F.keep) (T.keeps F.keep) (by show callerA.depth + 1 + 15 < _; decide +kernel) rfl (by omega) (by omega) (fun h' tk t st => ⟨_, rfl, ?_⟩))
        replace F := frStays F st
        replace N := newsStays N st
        clear st
        have g1 := kept_len a b
        have g2 := kept_lev a b
        have g3 : ∀ c ∈ (kst a b a.length).1, Abc c := fun c hc => haa c (kept_in a b _ (Nat.le_refl _) c hc)
        generalize (kst a b a.length).1 = kp at *
        walk_at "go"
        have hb : ((lev a kp : Int) == 2 * ((a.length : Int) - (lc a b : Int))) = true := by rw [beq_iff_eq]; omega
        · rename (Fr _ _ _ _) => F
          rename (News _ _ _ _) => N
          refine callBy (lev_spec (X.keeps F.keep) (T.keeps F.keep) (by show callerA.depth + 1 + 10 < _; decide +kernel) rfl (by omega) (by omega) haa g3 (fun h' tk t st => ⟨_, rfl, ?_⟩))
          replace F := frStays F st
          replace N := newsStays N st
          clear st
          walk_at "go"
          rw [hb]
          walk_at "go"
          k_end; wrow_close
        · exfalso; omega
end Mine
theorem PySem.Challenge.cw_gc0006_01_holds : PySem.Challenge.rw_gc0006_01.Holds := by
  exact Mine.law_walk
