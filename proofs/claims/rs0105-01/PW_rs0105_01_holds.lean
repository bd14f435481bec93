import PyProof.Rows.All
import Wide.All
import OpenK.AllK
import Wide.FinOn
import PySem.Challenge.RW_rs0105_01
open PySem PySem.W PyProof.Rows
set_option Elab.async false
set_option maxRecDepth 100000
namespace Mine
set_option maxRecDepth 100000 in
set_option maxHeartbeats 8000000 in
open_top hd for PySem.Challenge.rw_rs0105_01
end Mine
-- the walk as in a text of its own (the head leaves a switch on)
example : True := by
  w_top off
  trivial
section
open PySem PySem.W PySem.Spec PySem.Calls PyProof.Rows
namespace Mine
example : Challenge.rw_rs0105_01 = Challenge.rw_rs0105_01 ∧ hd.heap_39 = hd.heap_39 := by
  k_fill; exact ⟨rfl, rfl⟩



section
variable {prog : Program} {w : World} {A : Around} {s : Shared} {K : Frag} {p : Program} {loose : List Str} {mean : ExcName → Option Value} {mg mb : Str → Option Value}

theorem my_def {R : Result → Shared → Prop} {name qual : Str} {params : Arguments} {body : List Stmt} {scope : Scope} {dV kV doc pm cdv ct oc : Value} {an od : Option Addr} {osl : Array (Option Value)} {f : Addr} {args : Args} {binds : List (Str × Value)}
    (X : K.In s.heap) (T : Top p loose mean mg mb s.heap)
    (ho : K.lookup f = some ⟨oc, od, .func (fnOf name qual params body scope dV kV doc pm an cdv ct), osl⟩) (hcd : codeIn K cdv qual = true) (hroom : A.depth < recursionLimit)
    (hbind : BindsTo s (fnOf name qual params body scope dV kV doc pm an cdv ct) args binds) (hloc : ∀ y ∈ binds, scope.names.lookup y.1 = some .local)
    (h : ∀ L' h₁, Fr s.heap L' h₁ (fun y => binds.reverse.lookup y) →
      wpAny (model prog w) (A.deeper (envOf qual scope L' f cdv)) (execs body (envOf qual scope L' f cdv))
        (fun fl s' => R (.ok (.ret (match fl with | .ret v => v | _ => .none))) s') (fun _ _ => False)
        { s with heap := h₁, toks := s.toks + binds.length })
    (hco : scope.isCoroutine = false) (hgen : scope.isGenerator = false) (hk : scope.kind = .function)
    (hcell : ∀ x ∈ scope.names, x.2 ≠ .cell) : codeAny (model prog w) A (.call (.ref f) args) R s := by
  refine codeAny_call_def (fd := fnOf name qual params body scope dV kV doc pm an cdv ct) (body := body) (binds := binds) hroom (X _ _ ho) rfl T.nolimit (codeRec_of X hcd) rfl hbind hcell hloc (fun h₁ hns hk₁ => ?_) hco hgen hk
  exact wpAny_mono (h s.heap.objs.size h₁ ⟨hns, hk₁, Nat.le_refl _⟩) (fun _ _ x => x) fun _ _ x => x.elim
end

def pad (d : Nat) : Str := ⟨(List.replicate d 32 ++ [97]).toArray⟩
theorem pad_len (d : Nat) : (pad d).length = d + 1 := by simp [pad, Str.length]
theorem pad_lenI (d : Nat) : ((pad d).length : Int) = d + 1 := by rw [pad_len]; rfl
theorem pad_item : ∀ d, d < 8 → ∀ l, l ≤ d → (Txt.item (pad d) (l : Int) = Str.ofString " " ↔ l < d) := by decide +kernel

def NX (P : Shared → Prop) (f : Flow) (s : Shared) : Prop := f = .next ∧ P s
theorem seqW {M : Model} {A : Around} {E : Value → Shared → Prop} {s : Shared} {stmt : Stmt} {rest : List Stmt} {env : Env} {Q : Flow → Shared → Prop} (P : Shared → Prop)
    (h1 : wpAny M A (exec stmt env) (NX P) E s) (h2 : ∀ s', P s' → wpAny M A (execs rest env) Q E s') : wpAny M A (execs (stmt :: rest) env) Q E s := by
  refine wpAny_execs_cons (wpAny_mono h1 (fun f s' h => ?_) fun _ _ e => e)
  obtain ⟨rfl, h⟩ := h
  exact h2 s' h
def WS (J : Nat → Shared → Prop) (R : Value → Shared → Prop) (n : Nat) (f : Flow) (s : Shared) : Prop := match f with
  | .next => ∃ n', n' < n ∧ J n' s
  | .ret v => R v s
  | _ => False
theorem whileW {prog : Program} {w : World} {A : Around} {E : Value → Shared → Prop} {s : Shared} {test : Expr} {body : List Stmt} {pos : Pos} {env : Env} {Q : Flow → Shared → Prop} (J : Nat → Shared → Prop) (R : Value → Shared → Prop) {n₀ : Nat} (hJ : J n₀ s)
    (turn : ∀ n s', J n s' → wpAny (model prog w) A (isTrue test env (eval test env)) (fun b s₂ => if b = true then wpAny (model prog w) A (execs body env) (WS J R n) (fun _ _ => False) s₂ else Q .next s₂) (fun _ _ => False) s')
    (hR : ∀ v s', R v s' → Q (.ret v) s') : wpAny (model prog w) A (exec (.While test body [] pos) env) Q E s := by
  refine wpAny_While (codeAny_whileLoop J (fun n s' hJ' => ?_) n₀ hJ)
  refine wpAny_mono (turn n s' hJ') (fun b s₂ h₂ => ?_) fun _ _ e => e.elim
  cases b with
  | false =>
    simp only [Bool.false_eq_true, if_false] at h₂ ⊢
    exact wpAny_execs_nil h₂
  | true =>
    simp only [if_true] at h₂ ⊢
    refine wpAny_mono h₂ (fun f s₃ h₃ => ?_) fun _ _ e => e.elim
    cases f with
    | next => exact h₃
    | cont => exact h₃.elim
    | brk => exact h₃.elim
    | ret v => exact hR v s₃ h₃

def isI (m : Str → Option Value) (x : Str) (n : Int) : Prop := ∃ t, m x = some (.int n t)
def isS (m : Str → Option Value) (x : Str) (v : Str) : Prop := ∃ t, m x = some (.str v t)
theorem isI.of {m : Str → Option Value} {x : Str} {n n' : Int} {t : Tok} (h : m x = some (.int n t)) (e : n = n') : isI m x n' := e ▸ ⟨t, h⟩
theorem isS.of {m : Str → Option Value} {x : Str} {n n' : Str} {t : Tok} (h : m x = some (.str n t)) (e : n = n') : isS m x n' := e ▸ ⟨t, h⟩

theorem pad_slice : ∀ d, d < 8 → ∀ l, l ≤ d → Txt.slice (pad d) (some (l : Int)) (some ((d : Int) + 1)) = pad (d - l) := by decide +kernel
theorem pad_last : ∀ d, d < 8 → Txt.item (pad d) (d : Int) ≠ Str.ofString " " := by decide +kernel

section
variable {prog : Program} {w : World} {A : Around} {s : Shared} {p : Program} {loose : List Str} {mean : ExcName → Option Value} {mg mb : Str → Option Value} {Q : Value → Shared → Prop} {E : Value → Shared → Prop}
local macro_rules | `(tactic| walk_at "eval Name") => `(tactic| (refine ld (by assumption) (by assumption) ?_))
local macro_rules | `(tactic| walk_at "loadName") => `(tactic| (refine ldn (by assumption) (by assumption) ?_))
local macro_rules | `(tactic| walk_at "subscriptTail Name Name str int") => `(tactic| (refine item_str (fitsSsize_of (N := 9223372036854775808) (by omega) (by omega) (Int.le_refl _)) (by omega) (by rw [pad_lenI]; omega) ?_; intro _))
local macro_rules | `(tactic| walk_at "ite") => `(tactic| first | rw [if_pos (by assumption)] | rw [if_neg (by assumption)])
local macro_rules | `(tactic| walk_at "call builtin:len") => `(tactic| (refine P.len_str (by rw [pad_lenI]; omega) ?_))
set_option maxHeartbeats 1000000 in
theorem strip_c (X : (hd.heap_39 w.params).In s.heap) (T : Top p loose mean mg mb s.heap) (hroom : A.depth < recursionLimit) (d k : Nat) (hd8 : d < 8) (t1 t2 : Tok)
  (hQ : ∀ h' tk t, s.heap.StaysIn h' → Q (.str (pad (d - k)) t) {s with heap := h', toks := tk}) :
  wpAny (model prog w) A (call (.ref 52) [.str (pad d) t1, .int k t2]) Q E s := by
  refine wpAny_call ?_
  refine' my_def (binds := [(Str.ofString "s", .str (pad d) t1), (Str.ofString "amount", .int k t2)]) X T ?k6 ?k7 hroom ?k9 ?kB ?_ ?c2 ?c3 ?c4 ?c5
  case k6 => k_is
  case k7 => k_is
  case k9 => exact BindsTo.of_eq rfl
  case kB => exact locs rfl
  case c2 => exact rfl
  case c3 => exact rfl
  case c4 => exact rfl
  case c5 => decide
  intro L h F
  have N : News s.heap L h [] := News.nil
  refine seqW (fun s' => ∃ h tk m, s' = { s with heap := h, toks := tk } ∧ Fr s.heap L h m ∧ isS m (Str.ofString "s") (pad d) ∧ isI m (Str.ofString "amount") k ∧ isI m (Str.ofString "lpos") (0 : Nat)) ?_ ?_
  · repeat' walk1
    exact ⟨rfl, _, _, _, rfl, by assumption, ⟨_, rfl⟩, ⟨_, rfl⟩, ⟨_, rfl⟩⟩
  clear F N
  rintro _ ⟨h, tk, m, rfl, F, hs, ha, hl⟩
  refine seqW (fun s' => ∃ h tk m, s' = { s with heap := h, toks := tk } ∧ Fr s.heap L h m ∧ isS m (Str.ofString "s") (pad d) ∧ isI m (Str.ofString "amount") (k - min k d : Nat) ∧ isI m (Str.ofString "lpos") (min k d : Nat)) ?_ ?_
  · refine whileW (J := fun n s' => ∃ (l : Nat) (h : Heap) (tk : Nat) (m : Str → Option Value), s' = { s with heap := h, toks := tk } ∧ Fr s.heap L h m ∧ isS m (Str.ofString "s") (pad d) ∧ isI m (Str.ofString "amount") n ∧ isI m (Str.ofString "lpos") l ∧ n + l = k ∧ l ≤ d) (fun _ _ => False) ⟨0, _, _, _, rfl, F, hs, ha, hl, by omega, by omega⟩ ?_ (fun _ _ x => x.elim)
    clear F hs ha hl
    rintro n _ ⟨l, h₁, tk₁, m₁, rfl, F₁, ⟨ts, hs⟩, ⟨ta, ha⟩, ⟨tl, hl⟩, h1, h2⟩
    have N₁ : News s.heap L h₁ [] := News.nil
    by_cases hn : n = 0
    · subst hn
      repeat' walk1
      exact ⟨rfl, _, _, _, rfl, F₁, .of hs rfl, .of ha (by omega), .of hl (by omega)⟩
    · have hnb : ((n : Int) != 0) = true := by simpa using hn
      by_cases hld : l < d
      · have hit : (Txt.item (pad d) (l : Int) == Str.ofString " ") = true := by rw [(pad_item d hd8 l h2).mpr hld]; exact beq_self_eq_true _
        repeat' walk1
        refine ⟨n - 1, by omega, l + 1, _, _, _, rfl, by assumption, ?_, ?_, ?_, by omega, by omega⟩
        · exact .of hs rfl
        · exact .of rfl (by omega)
        · exact .of rfl (by omega)
      · have hit : ¬ (Txt.item (pad d) (l : Int) == Str.ofString " ") = true := by simpa using fun e => hld ((pad_item d hd8 l h2).mp e)
        repeat' walk1
        exact ⟨rfl, _, _, _, rfl, F₁, .of hs rfl, .of ha (by omega), .of hl (by omega)⟩
  clear F hs ha hl
  rintro _ ⟨h, tk, m, rfl, F, ⟨ts, hs⟩, ⟨ta, ha⟩, ⟨tl, hl⟩⟩
  have N : News s.heap L h [] := News.nil
  refine seqW (fun s' => ∃ h tk m, s' = { s with heap := h, toks := tk } ∧ Fr s.heap L h m ∧ isS m (Str.ofString "s") (pad d) ∧ isI m (Str.ofString "amount") (k - min k d : Nat) ∧ isI m (Str.ofString "lpos") (min k d : Nat) ∧ isI m (Str.ofString "rpos") d) ?_ ?_
  · repeat' walk1
    refine ⟨rfl, _, _, _, rfl, by assumption, ?_, ?_, ?_, ?_⟩
    · exact .of hs rfl
    · exact .of ha rfl
    · exact .of hl rfl
    · exact .of rfl (by rw [pad_lenI]; omega)
  clear F N hs ha hl
  rintro _ ⟨h, tk, m, rfl, F, ⟨ts, hs⟩, ⟨ta, ha⟩, ⟨tl, hl⟩, ⟨tr, hr⟩⟩
  have N : News s.heap L h [] := News.nil
  refine seqW (fun s' => ∃ h tk m, s' = { s with heap := h, toks := tk } ∧ Fr s.heap L h m ∧ isS m (Str.ofString "s") (pad d) ∧ isI m (Str.ofString "lpos") (min k d : Nat) ∧ isI m (Str.ofString "rpos") d) ?_ ?_
  · refine whileW (J := fun n s' => s' = { s with heap := h, toks := s'.toks }) (fun _ _ => False) (n₀ := 0) rfl ?_ (fun _ _ x => x.elim)
    intro n s' e
    rw [e]
    have hit : ¬ (Txt.item (pad d) (d : Int) == Str.ofString " ") = true := by simpa using pad_last d hd8
    by_cases hn : k - min k d = 0
    · rw [hn] at ha
      repeat' walk1
      exact ⟨rfl, _, _, _, rfl, F, .of hs rfl, .of hl rfl, .of hr rfl⟩
    · have hnb : (((k - min k d : Nat) : Int) != 0) = true := by simpa using hn
      repeat' walk1
      exact ⟨rfl, _, _, _, rfl, F, .of hs rfl, .of hl rfl, .of hr rfl⟩
  clear F N hs ha hl hr
  rintro _ ⟨h, tk, m, rfl, F, ⟨ts, hs⟩, ⟨tl, hl⟩, ⟨tr, hr⟩⟩
  have N : News s.heap L h [] := News.nil
  repeat' walk1
  refine slice_str_ss (hsz := by rw [pad_len, sizeLine_eq]; omega) (s := ⟨_, _, _, _, _⟩) F ?_
  intro h' t' k' F'
  rw [show ((d : Int) + (1 : Int)) = (d : Int) + 1 from rfl, pad_slice d hd8 (min k d) (by omega), show d - min k d = d - k by omega]
  exact hQ h' k' t' F'.keep
end
end Mine
end
section
open PySem PySem.W PySem.Spec PySem.Calls PyProof.Rows
namespace Mine

/-- the end of an element: everything kept, the invariant with one more -/
def EndEl (s : Shared) (Inv : Nat → List Value → Heap → Prop) (i : Nat) (ys : List Value) (y : Value) (s₄ : Shared) : Prop := Keeps s s₄ ∧ Inv i (ys ++ [y]) s₄.heap
/-- the end of a test -/
def EndTs (prog : Program) (w : World) (A : Around) (cenv : Env) (elt : Expr) (s : Shared) (Inv : Nat → List Value → Heap → Prop) (i : Nat) (ys : List Value) (ok : Bool) (s₃ : Shared) : Prop :=
  Keeps s s₃ ∧ (if ok = true then wpAny (model prog w) A (eval elt cenv) (EndEl s₃ Inv i ys) (fun _ _ => False) s₃ else Inv i ys s₃.heap)
abbrev testsOf (ifs : List Expr) (env : Env) : Sem Bool := forIn ifs true fun c r => if r = true then do let ok ← isTrue c env (eval c env); pure (ForInStep.yield ok) else pure (ForInStep.yield r)

theorem Keeps.refl (s : Shared) : Keeps s s := ⟨s.heap, s.toks, rfl, fun _ _ e => e⟩
theorem Keeps.trans {s s' s'' : Shared} (a : Keeps s s') (b : Keeps s' s'') : Keeps s s'' := by
  obtain ⟨h, tk, rfl, k⟩ := a
  obtain ⟨h', tk', rfl, k'⟩ := b
  exact ⟨h', tk', rfl, fun b o e => k' b o (k b o e)⟩
theorem Keeps.stays {s s' : Shared} (a : Keeps s s') : s.heap.StaysIn s'.heap := by
  obtain ⟨h, tk, rfl, k⟩ := a
  exact k

section
variable {prog : Program} {w : World} {A : Around} {R : Result → Shared → Prop} {s : Shared}

theorem compLoopW {elt iter : Expr} {x : Str} {px : Pos} {ifs : List Expr} {scope : Scope} {pos : Pos} {I D : Addr} {fp wr : List Addr} {n : Nat} {P : Nat → Value → Prop} {St : Nat → Heap → Prop}
    {cenv : Env} {m : Str → Option Value} (W : Walks prog w A I fp wr n P St) (hsz : n ≤ sizeLine) (Inv : Nat → List Value → Heap → Prop)
    (hx : cenv.kindOf x = some .local) (hp : (cenv.scope.kind == .class || (cenv.scope.kind == .module && cenv.locals != cenv.globals)) = false)
    (hDC : D < cenv.locals) (hDf : D ∉ fp) (hCf : ∀ b ∈ fp, b < cenv.locals)
    (hst : St 0 s.heap) (hacc : s.heap.PlainList D #[]) (hn : s.heap.Ns cenv.locals m) (h0 : Inv 0 [] s.heap)
    (hlen : ∀ i ys h, Inv i ys h → ys.length ≤ i)
    (hloc : ∀ i ys h h', Inv i ys h → (∀ b o, cenv.locals < b → h.get? b = some o → h'.get? b = some o) → Inv i ys h')
    (hel : ∀ i v ys s₂ m₂, i < n → P i v → Inv i ys s₂.heap → s₂.heap.Ns cenv.locals m₂ → m₂ x = some v → (∀ b o, b ≠ cenv.locals → b ∉ wr → b ≠ D → s.heap.get? b = some o → s₂.heap.get? b = some o) →
      (∃ h tk, s₂ = { s with heap := h, toks := tk } ∧ s.toks ≤ tk) → wpAny (model prog w) A (testsOf ifs cenv) (EndTs prog w A cenv elt s₂ Inv (i + 1) ys) (fun _ _ => False) s₂)
    (hR : ∀ h' tk m' ys, h'.Ns cenv.locals m' → h'.PlainList D ys.toArray → Inv n ys h' →
      (∀ b o, b ≠ cenv.locals → b ∉ wr → b ≠ D → s.heap.get? b = some o → h'.get? b = some o) → R (.ok .next) { s with heap := h', toks := tk }) :
    codeAny (model prog w) A (.compLoop (.ListComp elt [⟨.Name x px, iter, ifs, 0⟩] scope pos) 0 (.ref I) (.ref D) cenv) R s := by
  have hDne : D ≠ cenv.locals := Nat.ne_of_lt hDC
  have hCf' : cenv.locals ∉ fp := fun h => Nat.lt_irrefl _ (hCf _ h)
  have hCw : cenv.locals ∉ wr := fun h => hCf' (W.sub _ h)
  have hDw : D ∉ wr := fun h => hDf (W.sub _ h)
  refine codeAny_compLoop_tests
    (fun k s' => ∃ h' tk m' ys i, s' = { s with heap := h', toks := tk } ∧ St i h' ∧ h'.PlainList D ys.toArray ∧ h'.Ns cenv.locals m' ∧ Inv i ys h' ∧ i ≤ n ∧ k = n + 1 - i ∧
      (∀ b o, b ≠ cenv.locals → b ∉ wr → b ≠ D → s.heap.get? b = some o → h'.get? b = some o) ∧ s.toks ≤ tk) ?_ (n + 1)
    ⟨s.heap, s.toks, m, [], 0, rfl, hst, hacc, hn, h0, Nat.zero_le _, rfl, fun _ _ _ _ _ e => e, Nat.le_refl _⟩
  rintro k s' ⟨H, tk, m', ys, i, rfl, hst', hacc', hn', hI, hi, rfl, hk, htk⟩
  have gt : ∀ b : Nat, cenv.locals < b → b ≠ cenv.locals ∧ b ∉ fp ∧ b ≠ D := fun b hb => ⟨Nat.ne_of_gt hb, fun h => Nat.lt_asymm hb (hCf _ h), Nat.ne_of_gt (Nat.lt_trans hDC hb)⟩
  by_cases hlt : i < n
  · refine wpAny_with_toks (n := s.toks) htk (W.item i _ _ _ hlt hst' fun v h₁ tk₁ hPv hst₁ hk₁ htk₁ => ?_)
    refine wpAny_assign_Name (wpAny_storeName_local hx (hn'.at' fun o e => hk₁ _ o hCw e) (fun h₂ hn₂ hs₂ => ?_) hp)
    have up₂ : ∀ b o, b ≠ cenv.locals → b ∉ wr → H.get? b = some o → h₂.get? b = some o := fun b o hbC hbf e => hs₂.extBut b o hbC (hk₁ b o hbf e)
    have hst₂ : St (i + 1) h₂ := W.frame _ _ _ hst₁ fun b hb o e => hs₂.extBut b o (fun h => hCf' (h ▸ hb)) e
    have hI₂ : Inv i ys h₂ := hloc _ _ _ _ hI fun b o hb e => up₂ b o (gt b hb).1 (fun q => (gt b hb).2.1 (W.sub _ q)) e
    refine wpAny_mono (wpAny_toks_of (n := s.toks) (Nat.le_succ_of_le htk₁) (hel i v ys _ _ hlt hPv hI₂ hn₂ (by simp) (fun b o hbC hbf hbD e => up₂ b o hbC hbf (hk b o hbC hbf hbD e)) ⟨_, _, rfl, Nat.le_succ_of_le htk₁⟩)) (fun ok s₃ h₃ => ?_) fun _ _ e => e.2.elim
    obtain ⟨htk₃, ⟨h₃', tk₃, rfl, hk₃⟩, h₃⟩ := h₃
    have hst₃ : St (i + 1) h₃' := W.frame _ _ _ hst₂ fun b _ o e => hk₃ b o e
    have hacc₃ : h₃'.PlainList D ys.toArray := hacc'.at fun o e => hk₃ _ o (up₂ D o hDne hDw e)
    have hn₃ := hn₂.keeps hk₃
    cases ok with
    | false =>
      simp only [Bool.false_eq_true, if_false] at h₃ ⊢
      exact ⟨n + 1 - (i + 1), by omega, h₃', tk₃, _, ys, i + 1, rfl, hst₃, hacc₃, hn₃, h₃, hlt, rfl, fun b o hbC hbf hbD e => hk₃ b o (up₂ b o hbC hbf (hk b o hbC hbf hbD e)), htk₃⟩
    | true =>
      simp only [if_true] at h₃ ⊢
      refine wpAny_mono (wpAny_toks_of (n := s.toks) htk₃ h₃) (fun y s₄ h₄ => ?_) fun _ _ e => e.2.elim
      obtain ⟨htk₄, ⟨h₄', tk₄, rfl, hk₄⟩, hI₄⟩ := h₄
      have hys : ys.toArray.size ≤ sizeLine := by
        rw [List.size_toArray]
        have := hlen _ _ _ hI
        omega
      refine wpAny_list_append_plain (hsz := hys) (hacc₃.at fun o e => hk₄ _ o e) fun h₅ hl₅ hs₅ => ?_
      refine ⟨n + 1 - (i + 1), by omega, h₅, tk₄, _, ys ++ [y], i + 1, rfl, ?_, ?_, (hn₃.keeps hk₄).sameBut hs₅ (Ne.symm hDne), ?_, hlt, rfl, fun b o hbC hbf hbD e => hs₅.extBut b o hbD (hk₄ b o (hk₃ b o (up₂ b o hbC hbf (hk b o hbC hbf hbD e)))), htk₄⟩
      · exact W.frame _ _ h₅ hst₃ fun b hb o e => hs₅.extBut b o (fun h => hDf (h ▸ hb)) (hk₄ b o e)
      · simpa using hl₅
      · exact hloc _ _ _ _ hI₄ fun b o hb e => hs₅.extBut b o (gt b hb).2.2 e
  · have hin : i = n := by omega
    subst hin
    refine W.done _ _ _ hst' fun h₁ tk₁ hk₁ => ?_
    refine hR h₁ tk₁ m' ys (hn'.at' fun o e => hk₁ _ o hCw e) (hacc'.at fun o e => hk₁ _ o hDw e) ?_ fun b o hbC hbf hbD e => hk₁ b o hbf (hk b o hbC hbf hbD e)
    exact hloc _ _ _ _ hI fun b o hb e => hk₁ b o (fun q => (gt b hb).2.1 (W.sub _ q)) e
end

/-- what a comprehension goes over -/
def SrcOK (prog : Program) (w : World) (A : Around) (xv : Value) (s₁ : Shared) (n : Nat) (P : Nat → Value → Prop) : Prop :=
  ∀ (Q : Value → Shared → Prop) (E : Value → Shared → Prop), (∀ I fp wr St h₂, Walks prog w A I fp wr n P St → St 0 h₂ → (∀ b ∈ fp, b < h₂.objs.size) → (∀ b ∈ wr, s₁.heap.objs.size ≤ b) →
    s₁.heap.StaysIn h₂ → s₁.heap.objs.size ≤ h₂.objs.size → Q (.ref I) { s₁ with heap := h₂ }) → wpAny (model prog w) A (pyIter xv) Q E s₁

theorem srcList {prog : Program} {w : World} {A : Around} {s : Shared} {ax : Addr} {items : List Value} (hh : A.handled = none) (hl : s.heap.IsList ax items.toArray) : SrcOK prog w A (.ref ax) s items.length (fun i v => items[i]? = some v) := by
  intro Q E h
  refine wpAny_pyIter_list hl ?_
  obtain ⟨o, ho, _⟩ := id hl
  have hlt := Heap.lt_size ho
  have W := Walks.list (prog := prog) (w := w) hh s.heap.objs.size ax (Nat.ne_of_lt hlt) items.toArray
  have e : items.toArray.size = items.length := List.size_toArray ..
  rw [e] at W
  have eP : (fun (i : Nat) (v : Value) => items.toArray[i]? = some v) = fun (i : Nat) (v : Value) => items[i]? = some v := by funext i v; simp
  rw [eP] at W
  refine h _ _ _ _ _ W ⟨?_, ?_⟩ ?_ ?_ (fun b o e => Heap.get?_push_of_some _ e) (by rw [Heap.size_push]; exact Nat.le_succ _)
  · exact ⟨_, Heap.get?_push_size _ rfl, rfl, rfl⟩
  · obtain ⟨o, ho, r⟩ := hl
    exact ⟨o, Heap.get?_push_of_some _ ho, r⟩
  · intro b hb
    rw [Heap.size_push]
    simp only [List.mem_cons, List.not_mem_nil, or_false] at hb
    rcases hb with rfl | rfl
    · exact Nat.lt_succ_self _
    · exact Nat.lt_succ_of_lt hlt
  · intro b hb
    simp only [List.mem_cons, List.not_mem_nil, or_false] at hb
    exact Nat.le_of_eq hb.symm

structure CompOK (prog : Program) (w : World) (A : Around) (env : Env) (scope : Scope) (cl : List (Str × Addr)) (x : Str) (ifs : List Expr) (elt : Expr) (Inv : Addr → Nat → List Value → Heap → Prop) (n : Nat) (P : Nat → Value → Prop) (s₁ : Shared) : Prop where
  start : ∀ C h, Inv C 0 [] h
  len : ∀ C i ys h, Inv C i ys h → ys.length ≤ i
  loc : ∀ C i ys h h', Inv C i ys h → (∀ b o, C < b → h.get? b = some o → h'.get? b = some o) → Inv C i ys h'
  el : ∀ C i v ys s' m', i < n → P i v → Inv C i ys s'.heap → Fr s₁.heap C s'.heap m' → m' x = some v → (∃ h tk, s' = { s₁ with heap := h, toks := tk } ∧ s₁.toks ≤ tk) →
    wpAny (model prog w) A (testsOf ifs (compEnvC scope cl C env)) (EndTs prog w A (compEnvC scope cl C env) elt s' (Inv C) (i + 1) ys) (fun _ _ => False) s'

section
variable {prog : Program} {w : World} {A : Around} {E : Value → Shared → Prop} {env : Env}
theorem compBlock {elt iter : Expr} {x : Str} {px : Pos} {ifs : List Expr} {scope : Scope} {cl : List (Str × Addr)} {pos : Pos} {s₁ : Shared} {h₂ : Heap} {I : Addr} {fp wr : List Addr} {n : Nat} {P : Nat → Value → Prop}
    {St : Nat → Heap → Prop} (W : Walks prog w A I fp wr n P St) (hsz : n ≤ sizeLine) (Inv : Addr → Nat → List Value → Heap → Prop) {RR : Value → Addr → Result → Shared → Prop}
    (hcell : ∀ y ∈ scope.names, y.2 ≠ .cell) (hkind : scope.kind = .function) (hx : scope.names.lookup x = some .local) (hst : St 0 h₂) (hfp : ∀ b ∈ fp, b < h₂.objs.size) (hwr : ∀ b ∈ wr, s₁.heap.objs.size ≤ b)
    (hk₂ : s₁.heap.StaysIn h₂) (hle : s₁.heap.objs.size ≤ h₂.objs.size)
    (ok : CompOK prog w A env scope cl x ifs elt Inv n P s₁)
    (hRR : ∀ D C h' tk m' ys, s₁.heap.objs.size ≤ D → D < C → h'.Ns C m' → h'.PlainList D ys.toArray → Inv C n ys h' → s₁.heap.StaysIn h' → RR (.ref D) C (.ok .next) { s₁ with heap := h', toks := tk }) :
    wpAny (model prog w) A (newList []) (fun acc s₃ => wpAny (model prog w) A (newFunctionEnv scope env.globals cl [] env.qual none .none (some env)) (fun cenv s₄ =>
      codeAny (model prog w) A (.compStart (.ListComp elt [⟨.Name x px, iter, ifs, 0⟩] scope pos) 0 (.ref I) acc { cenv with scope := relabel scope env }) (RR acc cenv.locals) s₄) E s₃) E { s₁ with heap := h₂ } := by
  refine wpAny_newObj_type (wpAny_newFunctionEnv hcell (by intro y hy; simp at hy) (fun h₁ hns₁ hsb₁ => ?_) hkind)
  dsimp only at hns₁ hsb₁ ⊢
  generalize hH2 : h₂.push { cls := .type "list", dict := none, data := .seq ([] : List Value).toArray } = H2 at hns₁ hsb₁ ⊢
  have hC : H2.objs.size = h₂.objs.size + 1 := by rw [← hH2, Heap.size_push]
  have hDC : h₂.objs.size < H2.objs.size := by rw [hC]; exact Nat.lt_succ_self _
  have hDf : h₂.objs.size ∉ fp := fun hm => Nat.lt_irrefl _ (hfp _ hm)
  have old : ∀ b o, h₂.get? b = some o → h₁.get? b = some o := fun b o e => hsb₁.extBut b o (Nat.ne_of_lt (Nat.lt_trans (Heap.lt_size e) hDC)) (Heap.get?_push_of_some _ (hH2 ▸ Heap.get?_push_of_some _ e))
  have hacc : h₁.PlainList h₂.objs.size #[] := ⟨_, hsb₁.extBut _ _ (Nat.ne_of_lt hDC) (Heap.get?_push_of_some _ (hH2 ▸ Heap.get?_push_size _ rfl))⟩
  have hst₁ : St 0 h₁ := W.frame _ _ _ hst fun b _ o e => old b o e
  have kept : ∀ h', (∀ b o, b ≠ H2.objs.size → b ∉ wr → b ≠ h₂.objs.size → h₁.get? b = some o → h'.get? b = some o) → s₁.heap.StaysIn h' := fun h' hk b o e => by
    have hb := Heap.lt_size e
    exact hk b o (Nat.ne_of_lt (Nat.lt_of_lt_of_le hb (Nat.le_trans hle (Nat.le_of_lt hDC)))) (fun q => Nat.lt_irrefl _ (Nat.lt_of_lt_of_le hb (hwr b q))) (Nat.ne_of_lt (Nat.lt_of_lt_of_le hb hle)) (old b o (hk₂ b o e))
  have loop : ∀ s₃ : Shared, s₃ = { s₁ with heap := h₁, toks := s₁.toks + ([] : List (Str × Value)).length } →
      codeAny (model prog w) A (.compLoop (.ListComp elt [⟨.Name x px, iter, ifs, 0⟩] scope pos) 0 (.ref I) (.ref h₂.objs.size) (compEnvC scope cl H2.objs.size env))
        (RR (.ref h₂.objs.size) H2.objs.size) s₃ := by
    rintro s₃ rfl
    refine compLoopW (cenv := compEnvC scope cl H2.objs.size env) W hsz (Inv H2.objs.size) (lookup_relabel_local hx) (by simp [compEnvC, relabel, hkind]) hDC hDf (fun b hb => Nat.lt_trans (hfp b hb) hDC) hst₁ hacc hns₁ (ok.start _ _)
      (ok.len _) (ok.loc _) (fun i v ys s₂ m₂ hi hv hI hn hm hk hs => ?_) fun h' tk m' ys hn hl hI hk => ?_
    · obtain ⟨h, tk, rfl, htk⟩ := hs
      exact ok.el _ i v ys _ m₂ hi hv hI ⟨hn, kept _ hk, Nat.le_trans hle (Nat.le_of_lt hDC)⟩ hm ⟨_, _, rfl, htk⟩
    · exact hRR _ _ h' tk m' ys hle hDC hn hl hI (kept h' hk)
  exact codeAny_compStart_list (loop _ rfl) (W.self 0 _ _ _ hst₁ (loop _ rfl))

def CompE (prog : Program) (w : World) (A : Around) (env : Env) (scope : Scope) (cl : List (Str × Addr)) (x : Str) (ifs : List Expr) (elt : Expr) (Inv : Addr → Nat → List Value → Heap → Prop) (Q : Value → Shared → Prop) (xv : Value) (s₁ : Shared) : Prop :=
  ∃ n P, SrcOK prog w A xv s₁ n P ∧ n ≤ sizeLine ∧ CompOK prog w A env scope cl x ifs elt Inv n P s₁ ∧
      ∀ D C h' tk ys, s₁.heap.objs.size ≤ D → D < C → h'.PlainList D ys.toArray → Inv C n ys h' → s₁.heap.StaysIn h' → Q (.ref D) { s₁ with heap := h', toks := tk }
def CompEA (prog : Program) (w : World) (A : Around) (env : Env) (scope : Scope) (cl : List (Str × Addr)) (x y : Str) (ifs : List Expr) (elt : Expr) (Inv : Addr → Nat → List Value → Heap → Prop) (Q : Flow → Shared → Prop) (xv : Value) (s₁ : Shared) : Prop :=
  ∃ n P m, SrcOK prog w A xv s₁ n P ∧ n ≤ sizeLine ∧ CompOK prog w A env scope cl x ifs elt Inv n P s₁ ∧ s₁.heap.Ns env.locals m ∧
      ∀ D C h' tk ys, s₁.heap.objs.size ≤ D → D < C → h'.PlainList D ys.toArray → Inv C n ys h' → h'.Ns env.locals (fun z => if z = y then some (.ref D) else m z) →
        (∀ b o, b ≠ env.locals → s₁.heap.get? b = some o → h'.get? b = some o) → Q .next { s₁ with heap := h', toks := tk }
theorem compW {s : Shared} {elt iter : Expr} {x : Str} {px : Pos} {ifs : List Expr} {scope : Scope} {cl : List (Str × Addr)} {pos : Pos} {Q : Value → Shared → Prop} (Inv : Addr → Nat → List Value → Heap → Prop)
    (hclos : closureFor scope env = pure cl) (hcell : ∀ y ∈ scope.names, y.2 ≠ .cell) (hkind : scope.kind = .function)
    (hnames : ∀ y ∈ scope.names, y.2 = .local → scope.names.lookup y.1 = some .local) (hx : scope.names.lookup x = some .local)
    (h : wpAny (model prog w) A (eval iter env) (CompE prog w A env scope cl x ifs elt Inv Q) E s)
    (hs : ∀ x, foldedSetIterable iter env x = pure x := by intro _; rfl) :
    wpAny (model prog w) A (eval (.ListComp elt [⟨.Name x px, iter, ifs, 0⟩] scope pos) env) Q E s := by
  rw [eval_ListComp]
  refine wpAny_comprehension_free (use := none) rfl hs hclos hkind hnames (wpAny_mono h (fun xv s₁ h₁ => ?_) fun _ _ e => e)
  obtain ⟨n, P, src, hsz, ok, fin⟩ := h₁
  refine src _ _ fun I fp wr St h₂ W hst hfp hwr hk₂ hle => ?_
  refine compBlock (RR := fun acc C => compPost (model prog w) A E none Q acc C) W hsz Inv hcell hkind hx hst hfp hwr hk₂ hle ok ?_
  intro D C h' tk m' ys hD hDC hn hl hI hk
  refine ⟨m', hn, fun h'' hs'' => fin D C h'' tk ys hD hDC (hl.extBut hs''.extBut (Nat.ne_of_lt hDC)) (ok.loc _ _ _ _ _ hI fun b o hb e => hs''.extBut b o (Nat.ne_of_gt hb) e) fun b o e => hs''.extBut b o ?_ (hk b o e)⟩
  exact Nat.ne_of_lt (Nat.lt_of_lt_of_le (Heap.lt_size e) (Nat.le_trans hD (Nat.le_of_lt hDC)))

theorem compA {s : Shared} {elt iter : Expr} {x y : Str} {px py : Pos} {ifs : List Expr} {scope : Scope} {cl : List (Str × Addr)} {pos spos : Pos} {Q : Flow → Shared → Prop} (Inv : Addr → Nat → List Value → Heap → Prop)
    (hsw : swapsWith (.ListComp elt [⟨.Name x px, iter, ifs, 0⟩] scope pos) (some (.Name y py)) spos.line env = pure true)
    (hclos : closureFor scope env = pure cl) (hcell : ∀ y ∈ scope.names, y.2 ≠ .cell) (hkind : scope.kind = .function)
    (hnames : ∀ y ∈ scope.names, y.2 = .local → scope.names.lookup y.1 = some .local) (hx : scope.names.lookup x = some .local)
    (hy : env.kindOf y = some .local) (hp : (env.scope.kind == .class || (env.scope.kind == .module && env.locals != env.globals)) = false)
    (h : wpAny (model prog w) A (eval iter env) (CompEA prog w A env scope cl x y ifs elt Inv Q) E s)
    (hs : ∀ x, foldedSetIterable iter env x = pure x := by intro _; rfl) :
    wpAny (model prog w) A (exec (.Assign [.Name y py] (.ListComp elt [⟨.Name x px, iter, ifs, 0⟩] scope pos) spos) env) Q E s := by
  rw [exec_Assign_Name_used _ _ _ _ hsw]
  refine wpAny_bind (wpAny_standAt (wpAny_bind ?_))
  show wpAny _ A (do let _ ← comprehension (.ListComp elt [⟨.Name x px, iter, ifs, 0⟩] scope pos) scope env _ (newList []) false (eval iter env) (some (assign (.Name y py) env))) _ _ s
  refine wpAny_bind (wpAny_mono (wpAny_comprehension_free (Q := fun _ s' => Q .next s') rfl hs hclos hkind hnames (wpAny_mono h (fun xv s₁ h₁ => ?_) fun _ _ e => e)) (fun _ s' hq => wpAny_pure (wpAny_pure hq)) fun _ _ e => e)
  obtain ⟨n, P, m, src, hsz, ok, hn₁, fin⟩ := h₁
  refine src _ _ fun I fp wr St h₂ W hst hfp hwr hk₂ hle => ?_
  refine compBlock (RR := fun acc C => compPost (model prog w) A E (some (assign (.Name y py) env)) (fun _ s' => Q .next s') acc C) W hsz Inv hcell hkind hx hst hfp hwr hk₂ hle ok ?_
  intro D C h' tk m' ys hD hDC hn hl hI hk
  have hLs : env.locals < s₁.heap.objs.size := by obtain ⟨o, _, _, ho, _⟩ := hn₁; exact Heap.lt_size ho
  have hLD : env.locals < D := Nat.lt_of_lt_of_le hLs hD
  have hLC : env.locals < C := Nat.lt_trans hLD hDC
  refine wpAny_assign_Name (wpAny_storeName_local hy (hn₁.keeps hk) (fun h₃ hn₃ hs₃ => ?_) hp)
  refine ⟨m', hn.sameBut hs₃ (Nat.ne_of_gt hLC), fun h₄ hs₄ => ?_⟩
  refine fin D C h₄ _ ys hD hDC ((hl.extBut hs₃.extBut (Nat.ne_of_gt hLD)).extBut hs₄.extBut (Nat.ne_of_lt hDC)) ?_ (hn₃.sameBut hs₄ (Nat.ne_of_lt hLC)) fun b o hbL e => hs₄.extBut b o ?_ (hs₃.extBut b o hbL (hk b o e))
  · exact ok.loc _ _ _ _ _ hI fun b o hb e => hs₄.extBut b o (Nat.ne_of_gt hb) (hs₃.extBut b o (Nat.ne_of_gt (Nat.lt_trans hLC hb)) e)
  · exact Nat.ne_of_lt (Nat.lt_trans (Nat.lt_of_lt_of_le (Heap.lt_size e) hD) hDC)
end
end Mine
end
section
open PySem PySem.W PySem.Spec PySem.Calls PyProof.Rows
namespace Mine

section
variable {prog : Program} {w : World} {A : Around} {s : Shared} {K : Frag} {p : Program} {loose : List Str} {mean : ExcName → Option Value} {mg mb : Str → Option Value}

theorem my_defC {R : Result → Shared → Prop} {name qual : Str} {params : Arguments} {body : List Stmt} {scope : Scope} {dV kV doc pm cdv ct oc : Value} {an od : Option Addr} {osl : Array (Option Value)} {f : Addr} {args : Args} {binds : List (Str × Value)}
    (X : K.In s.heap) (T : Top p loose mean mg mb s.heap)
    (ho : K.lookup f = some ⟨oc, od, .func (fnOf name qual params body scope dV kV doc pm an cdv ct), osl⟩) (hcd : codeIn K cdv qual = true) (hroom : A.depth < recursionLimit)
    (hbind : BindsTo s (fnOf name qual params body scope dV kV doc pm an cdv ct) args binds) (hkind : (binds.all fun y => scope.names.lookup y.1 == some .local || scope.names.lookup y.1 == some .cell) = true)
    (h : ∀ L' h₁ tk, s.toks ≤ tk → Fr s.heap L' h₁ (bindL (envOfC qual scope L' f cdv).kindOf binds fun _ => none) →
      (∀ n c, (cellsFrom (L' + 1) scope.names []).lookup n = some c → h₁.IsCell c (bindC (envOfC qual scope L' f cdv).kindOf binds (fun _ => none) n)) →
      wpAny (model prog w) (A.deeper (envOfC qual scope L' f cdv)) (execs body (envOfC qual scope L' f cdv))
        (fun fl s' => R (.ok (.ret (match fl with | .ret v => v | _ => .none))) s') (fun _ _ => False)
        { s with heap := h₁, toks := tk })
    (hco : scope.isCoroutine = false) (hgen : scope.isGenerator = false) (hk : scope.kind = .function) : codeAny (model prog w) A (.call (.ref f) args) R s := by
  refine codeAny_call_function (fd := fnOf name qual params body scope dV kV doc pm an cdv ct) hroom (X _ _ ho) rfl hco hgen rfl (codeRec_of X hcd) (hbind _ _ _ _ ?_)
  refine wpAny_with_toks (n := s.toks) (Nat.le_refl _) (wpAny_newFunctionEnv_cells hk (kindsX hkind _) fun env' he s' x htk => ?_)
  subst he
  refine ⟨T.nolimit.keeps x.toInCall.keep, codeAny_func ?_⟩
  obtain ⟨h₁, tk, rfl, _⟩ := x.done
  exact wpAny_mono (h s.heap.objs.size h₁ tk htk ⟨x.toInCall.ns, x.toInCall.keep, Nat.le_refl _⟩ fun n c e => x.cell n c e) (fun _ _ y => y) fun _ _ y => y.elim
end

section
variable {M : Model} {A : Around} {E : Value → Shared → Prop} {s : Shared} {K : Frag} {g : Heap} {C c : Addr} {env : Env} {m mg mb : Str → Option Value} {p : Program} {loose : List Str} {mean : ExcName → Option Value}
  {x : Str} {pos : Pos} {v : Value} {Q : Value → Shared → Prop}
theorem nmL (F : Fr g env.locals s.heap m) (hv : m x = some v) (h : Q v s)
    (hk : env.scope.kind = .function := by rfl) (hx : env.kindOf x = some .local := by rfl) (hd : (x == ("__debug__" : Str)) = false := by decide) :
    wpAny M A (eval (.Name x pos) env) Q E s := wpAny_Name (wpAny_loadName_local hk hx F.ns hv h) hd
theorem nmC (F : Fr g C s.heap m) (hx : env.kindOf x = some .cell) (hc : env.cells.lookup x = some c) (hv : g.IsCell c (some v)) (h : Q v s)
    (hk : env.scope.kind = .function := by rfl) (hd : (x == ("__debug__" : Str)) = false := by decide) :
    wpAny M A (eval (.Name x pos) env) Q E s := wpAny_Name (wpAny_loadName_cell hk hx hc (hv.keeps F.keep) h) hd
theorem nmC' (hx : env.kindOf x = some .cell) (hc : env.cells.lookup x = some c) (hv : s.heap.IsCell c (some v)) (h : Q v s)
    (hk : env.scope.kind = .function := by rfl) (hd : (x == ("__debug__" : Str)) = false := by decide) :
    wpAny M A (eval (.Name x pos) env) Q E s := wpAny_Name (wpAny_loadName_cell hk hx hc hv h) hd
theorem nmG (F : Fr g C s.heap m) (X : K.In g) (T : Top p loose mean mg mb g) (hx : env.kindOf x = some .globalImplicit) (hg : env.globals = mainGlobals) (e : nsIn K mainGlobals x = some (some v)) (h : Q v s)
    (hk : env.scope.kind = .function := by rfl) (hd : (x == ("__debug__" : Str)) = false := by decide) :
    wpAny M A (eval (.Name x pos) env) Q E s := Name_function_global hk hx (loadGlobal_global (mg := mg) (hg ▸ T.g.keeps F.keep) (mg_of X T.g e) h) hd
theorem nmB (F : Fr g C s.heap m) (X : K.In g) (T : Top p loose mean mg mb g) (hx : env.kindOf x = some .globalImplicit) (hg : env.globals = mainGlobals) (hb : env.builtins = builtinsNs) (e : nsIn K mainGlobals x = some none) (hv : bootBuiltins x = some v) (hn : x ≠ "__name__") (h : Q v s)
    (hk : env.scope.kind = .function := by rfl) (hd : (x == ("__debug__" : Str)) = false := by decide) :
    wpAny M A (eval (.Name x pos) env) Q E s :=
  Name_function_global hk hx (loadGlobal_builtin (mg := mg) (mb := mb) (hg ▸ T.g.keeps F.keep) (mg_none_of X T.g e) (hb ▸ T.b.keeps F.keep) ((T.builtins x hn).trans hv) h) hd
end
theorem seqT {M : Model} {A : Around} {E : Value → Shared → Prop} {s : Shared} {stmt : Stmt} {rest : List Stmt} {env : Env} {Q : Flow → Shared → Prop} (P : Shared → Prop)
    (h1 : wpAny M A (exec stmt env) (NX P) E s) (h2 : ∀ s', P s' → s.toks ≤ s'.toks → wpAny M A (execs rest env) Q E s') : wpAny M A (execs (stmt :: rest) env) Q E s := by
  refine wpAny_execs_cons (wpAny_mono (wpAny_toks_of (n := s.toks) (Nat.le_refl _) h1) (fun f s' h => ?_) fun _ _ e => e.2)
  obtain ⟨ht, rfl, h⟩ := h
  exact h2 s' h ht
end Mine
end
section
open PySem PySem.W PySem.Spec PySem.Calls PyProof.Rows
namespace Mine
def FS (J : Nat → Shared → Prop) (I : Addr) (oI : Obj) (i : Nat) (f : Flow) (s : Shared) : Prop := f = .next ∧ J i s ∧ s.heap.get? I = some oI
/-- a source of a for: one iterator object of its own -/
def Src1 (prog : Program) (w : World) (A : Around) (xv : Value) (s₁ : Shared) (n : Nat) (P : Nat → Value → Prop) : Prop :=
  ∀ (Q : Value → Shared → Prop) (E : Value → Shared → Prop), (∀ o St, Walks prog w A s₁.heap.objs.size [s₁.heap.objs.size] [s₁.heap.objs.size] n P St → (∀ i h, St i h → ∃ o, h.get? s₁.heap.objs.size = some o) → St 0 (s₁.heap.push o) → o.isFreed = false →
    Q (.ref s₁.heap.objs.size) { s₁ with heap := s₁.heap.push o }) → wpAny (model prog w) A (pyIter xv) Q E s₁

def ForOK (prog : Program) (w : World) (A : Around) (env : Env) (x : Str) (px : Pos) (body : List Stmt) (J : Addr → Nat → Shared → Prop) (Q : Flow → Shared → Prop) (xv : Value) (s₁ : Shared) : Prop := ∃ n P, Src1 prog w A xv s₁ n P ∧ (∀ o, o.isFreed = false → J s₁.heap.objs.size 0 { s₁ with heap := s₁.heap.push o }) ∧
      (∀ I i s₂ h' tk, J I i s₂ → (∀ b o, b ≠ I → s₂.heap.get? b = some o → h'.get? b = some o) → (∃ o, h'.get? I = some o) → s₂.toks ≤ tk → J I i { s₂ with heap := h', toks := tk }) ∧
      (∀ I oI i v s₂, I = s₁.heap.objs.size → i < n → P i v → J I i s₂ → s₂.heap.get? I = some oI → wpAny (model prog w) A (assign (.Name x px) env v) (fun _ s₃ => wpAny (model prog w) A (execs body env) (FS (J I) I oI (i + 1)) (fun _ _ => False) s₃) (fun _ _ => False) s₂) ∧
      (∀ I s₂ h' tk, J I n s₂ → (∀ b o, b ≠ I → s₂.heap.get? b = some o → h'.get? b = some o) → Q .next { s₂ with heap := h', toks := tk })
theorem forW {prog : Program} {w : World} {A : Around} {E : Value → Shared → Prop} {s : Shared} {x : Str} {px pos : Pos} {iter : Expr} {body : List Stmt} {env : Env} {Q : Flow → Shared → Prop} (J : Addr → Nat → Shared → Prop)
    (h : wpAny (model prog w) A (eval iter env) (ForOK prog w A env x px body J Q) E s)
    (hs : ∀ x, foldedSetIterable iter env x = pure x := by intro _; rfl) :
    wpAny (model prog w) A (exec (.For (.Name x px) iter body [] pos) env) Q E s := by
  refine wpAny_For (wpAny_mono h (fun xv s₁ h₁ => ?_) fun _ _ e => e) hs
  obtain ⟨n, P, src, j0, jl, step, fin⟩ := h₁
  refine src _ _ fun o St W live st0 hf => ?_
  refine codeAny_forLoop_any (fun k s' => ∃ i, i ≤ n ∧ k = n + 1 - i ∧ St i s'.heap ∧ J s₁.heap.objs.size i s') ?_ (n + 1) ⟨0, Nat.zero_le _, rfl, st0, j0 o hf⟩
  rintro k s' ⟨i, hi, rfl, st, hJ⟩
  by_cases hlt : i < n
  · refine wpAny_with_toks (n := s'.toks) (Nat.le_refl _) (W.item i _ _ _ hlt st fun v h₁ tk₁ hP st₁ hk₁ htk₁ => ?_)
    have J₁ := jl _ i s' h₁ tk₁ hJ (fun b o hb e => hk₁ b o (by simpa using hb) e) (live _ _ st₁) htk₁
    refine wpAny_of_eq (show letOwnedTupleGo (.Name x px) (.ref s₁.heap.objs.size) v = pure () from rfl) ?_
    obtain ⟨oI, ho⟩ := live _ _ st₁
    refine wpAny_mono (step _ oI i v _ rfl hlt hP J₁ ho) (fun _ s₃ h₃ => ?_) fun _ _ e => e.elim
    refine wpAny_mono h₃ (fun f s₄ h₄ => ?_) fun _ _ e => e.elim
    obtain ⟨rfl, J₄, ho₄⟩ := h₄
    refine ⟨n + 1 - (i + 1), by omega, i + 1, hlt, rfl, ?_, J₄⟩
    refine W.frame _ _ _ st₁ fun b hb o e => ?_
    simp only [List.mem_cons, List.not_mem_nil, or_false] at hb
    subst hb
    rw [← e]
    exact ho₄.trans ho.symm
  · have : i = n := by omega
    subst this
    refine W.done _ _ _ st fun h₁ tk₁ hk₁ => wpAny_execs_nil ?_
    exact fin _ _ _ _ hJ fun b o hb e => hk₁ b o (by simpa using hb) e

theorem srcStr {prog : Program} {w : World} {A : Around} {s : Shared} {x : Str} {t : Tok} (hh : A.handled = none) : Src1 prog w A (.str x t) s x.cps.size (SignAt x) := by
  intro Q E h
  cases ha : x.cps.all (· < 128)
  · exact wpAny_pyIter_wide ha (h _ _ (Walks.strWide hh _ x t) (fun i h st => let ⟨o, ho, _⟩ := st; ⟨o, ho⟩) ⟨_, Heap.get?_push_size _ rfl, rfl, rfl⟩ rfl)
  · exact wpAny_pyIter_ascii ha (h _ _ (Walks.strAscii hh _ x t) (fun i h st => let ⟨o, ho, _⟩ := st; ⟨o, ho⟩) ⟨_, Heap.get?_push_size _ rfl, rfl, rfl⟩ rfl)
end Mine
end
section
open PySem PySem.W PySem.Spec PySem.Calls PyProof.Rows
namespace Mine
section
variable {prog : Program} {w : World} {A : Around} {s : Shared} {K : Frag} {p : Program} {loose : List Str} {mean : ExcName → Option Value} {mg mb : Str → Option Value} {C : Addr} {R : Result → Shared → Prop}

theorem make_my {rest : List Value} {kw : List (Str × Value)} {fI : Addr} (X : K.In s.heap) (hm : makesIn K C = true)
    (hi : findIn K (.ref C) "__init__" = some (some (.ref fI))) (hf : typeIn K (.ref fI) = some (.type "function"))
    (h : codeAny (model prog w) (A.under (.builtin "type.__call__" ⟨.ref C :: rest, kw⟩)) (.call (.ref fI) ⟨.ref (s.heap.objs.size + 1) :: rest, kw⟩) (InitBack (s.heap.objs.size + 1) R) { s with heap := (s.heap.push emptyDict).push (instObj C s.heap.objs.size) }) :
    codeAny (model prog w) A (.call (.ref C) ⟨rest, kw⟩) R s := by
  obtain ⟨hh, g, d, t, os⟩ := s
  exact make_core (makes_of X hm) (looks_findIn X hi) (fun self => bind_fn X self hf) (.inl rfl) h

theorem my_defN {g : Heap} {news : List (Addr × Obj)} {name qual : Str} {params : Arguments} {body : List Stmt} {scope : Scope} {dV kV doc pm cdv ct oc : Value} {an od : Option Addr} {osl : Array (Option Value)} {f : Addr} {args : Args} {binds : List (Str × Value)}
    (X : K.In g) (T : Top p loose mean mg mb g) (st : g.StaysIn s.heap) (hle : g.objs.size ≤ s.heap.objs.size) (N : ∀ p ∈ news, s.heap.get? p.1 = some p.2 ∧ g.get? p.1 = none)
    (ho : K.lookup f = some ⟨oc, od, .func (fnOf name qual params body scope dV kV doc pm an cdv ct), osl⟩) (hcd : codeIn K cdv qual = true) (hroom : A.depth < recursionLimit)
    (hbind : BindsTo s (fnOf name qual params body scope dV kV doc pm an cdv ct) args binds) (hloc : ∀ y ∈ binds, scope.names.lookup y.1 = some .local)
    (h : ∀ L' h₁, Fr g L' h₁ (fun y => binds.reverse.lookup y) → News g L' h₁ news → (∀ p ∈ news, p.1 < L') →
      wpAny (model prog w) (A.deeper (envOf qual scope L' f cdv)) (execs body (envOf qual scope L' f cdv))
        (fun fl s' => R (.ok (.ret (match fl with | .ret v => v | _ => .none))) s') (fun _ _ => False)
        { s with heap := h₁, toks := s.toks + binds.length })
    (hco : scope.isCoroutine = false) (hgen : scope.isGenerator = false) (hk : scope.kind = .function)
    (hcell : ∀ x ∈ scope.names, x.2 ≠ .cell) : codeAny (model prog w) A (.call (.ref f) args) R s := by
  refine codeAny_call_def (fd := fnOf name qual params body scope dV kV doc pm an cdv ct) (body := body) (binds := binds) hroom (st _ _ (X _ _ ho)) rfl (T.nolimit.keeps st) (codeRec_of (X.keeps st) hcd) rfl hbind hcell hloc (fun h₁ hns hk₁ => ?_) hco hgen hk
  exact wpAny_mono (h s.heap.objs.size h₁ ⟨hns, fun b o e => hk₁ b o (st b o e), hle⟩ (fun p hp => ⟨hk₁ _ _ (N p hp).1, Nat.ne_of_lt (Heap.lt_size (N p hp).1), (N p hp).2⟩) fun p hp => Heap.lt_size (N p hp).1) (fun _ _ x => x) fun _ _ x => x.elim
end

theorem News.tl {g h : Heap} {L : Addr} {q : Addr × Obj} {r : List (Addr × Obj)} (N : News g L h (q :: r)) : News g L h r := fun a ha => N a (.tail _ ha)
theorem News.sub {g h : Heap} {L : Addr} {r r' : List (Addr × Obj)} (N : News g L h r) (hs : ∀ a ∈ r', a ∈ r) : News g L h r' := fun a ha => N a (hs a ha)
theorem frn_iter {g h h' : Heap} {L I : Addr} {m : Str → Option Value} {oI o' : Obj} {r : List (Addr × Obj)} (F : Fr g L h m) (N : News g L h ((I, oI) :: r)) (hk : ∀ b o, b ≠ I → h.get? b = some o → h'.get? b = some o) (ho : h'.get? I = some o') (hr : ∀ q ∈ r, q.1 ≠ I) :
    Fr g L h' m ∧ News g L h' ((I, o') :: r) := by
  have hI := N _ (.head _)
  refine ⟨⟨F.ns.at' fun o e => hk L o (Ne.symm hI.2.1) e, fun b o e => hk b o (fun q => ?_) (F.keep b o e), F.above⟩, fun q hq => ?_⟩
  · subst q; rw [hI.2.2] at e; cases e
  · rcases List.mem_cons.mp hq with rfl | hq'
    · exact ⟨ho, hI.2⟩
    · have := N _ (.tail _ hq')
      exact ⟨hk _ _ (hr q hq') this.1, this.2⟩
theorem News.pick7 {g h : Heap} {L : Addr} {a b c i k x d : Addr × Obj} (N : News g L h [a, b, c, i, k, x, d]) : News g L h [i, a, x, d] := by
  intro q hq
  simp only [List.mem_cons, List.not_mem_nil, or_false] at hq
  rcases hq with rfl | rfl | rfl | rfl
  · exact N _ (by simp)
  · exact N _ (by simp)
  · exact N _ (by simp)
  · exact N _ (by simp)
/-- the text that a Whitespace is made of: blanks and a tab for each number -/
def wsL (es : List Nat) : List Nat := es.flatMap fun e => List.replicate e 32 ++ [9]
abbrev WsSt := Nat × Nat × Nat × List Nat
/-- one more at place b, noughts laid ahead where it lies beyond -/
def bump (cnt : List Nat) (b : Nat) : List Nat := (cnt ++ List.replicate (b + 1 - cnt.length) 0).modify b (· + 1)
def stp (q : WsSt) (c : Nat) : WsSt := if c = 32 then (q.1 + 1, q.2.1, q.2.2.1 + 1, q.2.2.2) else (q.1 + 1, q.2.1 + 1, 0, bump q.2.2.2 q.2.2.1)
def stOf (cs : List Nat) : WsSt := cs.foldl stp (0, 0, 0, [])
theorem stOf_snoc {l : List Nat} {i c : Nat} (h : l[i]? = some c) : stOf (l.take (i + 1)) = stp (stOf (l.take i)) c := by
  rw [List.take_add_one, h]
  simp [stOf, List.foldl_append]
theorem bump_length (cnt : List Nat) (b : Nat) : (bump cnt b).length = max cnt.length (b + 1) := by
  unfold bump
  rw [List.length_modify, List.length_append, List.length_replicate]
  omega
theorem stOf_le (cs : List Nat) : (stOf cs).2.2.2.length ≤ cs.length ∧ (stOf cs).2.2.1 ≤ cs.length := by
  have key : ∀ (cs : List Nat) (q : WsSt) (k : Nat), q.2.2.2.length ≤ k → q.2.2.1 ≤ k → (cs.foldl stp q).2.2.2.length ≤ k + cs.length ∧ (cs.foldl stp q).2.2.1 ≤ k + cs.length := by
    intro cs
    induction cs with
    | nil => intro q k h1 h2; exact ⟨h1, h2⟩
    | cons c r ih =>
      intro q k h1 h2
      have := ih (stp q c) (k + 1) (by unfold stp; split <;> simp only [bump_length] <;> omega) (by unfold stp; split <;> simp only <;> omega)
      simp only [List.foldl_cons, List.length_cons]
      omega
  have := key cs (0, 0, 0, []) 0 (Nat.le_refl _) (Nat.le_refl _)
  simpa [stOf] using this
theorem bump_set {cnt : List Nat} {b : Nat} (h : b < cnt.length) : ((cnt.map fun (q : Nat) => (q : Int)).set (b : Int).toNat ((cnt.map fun (q : Nat) => (q : Int)).getD (b : Int).toNat 0 + 1)) = (bump cnt b).map fun (q : Nat) => (q : Int) := by
  have e : b + 1 - cnt.length = 0 := by omega
  unfold bump
  rw [e, List.replicate_zero, List.append_nil, Int.toNat_natCast]
  refine List.ext_getElem (by simp) fun i h1 h2 => ?_
  simp only [List.getElem_set, List.getElem_map, List.getElem_modify, List.getD_eq_getElem?_getD]
  split
  · rename_i e; subst e; simp [h]
  · simp
theorem bump_app {cnt : List Nat} {b : Nat} (h : ¬ b < cnt.length) : bump cnt b = bump (cnt ++ List.replicate (b - cnt.length + 1) 0) b := by
  unfold bump
  have e : b + 1 - cnt.length = b - cnt.length + 1 := by omega
  have e2 : b + 1 - (cnt ++ List.replicate (b - cnt.length + 1) 0).length = 0 := by rw [List.length_append, List.length_replicate]; omega
  rw [e, e2, List.replicate_zero, List.append_nil]
theorem zeros_flat (cnt : List Nat) {b : Nat} (h : ¬ b < cnt.length) : (List.replicate ((b : Int) - ((cnt.map fun (q : Nat) => (q : Int)).length : Int) + 1).toNat [(0 : Int)]).flatten = (List.replicate (b - cnt.length + 1) 0).map fun (q : Nat) => (q : Int) := by
  have e : ((b : Int) - ((cnt.map fun (q : Nat) => (q : Int)).length : Int) + 1).toNat = b - cnt.length + 1 := by rw [List.length_map]; omega
  rw [e]
  generalize b - cnt.length + 1 = k
  induction k with
  | zero => rfl
  | succ k ih => rw [List.replicate_succ, List.flatten_cons, ih]; rfl
theorem bump_set2 {cnt : List Nat} {b : Nat} (h : ¬ b < cnt.length) :
    ((cnt.map fun (q : Nat) => (q : Int)) ++ (List.replicate ((b : Int) - ((cnt.map fun (q : Nat) => (q : Int)).length : Int) + 1).toNat [(0 : Int)]).flatten).set (b : Int).toNat (0 + 1) = (bump cnt b).map fun (q : Nat) => (q : Int) := by
  rw [zeros_flat cnt h, ← List.map_append, bump_app h, ← bump_set (by rw [List.length_append, List.length_replicate]; omega)]
  congr 2
  rw [Int.toNat_natCast, List.getD_eq_getElem?_getD, List.getElem?_map, List.getElem?_append_right (by omega), List.getElem?_replicate]
  split <;> rfl
def wsStr (es : List Nat) : Str := ⟨(wsL es).toArray⟩

/-- a Whitespace made at an address of N or beyond: its n, its counts and its rest -/
def WsAt (w : World) (N : Nat) (h : Heap) (v : Value) (q : WsSt) : Prop :=
  ∃ (x dx nm ct : Addr) (t1 t2 t3 t4 t5 t6 t7 t8 : Tok) (vr : Value) (cvs : List Value) (sb : Bool), (N ≤ x ∧ N ≤ dx ∧ N ≤ nm ∧ N ≤ ct) ∧ v = .ref x ∧ h.get? x = some (instObj 131 dx) ∧
    h.get? dx = some (dictOf [⟨PyData.keyHash w.params (Str.ofString "raw"), .str (Str.ofString "raw") t1, vr⟩, ⟨PyData.keyHash w.params (Str.ofString "n"), .str (Str.ofString "n") t2, .int q.1 t6⟩, ⟨PyData.keyHash w.params (Str.ofString "nt"), .str (Str.ofString "nt") t3, .int q.2.1 t7⟩,
      ⟨PyData.keyHash w.params (Str.ofString "norm"), .str (Str.ofString "norm") t4, .ref nm⟩, ⟨PyData.keyHash w.params (Str.ofString "is_simple"), .str (Str.ofString "is_simple") t5, .bool sb⟩] 5) ∧
    h.get? nm = some { cls := .type "tuple", data := .seq #[.ref ct, .int q.2.2.1 t8] } ∧ h.get? ct = some { cls := .type "tuple", data := .seq cvs.toArray } ∧ IntsAre cvs (q.2.2.2.map fun (q : Nat) => (q : Int))
theorem WsAt.keeps {w : World} {N : Nat} {h h' : Heap} {v : Value} {q : WsSt} (a : WsAt w N h v q) (hk : ∀ b o, N ≤ b → h.get? b = some o → h'.get? b = some o) : WsAt w N h' v q := by
  obtain ⟨x, dx, nm, ct, t1, t2, t3, t4, t5, t6, t7, t8, vr, cvs, sb, ⟨l1, l2, l3, l4⟩, hv, h1, h2, h3, h4, h5⟩ := a
  exact ⟨x, dx, nm, ct, t1, t2, t3, t4, t5, t6, t7, t8, vr, cvs, sb, ⟨l1, l2, l3, l4⟩, hv, hk _ _ l1 h1, hk _ _ l2 h2, hk _ _ l3 h3, hk _ _ l4 h4, h5⟩
theorem WsAt.low {w : World} {N N' : Nat} {h : Heap} {v : Value} {q : WsSt} (a : WsAt w N h v q) (hN : N' ≤ N) : WsAt w N' h v q := by
  obtain ⟨x, dx, nm, ct, t1, t2, t3, t4, t5, t6, t7, t8, vr, cvs, sb, ⟨l1, l2, l3, l4⟩, r⟩ := a
  exact ⟨x, dx, nm, ct, t1, t2, t3, t4, t5, t6, t7, t8, vr, cvs, sb, ⟨Nat.le_trans hN l1, Nat.le_trans hN l2, Nat.le_trans hN l3, Nat.le_trans hN l4⟩, r⟩

section
variable {prog : Program} {w : World} {A : Around} {s : Shared} {p : Program} {loose : List Str} {mean : ExcName → Option Value} {mg mb : Str → Option Value} {Q : Value → Shared → Prop} {E : Value → Shared → Prop}
local macro_rules | `(tactic| walk_at "call type:tuple") => `(tactic| (k_here; k_dflt (refine' kde_tupleOf ?k1 ?k2 ?k3 ?k4 ?k5 ?_; (case k1 => k_asm); (case k2 => k_asm); (case k3 => exact News.isList (by k_asm) (by k_mem)); (case k4 => (rw [List.size_toArray]; omega)); (case k5 => rfl)); intro D' h' F' N' l1; k_lt l1))
local macro_rules | `(tactic| walk_at "eval Name") => `(tactic| (refine ld (by assumption) (by assumption) ?_))
local macro_rules | `(tactic| walk_at "loadName") => `(tactic| (refine ldn (by assumption) (by assumption) ?_))
local macro_rules | `(tactic| walk_at "ite") => `(tactic| first | rw [if_pos (by assumption)] | rw [if_neg (by assumption)])
local macro_rules | `(tactic| walk_at "go") => `(tactic| repeat' (first | walk1 | (dsimp only; walk1)))
set_option maxHeartbeats 2000000 in
theorem ws_c (X : (hd.heap_39 w.params).In s.heap) (T : Top p loose mean mg mb s.heap) (hroom : A.depth + 2 < recursionLimit) (hh : A.handled = none) (ws : Str) (hws : ∀ c ∈ ws.cps.toList, c = 32 ∨ c = 9) (hwl : ws.cps.size ≤ 1000) (t : Tok)
    (hQ : ∀ v h' tk, s.heap.StaysIn h' → WsAt w s.heap.objs.size h' v (stOf ws.cps.toList) → Q v { s with heap := h', toks := tk }) :
    wpAny (model prog w) A (call (.ref 131) [.str ws t]) Q E s := by
  obtain ⟨hd0, dp, fr0, gs0, un0⟩ := A
  obtain rfl : hd0 = none := hh
  refine wpAny_call ?_
  refine' make_my (fI := 86) X ?_ ?_ ?_ ?_
  · k_is
  · k_is
  · k_is
  refine' my_defN (g := s.heap) (news := [(s.heap.objs.size + 1, instObj 131 s.heap.objs.size), (s.heap.objs.size, dictOf [] 0)]) (binds := [(Str.ofString "self", .ref (s.heap.objs.size + 1)), (Str.ofString "ws", .str ws t)]) X T (fun b o e => Heap.get?_push_of_some _ (Heap.get?_push_of_some _ e)) ?n1 ?n2 ?k6 ?k7 ?kr ?k9 ?kB ?mm ?c2 ?c3 ?c4 ?c5
  case n1 => rw [Heap.size_push, Heap.size_push]; omega
  case n2 =>
    have fr : ∀ a, s.heap.objs.size ≤ a → s.heap.get? a = none := fun a ha => by
      cases e : s.heap.get? a with
      | none => rfl
      | some o => exact absurd (Heap.lt_size e) (Nat.not_lt.mpr ha)
    intro q hq
    simp only [List.mem_cons, List.not_mem_nil, or_false] at hq
    rcases hq with rfl | rfl
    · refine ⟨?_, fr _ (Nat.le_succ _)⟩
      have := Heap.get?_push_size (s.heap.push emptyDict) (o := instObj 131 s.heap.objs.size) rfl
      rwa [Heap.size_push] at this
    · exact ⟨Heap.get?_push_of_some _ (Heap.get?_push_size _ rfl), fr _ (Nat.le_refl _)⟩
  case k6 => k_is
  case k7 => k_is
  case kr => simp only [depth_under_make] at hroom ⊢; omega
  case k9 => exact BindsTo.of_eq rfl
  case kB => exact locs rfl
  case c2 => exact rfl
  case c3 => exact rfl
  case c4 => exact rfl
  case c5 => decide
  case mm =>
  intro L h F N l1
  k_lt l1
  obtain ⟨l1, l2⟩ := l1
  have hxd : s.heap.objs.size < s.heap.objs.size + 1 := Nat.lt_succ_self _
  have hdx0 : s.heap.objs.size ≤ s.heap.objs.size := Nat.le_refl _
  generalize s.heap.objs.size + 1 = x at *
  generalize hdx : s.heap.objs.size = dx at N l1 l2 hxd hdx0 ⊢
  -- the three statements ahead of the loop
  refine seqW (fun s' => ∃ h tk t2, s' = { s with heap := h, toks := tk } ∧ Fr s.heap L h (fun y => [(Str.ofString "self", Value.ref x), (Str.ofString "ws", .str ws t)].reverse.lookup y) ∧ News s.heap L h [(x, instObj 131 dx), (dx, dictOf [⟨PyData.keyHash w.params (Str.ofString "raw"), .str (Str.ofString "raw") t2, .str ws t⟩] 1)]) ?_ ?_
  · walk_at "go"
    exact ⟨rfl, _, _, _, rfl, by assumption, by assumption⟩
  clear F N
  rintro _ ⟨h, tk, t2, rfl, F, N⟩
  refine seqW (fun s' => ∃ h tk m, s' = { s with heap := h, toks := tk } ∧ Fr s.heap L h m ∧ m (Str.ofString "self") = some (Value.ref x) ∧ isS m (Str.ofString "S") ⟨#[32]⟩ ∧ isS m (Str.ofString "T") ⟨#[9]⟩ ∧ News s.heap L h [(x, instObj 131 dx), (dx, dictOf [⟨PyData.keyHash w.params (Str.ofString "raw"), .str (Str.ofString "raw") t2, .str ws t⟩] 1)]) ?_ ?_
  · walk_at "go"
    exact ⟨rfl, _, _, _, rfl, by assumption, rfl, ⟨_, rfl⟩, ⟨_, rfl⟩, News.tl (by assumption)⟩
  clear F N
  rintro _ ⟨h, tk, m, rfl, F, hself, ⟨tS, hS⟩, ⟨tT, hT⟩, N⟩
  refine seqW (fun s' => ∃ h tk m cl e, s' = { s with heap := h, toks := tk } ∧ Fr s.heap L h m ∧ m (Str.ofString "self") = some (Value.ref x) ∧ isS m (Str.ofString "S") ⟨#[32]⟩ ∧ isS m (Str.ofString "T") ⟨#[9]⟩ ∧ m (Str.ofString "count") = some (.ref cl) ∧
    News s.heap L h [(cl, W.listOf #[] e), (x, instObj 131 dx), (dx, dictOf [⟨PyData.keyHash w.params (Str.ofString "raw"), .str (Str.ofString "raw") t2, .str ws t⟩] 1)] ∧ x < cl ∧ dx < cl) ?_ ?_
  · walk_at "go"
    refine ⟨rfl, _, _, _, _, _, rfl, by assumption, ?_, ?_, ?_, rfl, by assumption, by omega, by omega⟩
    · exact hself
    · exact .of hS rfl
    · exact .of hT rfl
  clear F N hself hS hT
  rintro _ ⟨h, tk, m, cl, e, rfl, F, hself, ⟨tS, hS⟩, ⟨tT, hT⟩, hcl, N, hc1, hc2⟩
  refine seqW (fun s' => ∃ h tk m, s' = { s with heap := h, toks := tk } ∧ Fr s.heap L h m ∧ m (Str.ofString "self") = some (Value.ref x) ∧ isS m (Str.ofString "S") ⟨#[32]⟩ ∧ isS m (Str.ofString "T") ⟨#[9]⟩ ∧ m (Str.ofString "count") = some (.ref cl) ∧
    isI m (Str.ofString "b") 0 ∧ isI m (Str.ofString "n") 0 ∧ isI m (Str.ofString "nt") 0 ∧
    News s.heap L h [(cl, W.listOf #[] e), (x, instObj 131 dx), (dx, dictOf [⟨PyData.keyHash w.params (Str.ofString "raw"), .str (Str.ofString "raw") t2, .str ws t⟩] 1)]) ?_ ?_
  · walk_at "go"
    refine ⟨rfl, _, _, _, rfl, by assumption, ?_, ?_, ?_, ?_, ?_, ?_, ?_, by assumption⟩
    · exact hself
    · exact .of hS rfl
    · exact .of hT rfl
    · exact hcl
    · exact .of rfl rfl
    · exact .of rfl rfl
    · exact .of rfl rfl
  clear F N hself hS hT hcl
  rintro _ ⟨h, tk, m, rfl, F, hself, ⟨tS, hS⟩, ⟨tT, hT⟩, hcl, hb, hn, hnt, N⟩
  refine seqW (fun s' => ∃ h tk m cl e cvs, s' = { s with heap := h, toks := tk } ∧ Fr s.heap L h m ∧ m (Str.ofString "self") = some (Value.ref x) ∧ m (Str.ofString "count") = some (.ref cl) ∧
    isI m (Str.ofString "b") (stOf ws.cps.toList).2.2.1 ∧ isI m (Str.ofString "n") (stOf ws.cps.toList).1 ∧ isI m (Str.ofString "nt") (stOf ws.cps.toList).2.1 ∧ IntsAre cvs ((stOf ws.cps.toList).2.2.2.map fun (q : Nat) => (q : Int)) ∧
    News s.heap L h [(cl, W.listOf cvs.toArray e), (x, instObj 131 dx), (dx, dictOf [⟨PyData.keyHash w.params (Str.ofString "raw"), .str (Str.ofString "raw") t2, .str ws t⟩] 1)] ∧ x < cl ∧ dx < cl) ?_ ?_
  · refine forW (J := fun I i s' => ∃ h tk m cl e cvs oI, s' = { s with heap := h, toks := tk } ∧ Fr s.heap L h m ∧ m (Str.ofString "self") = some (Value.ref x) ∧ isS m (Str.ofString "S") ⟨#[32]⟩ ∧ isS m (Str.ofString "T") ⟨#[9]⟩ ∧ m (Str.ofString "count") = some (.ref cl) ∧
      isI m (Str.ofString "b") (stOf (ws.cps.toList.take i)).2.2.1 ∧ isI m (Str.ofString "n") (stOf (ws.cps.toList.take i)).1 ∧ isI m (Str.ofString "nt") (stOf (ws.cps.toList.take i)).2.1 ∧ IntsAre cvs ((stOf (ws.cps.toList.take i)).2.2.2.map fun (q : Nat) => (q : Int)) ∧
      News s.heap L h [(I, oI), (cl, W.listOf cvs.toArray e), (x, instObj 131 dx), (dx, dictOf [⟨PyData.keyHash w.params (Str.ofString "raw"), .str (Str.ofString "raw") t2, .str ws t⟩] 1)] ∧ x < cl ∧ dx < cl ∧ x < I ∧ dx < I ∧ cl ≠ I) ?_
    walk_at "go"
    refine ⟨_, _, srcStr rfl, ?_, ?_, ?_, ?_⟩
    · intro o hof
      refine ⟨_, _, _, _, _, [], o, rfl, F.push o, hself, .of hS rfl, .of hT rfl, hcl, hb, hn, hnt, .nil, N.push F o hof, hc1, hc2, ?_, ?_, ?_⟩
      · exact Heap.lt_size (N.get (.tail _ (.head _)))
      · exact Heap.lt_size (N.get (.tail _ (.tail _ (.head _))))
      · exact Nat.ne_of_lt (Heap.lt_size (N.get (.head _)))
    · rintro I i _ h' tk' ⟨h₁, tk₁, m₁, cl₁, e₁, cvs, oI, rfl, F₁, q1, q2, q3, q4, q5, q6, q7, q8, N₁, c1, c2, c3, c4, c5⟩ hk ⟨o', ho'⟩ _
      obtain ⟨F₂, N₂⟩ := frn_iter F₁ N₁ hk ho' (by intro q hq; simp only [List.mem_cons, List.not_mem_nil, or_false] at hq; rcases hq with rfl | rfl | rfl <;> k_ne)
      exact ⟨_, _, _, _, _, _, _, rfl, F₂, q1, q2, q3, q4, q5, q6, q7, q8, N₂, c1, c2, c3, c4, c5⟩
    · rintro I oI i v _ rfl hi ⟨c, u, hcu, rfl⟩ ⟨h₁, tk₁, m₁, cl₁, e₁, cvs, oI', rfl, F₁, q1, ⟨t3, q2⟩, ⟨t4, q3⟩, q4, ⟨t5, q5⟩, ⟨t6, q6⟩, ⟨t7, q7⟩, q8, N₁, c1, c2, c3, c4, c5⟩ hoI
      obtain rfl : oI' = oI := Option.some.inj ((N₁.get (.head _)).symm.trans hoI)
      have hcu' : ws.cps.toList[i]? = some c := by simpa using hcu
      have hst := stOf_snoc hcu'
      have hq1 := stOf_le (ws.cps.toList.take i)
      have hq2 : (ws.cps.toList.take i).length ≤ 1000 := by rw [List.length_take, Array.length_toList]; omega
      generalize stOf (ws.cps.toList.take i) = q at *
      generalize { s with heap := h, toks := tk, gens := s.gens }.heap.objs.size = I at *
      rcases hws c (List.mem_of_getElem? hcu') with rfl | rfl
      · walk_at "go"
        refine ⟨rfl, ⟨_, _, _, _, _, _, _, rfl, by assumption, ?_, ?_, ?_, ?_, ?_, ?_, ?_, ?_, by assumption, c1, c2, c3, c4, c5⟩, News.get (by assumption) (.head _)⟩
        · exact q1
        · exact .of q2 rfl
        · exact .of q3 rfl
        · exact q4
        · exact .of rfl (by rw [hst]; rfl)
        · exact .of rfl (by rw [hst]; rfl)
        · exact .of q7 (by rw [hst]; rfl)
        · rw [hst]; exact q8
      · have c5' : @Ne Nat cl₁ I := c5
        have hlen := q8.length
        rw [List.length_map] at hlen
        have hln : (q.2.2.2.map fun (q : Nat) => (q : Int)).length ≤ 1000 := by rw [List.length_map]; omega
        have hln2 : (q.2.2.2.map fun (q : Nat) => (q : Int)).length = q.2.2.2.length := List.length_map ..
        by_cases hbl : q.2.2.1 < q.2.2.2.length
        · walk_at "go"
          refine ⟨rfl, ⟨_, _, _, _, _, _, _, rfl, by assumption, ?_, ?_, ?_, ?_, ?_, ?_, ?_, ?_, by assumption, c1, c2, c3, c4, c5⟩, News.get (by assumption) (.head _)⟩
          · exact q1
          · exact .of q2 rfl
          · exact .of q3 rfl
          · exact q4
          · exact .of rfl (by rw [hst]; rfl)
          · exact .of rfl (by rw [hst]; rfl)
          · exact .of rfl (by rw [hst]; rfl)
          · rw [hst]
            show IntsAre _ ((bump q.2.2.2 q.2.2.1).map fun (q : Nat) => (q : Int))
            rw [← bump_set hbl]
            exact ints_set q8 _
        · walk_at "go"
          rename IntsAre _ (_ ++ _) => hI
          have hlb : ((q.2.2.1 : Nat) : Int) < (((q.2.2.2.map fun (q : Nat) => (q : Int)) ++ (List.replicate ((q.2.2.1 : Int) - ((q.2.2.2.map fun (q : Nat) => (q : Int)).length : Int) + 1).toNat [(0 : Int)]).flatten).length : Int) := by
            rw [zeros_flat _ hbl, List.length_append, List.length_map, List.length_map, List.length_replicate]; omega
          k_dflt (refine' ksa_set ?k1 ?k2 ?k3 hI ?k5 hlb ?k7 ?_)
          case k1 => k_asm
          case k2 => k_asm
          case k3 => k_upd
          case k5 => omega
          case k7 => omega
          intro h' F' N' hi' hl' hs'
          walk_at "go"
          rename News _ _ _ _ => NN
          have NN' := News.pick7 NN
          refine ⟨rfl, ⟨_, _, _, _, _, _, _, rfl, by assumption, ?_, ?_, ?_, ?_, ?_, ?_, ?_, ?_, NN', by omega, by omega, c3, c4, by k_ne⟩, NN'.get (.head _)⟩
          · exact q1
          · exact .of q2 rfl
          · exact .of q3 rfl
          · rfl
          · exact .of rfl (by rw [hst]; rfl)
          · exact .of rfl (by rw [hst]; rfl)
          · exact .of rfl (by rw [hst]; rfl)
          · rw [hst]
            show IntsAre _ ((bump q.2.2.2 q.2.2.1).map fun (q : Nat) => (q : Int))
            rw [← bump_set2 hbl]
            exact ints_set hI _
    · rintro I _ h' tk' ⟨h₁, tk₁, m₁, cl₁, e₁, cvs, oI, rfl, F₁, q1, q2, q3, q4, q5, q6, q7, q8, N₁, c1, c2, c3, c4, c5⟩ hk
      rw [show ws.cps.toList.take ws.cps.size = ws.cps.toList from List.take_of_length_le (Nat.le_of_eq (Array.length_toList ..))] at q5 q6 q7 q8
      have hI := N₁ _ (.head _)
      refine ⟨rfl, h', tk', m₁, cl₁, e₁, cvs, rfl, ⟨F₁.ns.at' fun o e => hk L o (Ne.symm hI.2.1) e, fun b o e => hk b o (fun q => by subst q; rw [hI.2.2] at e; cases e) (F₁.keep b o e), F₁.above⟩, q1, q4, q5, q6, q7, q8, fun q hq => ?_, c1, c2⟩
      have hq' := N₁ _ (.tail _ hq)
      refine ⟨hk _ _ ?_ hq'.1, hq'.2⟩
      simp only [List.mem_cons, List.not_mem_nil, or_false] at hq
      rcases hq with rfl | rfl | rfl <;> k_ne
  clear F N hself hS hT hcl hb hn hnt hc1 hc2
  rintro _ ⟨h, tk, m, cl, e, cvs, rfl, F, hself, hcl, ⟨t5, hb⟩, ⟨t6, hn⟩, ⟨t7, hnt⟩, hcv, N, hc1, hc2⟩
  have hq1 := stOf_le ws.cps.toList
  rw [Array.length_toList] at hq1
  have hln2 : ((stOf ws.cps.toList).2.2.2.map fun (q : Nat) => (q : Int)).length = (stOf ws.cps.toList).2.2.2.length := List.length_map ..
  have hln : ((stOf ws.cps.toList).2.2.2.map fun (q : Nat) => (q : Int)).length ≤ 1000 := by rw [List.length_map]; omega
  have hlc := hcv.length
  walk_at "go"
  rename News _ _ _ _ => NN
  rename Fr _ _ _ _ => FF
  refine ⟨rfl, hQ _ _ _ FF.keep ?_⟩
  refine ⟨x, dx, _, _, _, _, _, _, _, _, _, _, _, _, _, ⟨by omega, by omega, ?_, ?_⟩, rfl, NN.get (.tail _ (.tail _ (.tail _ (.head _)))), NN.get (.tail _ (.tail _ (.tail _ (.tail _ (.head _))))), NN.get (.head _), NN.get (.tail _ (.head _)), by simpa using hcv⟩
  · omega
  · omega
end
end Mine
end
section
open PySem PySem.W PySem.Spec PySem.Calls PyProof.Rows
namespace Mine

/-- a row: dots and an a -/
def row (d : Nat) : Str := ⟨(List.replicate d 46 ++ [97]).toArray⟩
theorem row_blank : ∀ d, d < 8 → Txt.replace (row d) (Str.ofString ".") (Str.ofString " ") = pad d := by decide +kernel
theorem row_len (d : Nat) : (row d).length = d + 1 := by simp [row, Str.length]
def leadQ (ds : List Nat) (k : Nat) : WsSt := stOf (wsL (ds.map (· - k)))

theorem pads_sum (k : Nat) : ∀ (ds : List Nat), (∀ d ∈ ds, d < 8) → (((ds.map fun d => pad (d - k)).map (·.length)).sum ≤ ds.length * 8)
  | [], _ => Nat.le_refl _
  | d :: r, h => by
    have h1 := pads_sum k r fun x hx => h x (.tail _ hx)
    have h2 := h d (.head _)
    simp only [List.map_cons, List.sum_cons, pad_len, List.length_cons]
    omega
/-- one sign for another -/
def swap1 (c d : Nat) (l : List Nat) : List Nat := l.map fun y => if y = c then d else y
theorem swap1_free (c d : Nat) {l : List Nat} (h : c ∉ l) : swap1 c d l = l := by
  unfold swap1
  conv => rhs; rw [← List.map_id l]
  refine List.map_congr_left fun y hy => ?_
  rw [if_neg (fun (e : y = c) => h (e ▸ hy))]; rfl
theorem swap1_join (c d : Nat) : ∀ parts : List Str, (∀ q ∈ parts, c ∉ q.cps.toList) → swap1 c d (Str.join ⟨#[c]⟩ parts).cps.toList = (Str.join ⟨#[d]⟩ parts).cps.toList
  | [], _ => rfl
  | [x], h => swap1_free c d (h x (.head _))
  | x :: y :: r, h => by
    have ih := swap1_join c d (y :: r) fun q hq => h q (.tail _ hq)
    have hx := swap1_free c d (h x (.head _))
    rw [show Str.join ⟨#[c]⟩ (x :: y :: r) = x ++ ⟨#[c]⟩ ++ Str.join ⟨#[c]⟩ (y :: r) from rfl, show Str.join ⟨#[d]⟩ (x :: y :: r) = x ++ ⟨#[d]⟩ ++ Str.join ⟨#[d]⟩ (y :: r) from rfl]
    simp only [Str.cps_append, Array.toList_append]
    unfold swap1 at ih hx ⊢
    rw [List.map_append, List.map_append, ih, hx]
    simp
theorem rep1 (x : Str) (c d : Nat) : (Txt.replace x ⟨#[c]⟩ ⟨#[d]⟩).cps.toList = swap1 c d x.cps.toList := by
  rw [StrLaws.replace_one, ← swap1_join c d _ (StrLaws.split_free x c), StrLaws.join_split]
theorem join_nil_cps : ∀ parts : List Str, (Str.join Str.empty parts).cps.toList = parts.flatMap (·.cps.toList)
  | [] => rfl
  | [x] => by simp [Str.join]
  | x :: y :: r => by
    have ih := join_nil_cps (y :: r)
    rw [show Str.join Str.empty (x :: y :: r) = x ++ Str.empty ++ Str.join Str.empty (y :: r) from rfl, Str.cps_append, Str.cps_append, Array.toList_append, Array.toList_append, ih]
    simp [Str.empty]
/-- the lead's text -/
theorem lead_text (ds : List Nat) (k : Nat) : (Txt.replace (Txt.join (Str.ofString "") (ds.map fun d => pad (d - k))) (Str.ofString "a") (Str.ofString "\t")).cps.toList = wsL (ds.map (· - k)) := by
  rw [show Str.ofString "a" = ⟨#[97]⟩ by decide +kernel, show Str.ofString "\t" = ⟨#[9]⟩ by decide +kernel, rep1, show Str.ofString "" = Str.empty by decide +kernel]
  unfold Txt.join
  rw [StrLaws.glued_eq_join, join_nil_cps]
  unfold wsL swap1
  induction ds with
  | nil => rfl
  | cons d r ih =>
    rw [List.map_cons, List.flatMap_cons, List.map_append, ih, List.map_cons, List.flatMap_cons]
    congr 1
    simp [pad]
theorem strs_at : ∀ {vs : List Value} {ys : List Str}, StrsAre vs ys → ∀ {i : Nat} {v : Value}, vs[i]? = some v → ∃ y t, ys[i]? = some y ∧ v = .str y t
  | _, _, .nil, _, _, h => by simp at h
  | _, _, .cons y t r, 0, v, h => by simp at h; exact ⟨y, t, rfl, h.symm⟩
  | _, _, .cons y t r, i + 1, v, h => by
    simp at h
    obtain ⟨z, u, h1, h2⟩ := strs_at r h
    exact ⟨z, u, by simpa using h1, h2⟩
theorem strs_len : ∀ {vs : List Value} {ys : List Str}, StrsAre vs ys → vs.length = ys.length
  | _, _, .nil => rfl
  | _, _, .cons _ _ r => by simp [strs_len r]

section
variable {prog : Program} {w : World} {A : Around} {s : Shared} {p : Program} {loose : List Str} {mean : ExcName → Option Value} {mg mb : Str → Option Value} {Q : Value → Shared → Prop} {E : Value → Shared → Prop}
local macro_rules | `(tactic| walk_at "eval Name") => `(tactic| (refine' nmG ?k1 ?k2 ?k3 ?k4 ?k5 ?k6 ?_ ?k7 ?k8; (case k4 => with_unfolding_all exact rfl); (case k5 => with_unfolding_all exact rfl); (case k1 => with_unfolding_all assumption); (case k2 => assumption); (case k3 => assumption); (case k6 => k_is); (case k7 => with_unfolding_all exact rfl); (case k8 => decide)))
local macro_rules | `(tactic| walk_at "eval Name") => `(tactic| (refine' nmC ?k1 ?k2 ?k3 ?k4 ?_ ?k5 ?k6; (case k2 => with_unfolding_all exact rfl); (case k3 => with_unfolding_all exact rfl); (case k1 => with_unfolding_all assumption); (case k4 => with_unfolding_all assumption); (case k5 => with_unfolding_all exact rfl); (case k6 => decide)))
local macro_rules | `(tactic| walk_at "eval Name") => `(tactic| (refine' nmL ?k1 ?k2 ?_ ?k3 ?k4 ?k5; (case k4 => with_unfolding_all exact rfl); (case k1 => with_unfolding_all assumption); (case k2 => first | assumption | with_unfolding_all exact rfl); (case k3 => with_unfolding_all exact rfl); (case k5 => decide)))
local macro_rules | `(tactic| walk_at "call ref") => `(tactic| k_dflt (refine' strip_c ?x1 ?x2 ?x3 _ _ ?x4 _ _ ?_; (case x1 => exact Frag.In.keeps (by assumption) (Fr.keep (by assumption))); (case x2 => exact Top.keeps (by assumption) (Fr.keep (by assumption))); (case x3 => (simp only [depth_deeper]; omega)); (case x4 => assumption); intro h₂ tk₂ t₂ st₂))
local macro_rules | `(tactic| walk_at "call ref") => `(tactic| k_dflt (refine' ws_c ?x1 ?x2 ?x3 rfl _ ?x4 ?x5 _ ?_; (case x1 => exact Frag.In.keeps (by assumption) (Fr.keep (by assumption))); (case x2 => exact Top.keeps (by assumption) (Fr.keep (by assumption))); (case x3 => (simp only [depth_deeper]; omega)); (case x4 => assumption); (case x5 => assumption); intro v₂ h₂ tk₂ st₂ ww₂))
local macro_rules | `(tactic| walk_at "call builtin:str.replace") => `(tactic| (refine SC.replaceW (neN (by first | omega | (dsimp only; omega))) (neN (by first | omega | (dsimp only; omega))) (neN (by first | omega | (dsimp only; omega))) (by decide) (by first | (rw [row_len]; omega) | omega) (by decide) ?_; intro t' k'; (try rw [row_blank _ (by assumption)])))
local macro_rules | `(tactic| walk_at "go") => `(tactic| repeat' (first | walk1 | (dsimp only; walk1)))
set_option maxHeartbeats 2000000 in
theorem lead_c (X : (hd.heap_39 w.params).In s.heap) (T : Top p loose mean mg mb s.heap) (hroom : A.depth + 5 < recursionLimit) (hh : A.handled = none) {P : Addr} {vs : List Value} {ds : List Nat}
    (hP : s.heap.IsList P vs.toArray) (hvs : StrsAre vs (ds.map row)) (hd8 : ∀ d ∈ ds, d < 8) (hl8 : ds.length ≤ 8) (k : Nat) (t : Tok) (h0 : 0 < s.toks)
    (hQ : ∀ v h' tk, s.heap.StaysIn h' → WsAt w s.heap.objs.size h' v (leadQ ds k) → Q v { s with heap := h', toks := tk }) :
    wpAny (model prog w) A (call (.ref 150) [.ref P, .int k t]) Q E s := by
  obtain ⟨hd0, dp, fr0, gs0, un0⟩ := A
  obtain rfl : hd0 = none := hh
  dsimp only at hroom
  refine wpAny_call ?_
  refine' my_defC (binds := [(Str.ofString "page", .ref P), (Str.ofString "k", .int k t)]) X T ?k6 ?k7 ?kr ?k9 ?kB ?mm ?c2 ?c3 ?c4
  case k6 => k_is
  case k7 => k_is
  case kr => dsimp only; omega
  case k9 => exact BindsTo.of_eq rfl
  case kB => exact rfl
  case c2 => exact rfl
  case c3 => exact rfl
  case c4 => exact rfl
  case mm =>
  intro L h tk htk F hcs
  have hck : h.IsCell (L + 1) (some (.int k t)) := hcs (Str.ofString "k") (L + 1) rfl
  obtain ⟨m, F, hpg⟩ : ∃ m, Fr s.heap L h m ∧ m (Str.ofString "page") = some (.ref P) := ⟨_, F, rfl⟩
  have lenE : vs.length = ds.length := by rw [strs_len hvs, List.length_map]
  refine seqT (fun s' => ∃ h tk m D ys, s' = { s with heap := h, toks := tk } ∧ Fr s.heap L h m ∧ m (Str.ofString "lines") = some (.ref D) ∧ h.IsList D ys.toArray ∧ StrsAre ys (ds.map fun d => pad (d - k))) ?_ ?_
  · refine' compA (cl := [(Str.ofString "k", L + 1)]) (fun C i ys h => StrsAre ys ((ds.take i).map fun d => pad (d - k))) ?s1 ?s2 ?s3 ?s4 ?s5 ?s6 ?s7 ?s8 ?s9
    case s1 => with_unfolding_all rfl
    case s2 => with_unfolding_all rfl
    case s3 => decide
    case s4 => rfl
    case s5 => decide
    case s6 => rfl
    case s7 => rfl
    case s8 => rfl
    walk_at "go"
    refine ⟨vs.length, _, m, srcList rfl (hP.at fun o e => F.keep _ o e), by rw [lenE, sizeLine_eq]; omega, ⟨fun _ _ => .nil, ?_, fun _ _ _ _ _ a _ => a, ?_⟩, F.ns, ?_⟩
    · intro C i ys h a
      rw [strs_len a, List.length_map, List.length_take]
      omega
    · intro C i v ys s' m' hi hv hI F' hx hs'
      obtain ⟨y, ty, hy, rfl⟩ := strs_at hvs hv
      obtain ⟨h', tk', rfl, htk'⟩ := hs'
      dsimp only at htk'
      rw [List.getElem?_map] at hy
      obtain ⟨d, hd1, rfl⟩ := Option.map_eq_some_iff.mp hy
      have hdl : d < 8 := hd8 d (List.mem_of_getElem? hd1)
      refine wpAny_tests_nil ⟨Keeps.refl _, ?_⟩
      rw [if_pos rfl]
      have X' := X.keeps F.keep
      have T' := T.keeps F.keep
      have N' : News h C h' [] := News.nil
      walk_at "go"
      rename Heap.StaysIn _ _ => st₂
      refine ⟨⟨_, _, rfl, st₂⟩, ?_⟩
      show StrsAre _ (List.map _ (ds.take (i + 1)))
      rw [List.take_add_one, hd1]
      simpa using kct_snoc hI
    · intro D C h' tk' ys hD hDC hl hI hn hk
      refine ⟨rfl, h', tk', _, D, ys, rfl, ⟨hn, fun b o e => hk b o (Nat.ne_of_lt (Nat.lt_of_lt_of_le (Heap.lt_size e) F.above)) (F.keep b o e), F.above⟩, rfl, hl.isList, ?_⟩
      rwa [List.take_of_length_le (by omega)] at hI
  clear F hpg
  rintro _ ⟨h, tk, m, D, ys, rfl, F, hD, hl, hys⟩ htk2
  dsimp only at htk2
  have N : News s.heap L h [] := News.nil
  have hps := pads_sum k ds hd8
  walk_at "go"
  refine wpAny_with_toks (n := 1) (by dsimp only; omega) ?_
  refine join_list hl (by simpa using hys) (by rw [List.length_map, show (Str.ofString "").length = 0 by decide +kernel]; omega) ?_
  intro t₃ k₃ hk₃
  dsimp only at hk₃
  have hjl : (Txt.join (Str.ofString "") (ds.map fun d => pad (d - k))).length ≤ 100 := by
    rw [show Str.ofString "" = Str.empty by decide +kernel]
    unfold Txt.join
    rw [StrLaws.glued_eq_join, Str.length, ← Array.length_toList, join_nil_cps, List.length_flatMap]
    refine Nat.le_trans (Nat.le_of_eq ?_) (Nat.le_trans hps (by omega))
    rw [List.map_map, List.map_map]
    rfl
  have hwt := lead_text ds k
  have hws : ∀ c ∈ (Txt.replace (Txt.join (Str.ofString "") (ds.map fun d => pad (d - k))) (Str.ofString "a") (Str.ofString "\t")).cps.toList, c = 32 ∨ c = 9 := by
    rw [hwt]
    intro c hc
    simp only [wsL, List.mem_flatMap, List.mem_append, List.mem_replicate, List.mem_singleton] at hc
    obtain ⟨_, _, h | h⟩ := hc
    · exact .inl h.2
    · exact .inr h
  have hwl : (Txt.replace (Txt.join (Str.ofString "") (ds.map fun d => pad (d - k))) (Str.ofString "a") (Str.ofString "\t")).cps.size ≤ 1000 := by
    rw [show Str.ofString "a" = ⟨#[97]⟩ by decide +kernel, show Str.ofString "\t" = ⟨#[9]⟩ by decide +kernel, ← Array.length_toList, rep1]
    unfold swap1
    rw [List.length_map, Array.length_toList]
    exact Nat.le_trans hjl (by omega)
  walk_at "go"
  rename WsAt _ _ _ _ _ => ww
  rename Heap.StaysIn _ _ => st
  rw [hwt] at ww
  have hLh : L < h.objs.size := by obtain ⟨o, _, _, ho, _⟩ := F.ns; exact Heap.lt_size ho
  exact hQ _ _ _ (fun b o e => st b o (F.keep b o e)) (ww.low (Nat.le_trans F.above (Nat.le_of_lt hLh)))
end
end Mine
end
section
open PySem PySem.W PySem.Spec PySem.Calls PyProof.Rows
namespace Mine

theorem ints_reads {h : Heap} {vs : List Value} {ns : List Int} (a : IntsAre vs ns) : ReadsAll h vs (ns.map PyData.int) [] := a.carried.reads h
theorem eqv_norm (c1 c2 : List Nat) (b1 b2 : Nat) : PyData.eqv (.tuple [.tuple ((c1.map fun (q : Nat) => (q : Int)).map PyData.int), .int b1]) (.tuple [.tuple ((c2.map fun (q : Nat) => (q : Int)).map PyData.int), .int b2]) = decide (c1 = c2 ∧ b1 = b2) := by
  simp only [PyData.eqv, PyData.eqvAll, ked_eqvAll, Bool.and_true]
  have e : ((c1.map fun (q : Nat) => (q : Int)) = c2.map fun (q : Nat) => (q : Int)) ↔ c1 = c2 := by
    constructor
    · intro h
      have := congrArg (List.map Int.toNat) h
      rw [List.map_map, List.map_map] at this
      have hid : (Int.toNat ∘ fun (q : Nat) => (q : Int)) = id := by funext q; simp
      rwa [hid, List.map_id, List.map_id] at this
    · intro h; rw [h]
  have e2 : ((b1 : Int) = b2) ↔ b1 = b2 := Int.ofNat_inj
  by_cases h1 : c1 = c2 <;> by_cases h2 : b1 = b2 <;> simp [e, e2, h1, h2]
theorem lay_ints (ns : List Int) : PyData.canLayAll0 (ns.map PyData.int) = true := by
  induction ns with
  | nil => rfl
  | cons a r ih => simp [PyData.canLayAll0, PyData.canLay0, ih]
theorem depth_ints (ns : List Int) : PyData.depthAll (ns.map PyData.int) = 0 := by
  induction ns with
  | nil => rfl
  | cons a r ih => simp [PyData.depthAll, PyData.depth, ih]
theorem InstAt.keeps {h h' : Heap} {x C : Addr} {ox od : Obj} {dx : Addr} (a : InstAt h x ox C (some od)) (hd : ox.dict = some dx) (hk : h.StaysIn h') : InstAt h' x ox C (some od) := by
  obtain ⟨a1, a2, a3, a4⟩ := a
  refine ⟨hk _ _ a1, a2, a3, ?_⟩
  rw [hd] at a4 ⊢
  exact hk _ _ a4

section
variable {prog : Program} {w : World} {A : Around} {s : Shared} {p : Program} {loose : List Str} {mean : ExcName → Option Value} {mg mb : Str → Option Value} {Q : Value → Shared → Prop} {E : Value → Shared → Prop}
local macro_rules | `(tactic| walk_at "eval Name") => `(tactic| (refine nmL (by assumption) (by first | assumption | exact rfl) ?_))
local macro_rules | `(tactic| walk_at "getAttr ref") => `(tactic| (k_here; k_dflt (refine' get_own ?k1 ?k2 ?k3 ?k4 ?k5 ?k6 ?k7 ?k8 ?k9 ?_; (case k1 => assumption); (case k2 => assumption); (case k3 => exact InstAt.keeps (by assumption) rfl (Fr.keep (by assumption))); (case k4 => k_is); (case k5 => k_is); (case k6 => k_is); (case k7 => k_is); (case k8 => k_get); (case k9 => k_handed))))
local macro_rules | `(tactic| walk_at "go") => `(tactic| repeat' (first | walk1 | (dsimp only; walk1)))
set_option maxHeartbeats 2000000 in
theorem equal_c (X : (hd.heap_39 w.params).In s.heap) (T : Top p loose mean mg mb s.heap) (hroom : A.depth + 5 < recursionLimit) (hU : A.units + 50 < cLine) (hh : A.handled = none) {n1 n2 : Nat} {v1 v2 : Value} {q1 q2 : WsSt}
    (W1 : WsAt w n1 s.heap v1 q1) (W2 : WsAt w n2 s.heap v2 q2)
    (hQ : ∀ h' tk, s.heap.StaysIn h' → Q (.bool (decide (q1.2.2.2 = q2.2.2.2 ∧ q1.2.2.1 = q2.2.2.1))) { s with heap := h', toks := tk }) :
    wpAny (model prog w) A (call (.ref 107) [v1, v2]) Q E s := by
  obtain ⟨hd0, dp, fr0, gs0, un0⟩ := A
  obtain rfl : hd0 = none := hh
  dsimp only at hroom hU
  obtain ⟨x, dx, nm, ct, t1, t2, t3, t4, t5, t6, t7, t8, vr, cvs, sb, _, rfl, h1, h2, h3, h4, h5⟩ := W1
  obtain ⟨y, dy, nm', ct', u1, u2, u3, u4, u5, u6, u7, u8, vr', cvs', sb', _, rfl, g1, g2, g3, g4, g5⟩ := W2
  have I1 : InstAt s.heap x (instObj 131 dx) 131 (some _) := ⟨h1, rfl, rfl, h2⟩
  have I2 : InstAt s.heap y (instObj 131 dy) 131 (some _) := ⟨g1, rfl, rfl, g2⟩
  refine wpAny_call ?_
  refine' my_def (binds := [(Str.ofString "self", .ref x), (Str.ofString "other", .ref y)]) X T ?k6 ?k7 ?kr ?k9 ?kB ?mm ?c2 ?c3 ?c4 ?c5
  case k6 => k_is
  case k7 => k_is
  case kr => dsimp only; omega
  case k9 => exact BindsTo.of_eq rfl
  case kB => exact locs rfl
  case c2 => exact rfl
  case c3 => exact rfl
  case c4 => exact rfl
  case c5 => decide
  case mm =>
  intro L h F
  have N : News s.heap L h [] := News.nil
  walk1
  walk1
  walk1
  walk1
  walk1
  walk1
  walk1
  walk1
  walk1
  refine SeqAt.compareEq_reads (da := .tuple [.tuple ((q1.2.2.2.map fun (q : Nat) => (q : Int)).map PyData.int), .int q1.2.2.1]) (db := .tuple [.tuple ((q2.2.2.2.map fun (q : Nat) => (q : Int)).map PyData.int), .int q2.2.2.1])
    (reads_tuple_at (F.keep _ _ h3) rfl rfl (.cons (reads_tuple_at (F.keep _ _ h4) rfl rfl (by simpa using ints_reads h5)) (.cons (.int _ _) .nil)))
    (reads_tuple_at (F.keep _ _ g3) rfl rfl (.cons (reads_tuple_at (F.keep _ _ g4) rfl rfl (by simpa using ints_reads g5)) (.cons (.int _ _) .nil)))
    (by simp only [PyData.canLay0, PyData.canLayAll0, lay_ints, Bool.and_self]) (by simp only [PyData.canLay0, PyData.canLayAll0, lay_ints, Bool.and_self]) ?_ ?_
  · simp only [PyData.depth, PyData.depthAll, depth_ints, Around.deeper_units]
    omega
  rw [eqv_norm]
  exact hQ h _ F.keep
end
end Mine
end
section
open PySem PySem.W PySem.Spec PySem.Calls PyProof.Rows
set_option maxHeartbeats 4000000
namespace Mine
section
variable {prog : Program} {w : World} {A : Around} {E : Value → Shared → Prop} {s : Shared} {a kS : Addr} {vs : List Value} {ss : List Str} {e e1 : Nat} {P : PySem.Fin → Shared → Prop}

/-- what a sort leaves: everything but the list and the keys' own list -/
theorem kst_tail {st : SortSt} (hk : s.heap.get? kS = some (seqObj "list" vs.toArray e)) (ha : s.heap.get? a = some (seqObj "list" #[] e1)) (hka : kS ≠ a) (h64 : vs.length < 64)
    (hp : (arrOf st).Perm (pairsOf vs)) (hfl : failedOf st = none)
    (h : ∀ h' c, h'.get? a = some (seqObj "list" ((arrOf st).map (·.2)) c) → (∀ b o, b ≠ a → b ≠ kS → s.heap.get? b = some o → h'.get? b = some o) → P (.done (.ret .none)) { s with heap := h' }) :
    wpAny (model prog w) A (ksk_tail a false e1 (.ref kS) st) P E s := by
  have hsz2 : ((arrOf st).map (·.2)).size = vs.length := by rw [Array.size_map, hp.size_eq, pairsOf_size]
  have s1 := Heap.SameBut.update s.heap kS (Obj.mapSeq fun _ => (#[] : Array Value))
  have na1 : (s.heap.update kS (Obj.mapSeq fun _ => (#[] : Array Value))).get? a = some (seqObj "list" #[] e1) := (s1.2 a hka.symm).trans ha
  have s2 := Heap.SameBut.update (s.heap.update kS (Obj.mapSeq fun _ => (#[] : Array Value))) a (Obj.mapSeq fun _ => (arrOf st).map (·.2))
  obtain ⟨c2, hc2⟩ : ∃ c2, ((s.heap.update kS (Obj.mapSeq fun _ => (#[] : Array Value))).update a (Obj.mapSeq fun _ => (arrOf st).map (·.2))).get? a = some (seqObj "list" ((arrOf st).map (·.2)) c2) :=
    ⟨_, get?_update_seq na1 fun _ => (arrOf st).map (·.2)⟩
  unfold ksk_tail
  try dsimp only
  refine wpAny_bind (listUpdate_at hk rfl ?_ (by rw [List.size_toArray, sizeLine_eq]; omega) (Nat.zero_le _))
  refine wpAny_bind (wpAny_letGo ?_)
  refine wpAny_bind (seqEpoch_at na1 rfl ?_)
  simp only [Bool.false_eq_true, if_false]
  refine wpAny_bind (listUpdate_at na1 rfl ?_ (Nat.zero_le _) (Nat.le_trans (Nat.le_of_eq hsz2) (by rw [sizeLine_eq]; omega)))
  rw [hfl]
  simp only [bne_self_eq_false, Bool.false_eq_true, if_false]
  exact wpAny_pure (h _ c2 hc2 fun b o hba hbk q => (s2.2 b hba).trans ((s1.2 b hbk).trans q))

theorem kst_end (hS : StrsAre vs ss) (hk : s.heap.get? kS = some (seqObj "list" vs.toArray e)) (ha : s.heap.get? a = some (seqObj "list" #[] e1)) (hka : kS ≠ a) (h64 : vs.length < 64)
    (h : ∀ h' (out : Array Value) ss' c, StrsAre out.toList ss' → ss'.Perm ss → sortedS ss' = true → h'.get? a = some (seqObj "list" out c) → (∀ b o, b ≠ a → b ≠ kS → s.heap.get? b = some o → h'.get? b = some o) → P (.done (.ret .none)) { s with heap := h' }) :
    wpAny (model prog w) A (ksk_end a false vs.toArray e1 (.ref kS) vs.toArray) P E s := by
  unfold ksk_end
  try dsimp only
  simp only [Bool.false_eq_true, if_false]
  by_cases h2 : vs.toArray.size < 2
  · rw [if_pos h2, if_pos h2]
    refine wpAny_bind (wpAny_pure ?_)
    rw [StateT.run_pure]
    refine wpAny_bind (wpAny_pure ?_)
    try dsimp only
    have hs : SortedToK strKind (vs.toArray.zip vs.toArray) (pairsOf vs).size := by
      intro i j hij hj
      have : i = j := by rw [pairsOf_size] at hj; rw [List.size_toArray] at h2; omega
      subst this; exact KeyOrd.kle_refl _
    obtain ⟨ss', o1, o2, o3⟩ := sorted_out_str hS (xs := vs.toArray.zip vs.toArray) (Array.Perm.refl _) hs
    exact kst_tail (st := SortSt.mk' general' (vs.toArray.zip vs.toArray) #[] 7 none) hk ha hka h64 (Array.Perm.refl _) rfl fun h' c x y => h h' _ ss' c o1 o2 o3 x y
  · rw [if_neg h2, if_neg h2]
    obtain ⟨v₁, v₂, rest, rfl⟩ : ∃ v₁ v₂ rest, vs = v₁ :: v₂ :: rest := by
      match vs, h2 with
      | [], h2 => simp at h2
      | [_], h2 => simp at h2
      | v₁ :: v₂ :: rest, _ => exact ⟨v₁, v₂, rest, rfl⟩
    rw [keyKind_strs hS]
    refine wpAny_bind (wpAny_pure ?_)
    refine wpAny_bind (wpAny_mono (wpS_sortRunsK (κ := strKind) strKind_oneLt (a₀ := pairsOf (v₁ :: v₂ :: rest)) (st := SortSt.mk' oneType' ((v₁ :: v₂ :: rest).toArray.zip (v₁ :: v₂ :: rest).toArray) #[] 7 none)
      (Q := fun _ st' => (arrOf st').Perm (pairsOf (v₁ :: v₂ :: rest)) ∧ failedOf st' = none ∧ SortedToK strKind (arrOf st') (pairsOf (v₁ :: v₂ :: rest)).size)
      hS.keysOf ⟨Array.Perm.refl _, rfl, rfl, rfl⟩ (by rw [pairsOf_size]; simp) (by rw [pairsOf_size]; exact h64) fun st' a1 a2 a3 => ⟨a1, a2, a3⟩) ?_ fun _ _ e => e)
    rintro ⟨⟨⟩, st'⟩ s' ⟨rfl, hp, hf, hs⟩
    try dsimp only
    obtain ⟨ss', o1, o2, o3⟩ := sorted_out_str hS hp hs
    exact kst_tail hk ha hka h64 hp hf fun h' c x y => h h' _ ss' c o1 o2 o3 x y

theorem kst_rest {f : Value} (hS : StrsAre vs ss) (hk : s.heap.get? kS = some (seqObj "list" #[] 0)) (ha : s.heap.get? a = some (seqObj "list" #[] e1)) (hka : kS ≠ a) (h64 : vs.length < 64)
    (turn : ∀ v ∈ vs, ∀ h tk, (∀ b o, b ≠ kS → s.heap.get? b = some o → h.get? b = some o) → wpAny (model prog w) A (call f [v]) (fun r s'' => r = v ∧ Keeps { s with heap := h, toks := tk } s'') (fun _ _ => False) { s with heap := h, toks := tk })
    (h : ∀ h' tk (out : Array Value) ss' c, StrsAre out.toList ss' → ss'.Perm ss → sortedS ss' = true → h'.get? a = some (seqObj "list" out c) → (∀ b o, b ≠ a → b ≠ kS → s.heap.get? b = some o → h'.get? b = some o) → P (.done (.ret .none)) { s with heap := h', toks := tk }) :
    wpAny (model prog w) A (ksk_rest a f false vs.toArray e1 (.ref kS)) P E s := by
  unfold ksk_rest
  refine wpAny_bind (wpAny_rule ?_)
  first
    | rw [List.forIn_toArray]
    | (rw [← Array.forIn_toList]; simp only [List.toList_toArray])
    | rw [← Array.forIn_toList]
  refine wpAny_bind (ksk_fold (fun i s' => ∃ h' tk e, s' = { s with heap := h', toks := tk } ∧ h'.get? kS = some (seqObj "list" (vs.take i).toArray e) ∧ (∀ b o, b ≠ kS → s.heap.get? b = some o → h'.get? b = some o)) vs 0 s
    ⟨s.heap, s.toks, 0, rfl, by simpa using hk, fun _ _ _ q => q⟩ ?step ?done)
  case step =>
    rintro j x s' hx ⟨h', tk, e, rfl, hk', kp⟩
    simp only [Nat.zero_add] at hk' ⊢
    have hj : j < vs.length := (List.getElem?_eq_some_iff.mp hx).1
    refine wpAny_bind (wpAny_attempt (wpAny_mono (turn x (List.mem_of_getElem? hx) h' tk kp) (fun v s'' he => ?_) fun _ _ hF => hF.elim))
    obtain ⟨rfl, g, tk2, rfl, kp2⟩ := he
    try dsimp only
    have nk := kp2 _ _ hk'
    have s1 := Heap.SameBut.update g kS (Obj.mapSeq (·.push v))
    obtain ⟨c2, hc2⟩ : ∃ c2, (g.update kS (Obj.mapSeq (·.push v))).get? kS = some (seqObj "list" ((vs.take j).toArray.push v) c2) := ⟨_, get?_update_seq nk (·.push v)⟩
    have ek : (vs.take j).toArray.push v = (vs.take (j + 1)).toArray := by rw [List.take_add_one, hx]; simp
    refine wpAny_bind (listUpdate_at nk rfl ?_ (by rw [List.size_toArray, List.length_take, sizeLine_eq]; omega) (Nat.le_trans (Nat.le_of_eq (Array.size_push ..)) (by rw [List.size_toArray, List.length_take, sizeLine_eq]; omega)))
    exact wpAny_pure ⟨rfl, _, _, c2, rfl, by rw [← ek]; exact hc2, fun b o hb q => (s1.2 b hb).trans (kp2 b o (kp b o hb q))⟩
  case done =>
    rintro s' ⟨h', tk, e, rfl, hk', kp⟩
    rw [show vs.take (0 + vs.length) = vs from List.take_of_length_le (by omega)] at hk'
    try dsimp only
    refine wpAny_bind (listItems_at hk' rfl ?_)
    exact kst_end hS hk' (kp a _ hka.symm ha) hka h64 fun h3 out ss' c o1 o2 o3 o4 o5 => h h3 tk out ss' c o1 o2 o3 o4 fun b o hba hbk q => o5 b o hba hbk (kp b o hbk q)

theorem kst_sort {f : Value} {n : Nat} (hS : StrsAre vs ss) (ho : s.heap.get? a = some (seqObj "list" vs.toArray n)) (h64 : vs.length < 64)
    (turn : ∀ v ∈ vs, ∀ h tk, (∀ b o, b ≠ a → s.heap.get? b = some o → h.get? b = some o) → wpAny (model prog w) A (call f [v]) (fun r s'' => r = v ∧ Keeps { s with heap := h, toks := tk } s'') (fun _ _ => False) { s with heap := h, toks := tk })
    (h : ∀ h' tk (out : Array Value) ss' c, StrsAre out.toList ss' → ss'.Perm ss → sortedS ss' = true → h'.get? a = some (seqObj "list" out c) → (∀ b o, b ≠ a → s.heap.get? b = some o → h'.get? b = some o) → P (.done (.ret .none)) { s with heap := h', toks := tk }) :
    wpAny (model prog w) A (ksk_tree a f false) P E s := by
  have ha : a < s.heap.objs.size := Heap.lt_size ho
  have s1 := Heap.SameBut.update s.heap a (Obj.mapSeq fun _ => (#[] : Array Value))
  obtain ⟨e1, ho1⟩ : ∃ e1, (s.heap.update a (Obj.mapSeq fun _ => (#[] : Array Value))).get? a = some (seqObj "list" #[] e1) := ⟨_, get?_update_seq ho fun _ => #[]⟩
  have hkS : ((s.heap.update a (Obj.mapSeq fun _ => (#[] : Array Value))).push (seqObj "tuple" vs.toArray 0)).objs.size = s.heap.objs.size + 1 := by rw [size_push', Heap.size_update]
  unfold ksk_tree
  refine wpAny_bind (listItems_at ho rfl ?_)
  refine wpAny_bind (listUpdate_at ho rfl ?_ (by rw [List.size_toArray, sizeLine_eq]; omega) (Nat.zero_le _))
  refine wpAny_bind (seqEpoch_at ho1 rfl ?_)
  refine wpAny_bind (wpAny_newTuple ?_ (by show vs.length ≤ _; rw [sizeLine_eq]; omega))
  refine wpAny_bind (wpAny_newList ?_ (Nat.zero_le _))
  refine wpAny_holding ?_
  have old : ∀ b o, b ≠ a → s.heap.get? b = some o → (((s.heap.update a (Obj.mapSeq fun _ => (#[] : Array Value))).push (seqObj "tuple" vs.toArray 0)).push (seqObj "list" #[] 0)).get? b = some o := fun b o hb q =>
    Heap.get?_push_of_some _ (Heap.get?_push_of_some _ ((s1.2 b hb).trans q))
  have ne : ∀ b o, s.heap.get? b = some o → b ≠ ((s.heap.update a (Obj.mapSeq fun _ => (#[] : Array Value))).push (seqObj "tuple" vs.toArray 0)).objs.size := fun b o q => by rw [hkS]; exact Nat.ne_of_lt (Nat.lt_succ_of_lt (Heap.lt_size q))
  refine kst_rest (s := { s with heap := ((s.heap.update a (Obj.mapSeq fun _ => (#[] : Array Value))).push (seqObj "tuple" vs.toArray 0)).push (seqObj "list" #[] 0) }) (kS := ((s.heap.update a (Obj.mapSeq fun _ => (#[] : Array Value))).push (seqObj "tuple" vs.toArray 0)).objs.size)
    hS (Heap.get?_push_size _ rfl) (Heap.get?_push_of_some _ (Heap.get?_push_of_some _ ho1)) (by rw [hkS]; exact Nat.ne_of_gt (Nat.lt_succ_of_lt ha)) h64 (fun v hv h2 tk2 kp => ?_) fun h' tk out ss' c o1 o2 o3 o4 o5 => ?_
  · exact turn v hv h2 tk2 fun b o hb q => kp b o (ne b o q) (old b o hb q)
  · exact h h' tk out ss' c o1 o2 o3 o4 fun b o hb q => o5 b o hb (ne b o q) (old b o hb q)
end

section
variable {prog : Program} {w : World} {A : Around} {E : Value → Shared → Prop} {s : Shared} {l : Addr} {vs : List Value} {ss : List Str} {Q : Value → Shared → Prop}
theorem kst_sorted {q : Addr} (hl : s.heap.IsList l vs.toArray) (hS : StrsAre vs ss) (h64 : vs.length < 64)
    (turn : ∀ v ∈ vs, ∀ h tk, s.heap.StaysIn h → wpAny (model prog w) A.in1.in1 (call (.ref q) [v]) (fun r s'' => r = v ∧ Keeps { s with heap := h, toks := tk } s'') (fun _ _ => False) { s with heap := h, toks := tk })
    (h : ∀ D h' tk (out : List Value) ss', StrsAre out ss' → ss'.Perm ss → sortedS ss' = true → s.heap.objs.size ≤ D → h'.PlainList D out.toArray → s.heap.StaysIn h' → Q (.ref D) { s with heap := h', toks := tk }) :
    wpAny (model prog w) A (call (.builtin "sorted") [.ref l] [(Str.ofString "key", .ref q)]) Q E s := by
  refine call_function_entry_kw kind_sorted plain_sorted entry_sorted (ksk_s1 _ _) ?_
  unfold Builtin.«sorted»
  refine wpAny_bind (m := checkCount "sorted" 1 1 _) (wpAny_pure ?_)
  refine wpAny_bind (collect_list hl ?_ (by rw [sizeLine_eq]; omega))
  refine wpAny_bind (wpAny_newList ?_ (by rw [sizeLine_eq]; omega))
  have hsz : ((s.heap.push (seqObj "list" #[] 0)).update s.heap.objs.size (Obj.mapSeq (· ++ vs.toArray))).objs.size = s.heap.objs.size + 1 := by
    rw [Heap.size_update, size_push']
  have hoL : (((s.heap.push (seqObj "list" #[] 0)).update s.heap.objs.size (Obj.mapSeq (· ++ vs.toArray))).push (seqObj "list" vs.toArray 0)).get? (s.heap.objs.size + 1) = some (seqObj "list" vs.toArray 0) := by
    rw [← hsz]; exact Heap.get?_push_size _ rfl
  have keep : s.heap.StaysIn (((s.heap.push (seqObj "list" #[] 0)).update s.heap.objs.size (Obj.mapSeq (· ++ vs.toArray))).push (seqObj "list" vs.toArray 0)) := fun b o q => by
    have hlt : b < s.heap.objs.size := Heap.lt_size q
    rw [Heap.get?_push_ne _ _ _ (by rw [hsz]; exact Nat.ne_of_lt (Nat.lt_succ_of_lt hlt)), Heap.get?_update_ne _ _ _ _ (Nat.ne_of_lt hlt), Heap.get?_push_ne _ _ _ (Nat.ne_of_lt hlt)]
    exact q
  show wpAny _ _ _ _ _ { s with heap := ((s.heap.push (seqObj "list" #[] 0)).update s.heap.objs.size (Obj.mapSeq (· ++ vs.toArray))).push (seqObj "list" vs.toArray 0) }
  rw [hsz]
  refine wpAny_bind (wpAny_holding (wpAny_call_entry_kw slot_list_sort ⟨_, hoL, rfl⟩ entry_list_sort ?body (ksk_l1 _ _)))
  case body =>
    show wpAny (model prog w) A.in1.in1 (Builtin.«list.sort» ⟨[.ref (s.heap.objs.size + 1)], [(Str.ofString "key", .ref q)]⟩) _ _ _
    rw [ksk_t1]
    refine kst_sort (s := { s with heap := ((s.heap.push (seqObj "list" #[] 0)).update s.heap.objs.size (Obj.mapSeq (· ++ vs.toArray))).push (seqObj "list" vs.toArray 0) }) hS hoL h64 (fun v hv h2 tk2 kp => ?_) fun h' tk out ss' c o1 o2 o3 o4 o5 => ⟨_, rfl, ?_⟩
    · exact turn v hv h2 tk2 fun b o e => kp b o (Nat.ne_of_lt (Nat.lt_succ_of_lt (Heap.lt_size e))) (keep b o e)
    · exact wpAny_pure ⟨_, rfl, h _ h' tk out.toList ss' o1 o2 o3 (Nat.le_succ _) ⟨c, by simpa using o4⟩ fun b o e => o5 b o (Nat.ne_of_lt (Nat.lt_succ_of_lt (Heap.lt_size e))) (keep b o e)⟩
end
end Mine
end
section
open PySem PySem.W PySem.Spec PySem.Calls PyProof.Rows
namespace Mine
def insD (a : Nat) : List Nat → List Nat
  | [] => [a]
  | b :: r => if b ≤ a then a :: b :: r else b :: insD a r
def sortD : List Nat → List Nat
  | [] => []
  | a :: r => insD a (sortD r)
/-- the first road: the ties are taken row by row -/
def tiedP : Nat → List Nat → Bool
  | 0, _ => true
  | n + 1, ds => match sortD ds with
    | [] => true
    | d :: rest => if d - 1 > rest.length ∨ 0 ∈ (rest.take (d - 1)).map (· - 1) then false else tiedP n ((rest.take (d - 1)).map (· - 1) ++ rest.drop (d - 1))
theorem insD_perm (a : Nat) : ∀ l, (insD a l).Perm (a :: l)
  | [] => .refl _
  | b :: r => by
    unfold insD
    split
    · exact .refl _
    · exact ((insD_perm a r).cons b).trans (.swap ..)
theorem sortD_perm : ∀ l, (sortD l).Perm l
  | [] => .refl _
  | a :: r => (insD_perm a _).trans ((sortD_perm r).cons a)
theorem insD_sorted (a : Nat) : ∀ l : List Nat, l.Pairwise (· ≥ ·) → (insD a l).Pairwise (· ≥ ·)
  | [], _ => by simp [insD]
  | b :: r, h => by
    have h1 := List.pairwise_cons.mp h
    unfold insD
    split
    · rename_i hb
      refine List.pairwise_cons.mpr ⟨fun x hx => ?_, h⟩
      rcases List.mem_cons.mp hx with rfl | hx
      · exact hb
      · exact Nat.le_trans (h1.1 x hx) hb
    · rename_i hb
      refine List.pairwise_cons.mpr ⟨fun x hx => ?_, insD_sorted a r h1.2⟩
      rcases List.mem_cons.mp ((insD_perm a r).mem_iff.mp hx) with rfl | hx
      · exact Nat.le_of_lt (Nat.lt_of_not_le hb)
      · exact h1.1 x hx
theorem sortD_sorted : ∀ l, (sortD l).Pairwise (· ≥ ·)
  | [] => .nil
  | a :: r => insD_sorted a _ (sortD_sorted r)
theorem sortD_eq {l l' : List Nat} (hp : l'.Perm l) (hs : l'.Pairwise (· ≥ ·)) : l' = sortD l :=
  List.Perm.eq_of_pairwise (le := (· ≥ ·)) (fun _ _ _ _ h1 h2 => Nat.le_antisymm h2 h1) hs (sortD_sorted l) (hp.trans (sortD_perm l).symm)
theorem row_lt : ∀ x < 8, ∀ p < 8, (!ltCps (row x).cps.toList (row p).cps.toList) = decide (x ≤ p) := by decide +kernel
theorem rising_rows : ∀ (r : List Nat) (p : Nat), p < 8 → (∀ d ∈ r, d < 8) → risingS (row p) (r.map row) = true → (p :: r).Pairwise (· ≥ ·)
  | [], _, _, _, _ => by simp
  | x :: r, p, hp, hr, h => by
    have hx := hr x (.head _)
    rw [List.map_cons, risingS, row_lt x hx p hp, Bool.and_eq_true, decide_eq_true_eq] at h
    have ih := rising_rows r x hx (fun d hd => hr d (.tail _ hd)) h.2
    refine List.pairwise_cons.mpr ⟨fun y hy => ?_, ih⟩
    rcases List.mem_cons.mp hy with rfl | hy
    · exact h.1
    · exact Nat.le_trans ((List.pairwise_cons.mp ih).1 y hy) h.1
theorem sorted_rows {ds : List Nat} {ss : List Str} (hd : ∀ d ∈ ds, d < 8) (hp : ss.Perm (ds.map row)) (hs : sortedS ss = true) : ss = (sortD ds).map row := by
  obtain ⟨ds', rfl⟩ : ∃ ds', ss = List.map row ds' := by
    refine ⟨ss.map fun x => x.length - 1, ?_⟩
    rw [List.map_map]
    conv => lhs; rw [← List.map_id ss]
    refine List.map_congr_left fun x hx => ?_
    obtain ⟨d, _, rfl⟩ := List.mem_map.mp (hp.mem_iff.mp hx)
    simp [row_len]
  have hp' : ds'.Perm ds := by
    have := hp.map (fun x : Str => x.length - 1)
    rwa [List.map_map, List.map_map, show (fun x : Str => x.length - 1) ∘ row = id by funext d; simp [row_len], List.map_id, List.map_id] at this
  have hd' : ∀ d ∈ ds', d < 8 := fun d h => hd d (hp'.mem_iff.mp h)
  congr 1
  refine sortD_eq hp' ?_
  cases ds' with
  | nil => exact .nil
  | cons p r => exact rising_rows r p (hd' p (.head _)) (fun d h => hd' d (.tail _ h)) hs
theorem row_fewer : ∀ d, d < 8 → Txt.replace (pad (d - 1)) (Str.ofString " ") (Str.ofString ".") = row (d - 1) := by decide +kernel
theorem row_ok : ∀ d, d < 8 → PyData.strOk (row d) = true := by decide +kernel
theorem row_is_a (d : Nat) : (row d == Str.ofString "a") = (d == 0) := by
  rw [show Str.ofString "a" = row 0 by decide +kernel, Bool.eq_iff_iff]
  simp only [beq_iff_eq]
  constructor
  · intro h
    have := congrArg Str.length h
    rw [row_len, row_len] at this
    omega
  · rintro rfl; rfl
theorem any_row_a (l : List Nat) : ((l.map row).any (· == Str.ofString "a")) = decide (0 ∈ l) := by
  induction l with
  | nil => rfl
  | cons d r ih =>
    rw [List.map_cons, List.any_cons, ih, row_is_a]
    cases d with
    | zero => simp
    | succ d => simp
theorem tiedP_cons {n : Nat} {ds : List Nat} {d : Nat} {rest : List Nat} (h : sortD ds = d :: rest) :
    tiedP (n + 1) ds = if d - 1 > rest.length ∨ 0 ∈ (rest.take (d - 1)).map (· - 1) then false else tiedP n ((rest.take (d - 1)).map (· - 1) ++ rest.drop (d - 1)) := by
  rw [tiedP, h]
end Mine
end
section
open PySem PySem.W PySem.Spec PySem.Calls PyProof.Rows
namespace Mine
theorem strs_reads {h : Heap} : ∀ {vs : List Value} {ss : List Str}, StrsAre vs ss → ReadsAll h vs (ss.map PyData.str) []
  | _, _, .nil => .nil
  | _, _, .cons y t r => .cons (.str y t) (strs_reads r)
theorem lay_strs : ∀ (ss : List Str), (∀ x ∈ ss, PyData.strOk x = true) → PyData.canLayAll0 (ss.map PyData.str) = true
  | [], _ => rfl
  | a :: r, h => by
    have ih := lay_strs r fun x hx => h x (.tail _ hx)
    have ha := h a (.head _)
    simp [PyData.canLayAll0, PyData.canLay0, ih, ha]
theorem depth_strs (ss : List Str) : PyData.depthAll (ss.map PyData.str) = 0 := by
  induction ss with
  | nil => rfl
  | cons a r ih => simp [PyData.depthAll, PyData.depth, ih]
theorem ne_strs_nil {prog : Program} {w : World} {A : Around} {E : Value → Shared → Prop} {s : Shared} {a b : Addr} {vs : List Value} {ss : List Str} {Q : Value → Shared → Prop} (ha : s.heap.IsList a vs.toArray) (hb : s.heap.IsList b #[]) (hi : StrsAre vs ss) (ho : ∀ x ∈ ss, PyData.strOk x = true) (hu : A.units + 50 < cLine) (h : Q (.bool (!ss.isEmpty)) s) :
    wpAny (model prog w) A (compareOp .NotEq (.ref a) (.ref b)) Q E s := by
  obtain ⟨o, ho, hc, n, hd⟩ := ha
  obtain ⟨o', ho', hc', n', hd'⟩ := hb
  refine SeqAt.compareNe_reads (da := .list (ss.map PyData.str)) (db := .list []) (.list ho hc hd (strs_reads hi)) (.list ho' hc' hd' .nil) (by simp only [PyData.canLay0, lay_strs ss (by assumption)]) (by simp only [PyData.canLay0, PyData.canLayAll0]) ?_ ?_
  · simp only [PyData.depth, PyData.depthAll, depth_strs]
    omega
  · cases ss with
    | nil => exact h
    | cons x r => exact h
def BX (b0 : Bool) (P : Shared → Prop) (b : Bool) (s : Shared) : Prop := b = b0 ∧ P s
def IfX (R : Value → Shared → Prop) (P : Shared → Prop) (f : Flow) (s : Shared) : Prop := match f with
  | .ret v => R v s
  | .next => P s
  | _ => False
theorem seqI {M : Model} {A : Around} {E : Value → Shared → Prop} {s : Shared} {stmt : Stmt} {rest : List Stmt} {env : Env} {Q : Flow → Shared → Prop} (R : Value → Shared → Prop) (P : Shared → Prop)
    (h1 : wpAny M A (exec stmt env) (IfX R P) E s) (hr : ∀ v s', R v s' → Q (.ret v) s') (h2 : ∀ s', P s' → s.toks ≤ s'.toks → wpAny M A (execs rest env) Q E s') : wpAny M A (execs (stmt :: rest) env) Q E s := by
  refine wpAny_execs_cons (wpAny_mono (wpAny_toks_of (n := s.toks) (Nat.le_refl _) h1) (fun f s' h => ?_) fun _ _ e => e.2)
  obtain ⟨ht, h⟩ := h
  cases f with
  | next => exact h2 s' h ht
  | ret v => exact hr v s' h
  | brk => exact h.elim
  | cont => exact h.elim
/-- a list that stands: an old one, or one of the ledger -/
def LV (g : Heap) (L : Addr) (h : Heap) (a : Addr) (vs : List Value) : Prop := g.IsList a vs.toArray ∨ ∃ e, News g L h [(a, W.listOf vs.toArray e)]
theorem News.hd {g h : Heap} {L : Addr} {q : Addr × Obj} {r : List (Addr × Obj)} (N : News g L h (q :: r)) : News g L h [q] := fun a ha => by
  simp only [List.mem_singleton] at ha
  subst ha
  exact N _ (.head _)
theorem row_lenI (d : Nat) : ((row d).length : Int) = d + 1 := by rw [row_len]; rfl
theorem pick_tl (v : Value) (r : List Value) : kms_pick (v :: r) (some 1) none = r := by
  simp [kms_pick, kms_lo, kms_hi]
theorem pick_up (r : List Value) (k : Nat) : kms_pick r none (some (k : Int)) = r.take k := by
  have : ¬ ((k : Int) < 0) := by omega
  simp [kms_pick, kms_lo, kms_hi, this]
theorem pick_from (r : List Value) (k : Nat) : kms_pick r (some (k : Int)) none = r.drop k := by
  have : ¬ ((k : Int) < 0) := by omega
  simp only [kms_pick, kms_lo, kms_hi, this, if_false, Int.toNat_natCast]
  by_cases h : k ≤ r.length
  · rw [Nat.min_eq_left h, List.take_of_length_le (by simp)]
  · rw [Nat.min_eq_right (by omega), Nat.sub_self, List.take_zero, List.drop_of_length_le (by omega)]
theorem newsOf {g h : Heap} {L : Addr} {m : Str → Option Value} (_ : Fr g L h m) : News g L h [] := News.nil
theorem X_st {K : Frag} {g h h' : Heap} {L : Addr} {m : Str → Option Value} (X : K.In g) (F : Fr g L h m) (st : h.StaysIn h') : K.In h' := X.keeps fun b o e => st b o (F.keep b o e)
theorem T_st {p : Program} {loose : List Str} {mean : ExcName → Option Value} {mg mb : Str → Option Value} {g h h' : Heap} {L : Addr} {m : Str → Option Value} (T : Top p loose mean mg mb g) (F : Fr g L h m) (st : h.StaysIn h') : Top p loose mean mg mb h' := T.keeps fun b o e => st b o (F.keep b o e)
theorem newsList {g h h' : Heap} {L D : Addr} {m : Str → Option Value} {news : List (Addr × Obj)} {xs : Array Value} (F : Fr g L h m) (N : News g L h news) (st : h.StaysIn h') (hD : h.objs.size ≤ D) (hp : h'.PlainList D xs) :
    Fr g L h' m ∧ ∃ e, News g L h' ((D, W.listOf xs e) :: news) := by
  have F' := F.grownK st
  obtain ⟨n, hn⟩ := hp
  have hLs : L < h.objs.size := by obtain ⟨o, _, _, ho, _⟩ := F.ns; exact Heap.lt_size ho
  refine ⟨F', n, fun q hq => ?_⟩
  rcases List.mem_cons.mp hq with rfl | hq
  · refine ⟨hn, Nat.ne_of_gt (Nat.lt_of_lt_of_le hLs hD), ?_⟩
    cases e : g.get? D with
    | none => rfl
    | some o => exact absurd (Heap.lt_size (F.keep _ _ e)) (Nat.not_lt.mpr hD)
  · exact ⟨st _ _ (N q hq).1, (N q hq).2⟩
theorem len_l {prog : Program} {w : World} {A : Around} {E : Value → Shared → Prop} {s : Shared} {l : Addr} {vs : List Value} {Q : Value → Shared → Prop} (hl : s.heap.IsList l vs.toArray) (hfit : vs.length < 1000)
    (h : Q (.int vs.length (s.toks + 1)) { s with toks := s.toks + 1 + 1 }) : wpAny (model prog w) A (call (.builtin "len") [.ref l]) Q E s :=
  len_list hl (by rw [List.size_toArray]; omega) (by rw [List.size_toArray]; exact h)
theorem newsListA {g h h' : Heap} {L D : Addr} {m m' : Str → Option Value} {news : List (Addr × Obj)} {xs : Array Value} (F : Fr g L h m) (N : News g L h news) (hk : ∀ b o, b ≠ L → h.get? b = some o → h'.get? b = some o) (hD : h.objs.size ≤ D) (hp : h'.PlainList D xs) (hn : h'.Ns L m') :
    Fr g L h' m' ∧ ∃ e, News g L h' ((D, W.listOf xs e) :: news) := by
  obtain ⟨n, hpn⟩ := hp
  have hLs : L < h.objs.size := by obtain ⟨o, _, _, ho, _⟩ := F.ns; exact Heap.lt_size ho
  refine ⟨⟨hn, fun b o e => hk b o (Nat.ne_of_lt (Nat.lt_of_lt_of_le (Heap.lt_size e) F.above)) (F.keep b o e), F.above⟩, n, fun q hq => ?_⟩
  rcases List.mem_cons.mp hq with rfl | hq
  · refine ⟨hpn, Nat.ne_of_gt (Nat.lt_of_lt_of_le hLs hD), ?_⟩
    cases e : g.get? D with
    | none => rfl
    | some o => exact absurd (Heap.lt_size (F.keep _ _ e)) (Nat.not_lt.mpr hD)
  · exact ⟨hk _ _ (N q hq).2.1 (N q hq).1, (N q hq).2⟩

section
variable {prog : Program} {w : World} {A : Around} {s : Shared} {p : Program} {loose : List Str} {mean : ExcName → Option Value} {mg mb : Str → Option Value} {Q : Value → Shared → Prop} {E : Value → Shared → Prop}
local macro_rules | `(tactic| walk_at "eval Name") => `(tactic| (refine' nmB ?k1 ?k2 ?k3 ?k4 ?k5 ?k6 ?k7 ?k8 ?k9 ?_ ?ka ?kb; (case k4 => with_unfolding_all exact rfl); (case k5 => with_unfolding_all exact rfl); (case k6 => with_unfolding_all exact rfl); (case k1 => with_unfolding_all assumption); (case k2 => assumption); (case k3 => assumption); (case k7 => k_is); (case k8 => exact rfl); (case k9 => decide); (case ka => with_unfolding_all exact rfl); (case kb => decide)))
local macro_rules | `(tactic| walk_at "eval Name") => `(tactic| (refine' nmG ?k1 ?k2 ?k3 ?k4 ?k5 ?k6 ?_ ?k7 ?k8; (case k4 => with_unfolding_all exact rfl); (case k5 => with_unfolding_all exact rfl); (case k1 => with_unfolding_all assumption); (case k2 => assumption); (case k3 => assumption); (case k6 => k_is); (case k7 => with_unfolding_all exact rfl); (case k8 => decide)))
local macro_rules | `(tactic| walk_at "eval Name") => `(tactic| (refine' nmL ?k1 ?k2 ?_ ?k3 ?k4 ?k5; (case k4 => with_unfolding_all exact rfl); (case k1 => with_unfolding_all assumption); (case k2 => first | assumption | with_unfolding_all exact rfl); (case k3 => with_unfolding_all exact rfl); (case k5 => decide)))
local macro_rules | `(tactic| walk_at "go") => `(tactic| repeat' (first | walk1 | (dsimp only; walk1)))
set_option maxHeartbeats 2000000 in
theorem xfrm_c (X : (hd.heap_39 w.params).In s.heap) (T : Top p loose mean mg mb s.heap) (hroom : A.depth < recursionLimit) (v : Value)
    (hQ : ∀ h' tk, s.heap.StaysIn h' → Q v { s with heap := h', toks := tk }) :
    wpAny (model prog w) A (call (.ref 45) [v]) Q E s := by
  refine wpAny_call ?_
  refine' my_def (binds := [(Str.ofString "s", v)]) X T ?k6 ?k7 ?kr ?k9 ?kB ?mm ?c2 ?c3 ?c4 ?c5
  case k6 => k_is
  case k7 => k_is
  case kr => exact hroom
  case k9 => exact BindsTo.of_eq rfl
  case kB => exact locs rfl
  case c2 => exact rfl
  case c3 => exact rfl
  case c4 => exact rfl
  case c5 => decide
  case mm =>
  intro L h F
  have hs : (fun y => [(Str.ofString "s", v)].reverse.lookup y) (Str.ofString "s") = some v := rfl
  have N : News s.heap L h [] := News.nil
  walk_at "go"
  exact hQ _ _ F.keep

local macro_rules | `(tactic| walk_at "compareOp NotEq ref ref") => `(tactic| k_dflt (refine' ne_strs_nil ?k1 ?k2 ?k3 ?k5 ?k4 ?_; (case k1 => first | exact News.isList (by assumption) (by k_mem) | exact Heap.IsList.at (by assumption) (Fr.keep (by assumption) _)); (case k2 => exact News.isList (by assumption) (by k_mem)); (case k3 => assumption); (case k5 => assumption); (case k4 => (simp only [Around.deeper_units]; omega))))
local macro_rules | `(tactic| walk_at "call builtin:sorted") => `(tactic| (with_unfolding_all refine' kst_sorted (q := 45) ?k1 ?k2 ?k3 ?k4 ?_; (case k1 => first | exact News.isList (by assumption) (by k_mem) | exact Heap.IsList.at (by assumption) (Fr.keep (by assumption) _)); (case k2 => assumption); (case k3 => assumption); (case k4 => (intro v _ h tk st; refine xfrm_c (X_st (by assumption) (by assumption) st) (T_st (by assumption) (by assumption) st) ?_ v fun h' tk' st' => ⟨rfl, h', tk', rfl, st'⟩; simp only [depth_deeper, depth_in1]; omega)); intro D h' tk' out ss' o1 o2 o3 hD hpl st; obtain ⟨F', e', N'⟩ := newsList (by assumption) (by assumption) st hD hpl; (have hss := sorted_rows (by assumption) o2 o3); subst hss))
local macro_rules | `(tactic| walk_at "call builtin:len") => `(tactic| (refine P.len_str (by rw [row_lenI]; omega) ?_))
local macro_rules | `(tactic| walk_at "call builtin:len") => `(tactic| (refine len_l (News.isList (by assumption) (by k_mem)) (by omega) ?_))
local macro_rules | `(tactic| walk_at "binaryOp Add ref ref") => `(tactic| (refine' kmk_add_lit (by assumption) (by assumption) (News.isList (by assumption) (by k_mem)) (News.isList (by assumption) (by k_mem)) rfl ?_ ?s; (case s => (simp only [List.size_toArray, List.length_drop, sizeLine_eq]; omega)); intro D' h' F' N' l1))
local macro_rules | `(tactic| walk_at "compareOp In") => `(tactic| (refine in_list_strs (News.isList (by assumption) (by k_mem)) (by assumption) ?_; (try rw [any_row_a])))
local macro_rules | `(tactic| walk_at "subscriptTail Name Slice ref ref") => `(tactic| (refine' kms_slice_lit ?F ?N ?l ?p ?q ?e ?_ ?s ?t ?z; (case F => assumption); (case N => assumption); (case l => exact News.isList (by assumption) (by k_mem)); (case p => first | exact IsPart.none | exact IsPart.int _ _); (case q => first | exact IsPart.none | exact IsPart.int _ _); (case e => first | exact pick_tl _ _ | exact pick_up _ _ | exact pick_from _ _); (case s => with_unfolding_all rfl); (case t => (intro _; with_unfolding_all rfl)); (case z => (simp only [List.size_toArray, List.length_cons, sizeLine_eq]; omega)); intro D' h' F' N' l1))
local macro_rules | `(tactic| walk_at "call ref") => `(tactic| k_dflt (refine wpAny_with_toks (n := 1) (by first | omega | (dsimp only; omega)) ?_; refine' strip_c (k := 1) ?x1 ?x2 ?x3 _ ?x4 _ _ ?_; (case x1 => exact Frag.In.keeps (by assumption) (Fr.keep (by assumption))); (case x2 => exact Top.keeps (by assumption) (Fr.keep (by assumption))); (case x3 => (simp only [depth_deeper]; omega)); (case x4 => assumption); intro h₂ tk₂ t₂ st₂ htk₂; (try dsimp only at htk₂)))
local macro_rules | `(tactic| walk_at "call builtin:str.replace") => `(tactic| (refine wpAny_with_toks (n := 1) (by first | omega | (dsimp only; omega)) ?_; refine SC.replaceW (neN (by first | omega | (dsimp only; omega))) (neN (by first | omega | (dsimp only; omega))) (neN (by first | omega | (dsimp only; omega))) (by decide) (by first | (rw [row_len]; omega) | (rw [pad_len]; omega) | omega) (by decide) ?_; intro t' k' hk'; (try dsimp only at hk'); first | rw [row_blank _ (by assumption)] | rw [row_fewer _ (by assumption)]))
set_option maxHeartbeats 2000000 in
theorem tied_c (X : (hd.heap_39 w.params).In s.heap) (T : Top p loose mean mg mb s.heap) (hroom : A.depth + 5 < recursionLimit) (hU : A.units + 60 < cLine) (hh : A.handled = none) {P : Addr} {vs : List Value} {ds : List Nat}
    (hP : s.heap.IsList P vs.toArray) (hvs : StrsAre vs (ds.map row)) (hd8 : ∀ d ∈ ds, 1 ≤ d ∧ d < 8) (hl8 : ds.length ≤ 8) (h0 : 0 < s.toks)
    (hQ : ∀ h' tk, s.heap.StaysIn h' → Q (.bool (tiedP ds.length ds)) { s with heap := h', toks := tk }) :
    wpAny (model prog w) A (call (.ref 140) [.ref P]) Q E s := by
  obtain ⟨hd0, dp, fr0, gs0, un0⟩ := A
  obtain rfl : hd0 = none := hh
  dsimp only at hroom hU
  refine wpAny_call ?_
  refine' my_def (binds := [(Str.ofString "rows", .ref P)]) X T ?k6 ?k7 ?kr ?k9 ?kB ?mm ?c2 ?c3 ?c4 ?c5
  case k6 => k_is
  case k7 => k_is
  case kr => dsimp only; omega
  case k9 => exact BindsTo.of_eq rfl
  case kB => exact locs rfl
  case c2 => exact rfl
  case c3 => exact rfl
  case c4 => exact rfl
  case c5 => decide
  case mm =>
  intro L h F
  refine seqI (fun v s' => ∃ h tk, s' = { s with heap := h, toks := tk } ∧ s.heap.StaysIn h ∧ v = .bool (tiedP ds.length ds)) (fun s' => ∃ h tk m, s' = { s with heap := h, toks := tk } ∧ Fr s.heap L h m ∧ tiedP ds.length ds = true) ?_ ?_ ?_
  · refine whileW (J := fun n s' => ∃ (h : Heap) (tk : Nat) (m : Str → Option Value) (a : Addr) (vs' : List Value) (ds' : List Nat), s' = { s with heap := h, toks := tk } ∧ Fr s.heap L h m ∧ 0 < tk ∧ m (Str.ofString "rows") = some (.ref a) ∧ LV s.heap L h a vs' ∧
      StrsAre vs' (ds'.map row) ∧ (∀ d ∈ ds', 1 ≤ d ∧ d < 8) ∧ ds'.length = n ∧ n ≤ 8 ∧ tiedP n ds' = tiedP ds.length ds) (fun v s' => ∃ h tk, s' = { s with heap := h, toks := tk } ∧ s.heap.StaysIn h ∧ v = .bool (tiedP ds.length ds)) (n₀ := ds.length)
      ⟨_, _, _, P, vs, ds, rfl, F, by omega, rfl, .inl hP, hvs, hd8, rfl, hl8, rfl⟩ ?_ ?_
    · clear F
      rintro n _ ⟨h, tk, m, a, vs', ds', rfl, F, htk, hm, hl, hst, hd8, hn, hn8, hT⟩
      have hok : ∀ x ∈ ds'.map row, PyData.strOk x = true := by
        intro x hx
        obtain ⟨d, hd, rfl⟩ := List.mem_map.mp hx
        exact row_ok d (hd8 d hd).2
      have hlen : vs'.length = ds'.length := by rw [strs_len hst, List.length_map]
      have h64 : vs'.length < 64 := by omega
      have hd88 : ∀ d ∈ ds', d < 8 := fun d hd => (hd8 d hd).2
      refine wpAny_mono (Q := BX (!(ds'.map row).isEmpty) fun s₂ => ∃ h tk, s₂ = { s with heap := h, toks := tk } ∧ 0 < tk ∧ Fr s.heap L h m ∧ LV s.heap L h a vs') ?_ ?_ (fun _ _ e => e)
      · obtain hl | ⟨e, hl⟩ := hl
        · have N : News s.heap L h [] := News.nil
          walk_at "go"
          exact ⟨rfl, _, _, rfl, htk, by assumption, .inl hl⟩
        · walk_at "go"
          exact ⟨rfl, _, _, rfl, htk, by assumption, .inr ⟨_, News.tl (by assumption)⟩⟩
      · clear F hl h tk htk
        rintro _ _ ⟨rfl, h, tk, rfl, htk, F, hl⟩
        obtain rfl | ⟨n, rfl⟩ : n = 0 ∨ ∃ k, n = k + 1 := by cases n <;> simp
        · obtain rfl : ds' = [] := List.length_eq_zero_iff.mp hn
          rw [if_neg (by simp)]
          exact ⟨_, _, _, rfl, F, hT.symm⟩
        rw [if_pos (by cases ds' <;> simp at hn ⊢)]
        refine seqT (fun s' => ∃ (h : Heap) (tk : Nat) (m : Str → Option Value) (a : Addr) (e : Nat) (vs' : List Value), s' = { s with heap := h, toks := tk } ∧ Fr s.heap L h m ∧ m (Str.ofString "rows") = some (.ref a) ∧ News s.heap L h [(a, W.listOf vs'.toArray e)] ∧ StrsAre vs' ((sortD ds').map row)) ?_ ?_
        · obtain hl | ⟨e, hl⟩ := hl
          · have N : News s.heap L h [] := News.nil
            walk_at "go"
            exact ⟨rfl, _, _, _, _, _, _, rfl, by assumption, rfl, by assumption, by assumption⟩
          · walk_at "go"
            exact ⟨rfl, _, _, _, _, _, _, rfl, by assumption, rfl, News.hd (by assumption), by assumption⟩
        · clear F hl hm hlen h64 hst
          rintro _ ⟨h, tk', m, a, e, vs', rfl, F, hm, N, hst⟩ htk2
          dsimp only at htk2
          have htk : 0 < tk' := by omega
          clear htk2
          obtain ⟨d, rest, hsd⟩ : ∃ d rest, sortD ds' = d :: rest := by
            cases e : sortD ds' with
            | nil => have := (sortD_perm ds').length_eq; rw [e, hn] at this; simp at this
            | cons d r => exact ⟨d, r, rfl⟩
          have hmem : ∀ x ∈ d :: rest, 1 ≤ x ∧ x < 8 := fun x hx => hd8 x ((sortD_perm ds').mem_iff.mp (hsd ▸ hx))
          have hd1 := hmem d (.head _)
          have hrl : rest.length = n := by have := (sortD_perm ds').length_eq; rw [hsd, hn] at this; simpa using this
          rw [hsd, List.map_cons] at hst
          obtain ⟨t0, vr, rfl, hvr⟩ : ∃ t0 vr, vs' = .str (row d) t0 :: vr ∧ StrsAre vr (rest.map row) := by
            cases hst with
            | cons y t r => exact ⟨t, _, rfl, r⟩
          clear hst
          have hvl : vr.length = n := by have := strs_len hvr; rw [List.length_map, hrl] at this; exact this
          refine seqT (fun s' => ∃ (h : Heap) (tk : Nat) (m : Str → Option Value) (a : Addr) (e : Nat), s' = { s with heap := h, toks := tk } ∧ Fr s.heap L h m ∧ m (Str.ofString "rest") = some (.ref a) ∧ isI m (Str.ofString "wish") (d - 1 : Nat) ∧ News s.heap L h [(a, W.listOf vr.toArray e)]) ?_ ?_
          · walk_at "go"
            exact ⟨rfl, _, _, _, _, _, rfl, by assumption, rfl, .of rfl (by rw [row_lenI]; omega), News.hd (News.tl (by assumption))⟩
          clear F hm N
          rintro _ ⟨h, tk, m, a, e, rfl, F, hm, ⟨tw, hw⟩, N⟩ htk2
          dsimp only at htk2
          have htk : 0 < tk := by omega
          refine seqT (fun s' => ∃ (h : Heap) (tk : Nat) (m : Str → Option Value) (a D : Addr) (e e' : Nat) (ys : List Value), s' = { s with heap := h, toks := tk } ∧ Fr s.heap L h m ∧ m (Str.ofString "rest") = some (.ref a) ∧ isI m (Str.ofString "wish") (d - 1 : Nat) ∧ m (Str.ofString "fewer") = some (.ref D) ∧ News s.heap L h [(D, W.listOf ys.toArray e'), (a, W.listOf vr.toArray e)] ∧ StrsAre ys (((rest.take (d - 1)).map (· - 1)).map row)) ?_ ?_
          · refine' compA (cl := []) (fun C i ys h => StrsAre ys (((rest.take (d - 1)).take i).map fun x => row (x - 1))) ?s1 ?s2 ?s3 ?s4 ?s5 ?s6 ?s7 ?s8 ?s9
            case s1 => with_unfolding_all rfl
            case s2 => with_unfolding_all rfl
            case s3 => decide
            case s4 => rfl
            case s5 => decide
            case s6 => rfl
            case s7 => rfl
            case s8 => rfl
            walk_at "go"
            rename Fr _ _ _ (_ : Str → Option Value) => F1
            rename News _ _ _ (_ :: _) => N1
            have hl1 := N1.isList (.head _)
            rw [show vr.toArray.toList = vr from rfl] at hl1
            have hit : StrsAre (vr.take (d - 1)) ((rest.take (d - 1)).map row) := by rw [List.map_take]; exact hvr.take' _
            have hitl : (rest.take (d - 1)).length ≤ 7 := by rw [List.length_take]; omega
            have hvtl : (vr.take (d - 1)).length = (rest.take (d - 1)).length := by rw [strs_len hit, List.length_map]
            refine ⟨(vr.take (d - 1)).length, _, m, srcList rfl hl1, by rw [sizeLine_eq]; omega, ⟨fun _ _ => .nil, ?_, fun _ _ _ _ _ a _ => a, ?_⟩, F1.ns, ?_⟩
            · intro C i ys h a
              rw [strs_len a, List.length_map, List.length_take]
              omega
            · intro C i v ys s' m' hi hv hI F' hx hs'
              obtain ⟨y, ty, hy, rfl⟩ := strs_at hit hv
              obtain ⟨h', tk', rfl, htk'⟩ := hs'
              dsimp only at htk' F'
              rw [List.getElem?_map] at hy
              obtain ⟨d2, hd2, rfl⟩ := Option.map_eq_some_iff.mp hy
              have hd8' : d2 < 8 := (hmem d2 (.tail _ (List.mem_of_mem_take (List.mem_of_getElem? hd2)))).2
              refine wpAny_tests_nil ⟨Keeps.refl _, ?_⟩
              rw [if_pos rfl]
              dsimp only
              have X' := X.keeps F1.keep
              have T' := T.keeps F1.keep
              have N' := newsOf F'
              walk_at "go"
              rename Heap.StaysIn _ _ => st₂
              refine ⟨⟨_, _, rfl, st₂⟩, ?_⟩
              show StrsAre _ (List.map _ ((rest.take (d - 1)).take (i + 1)))
              rw [List.take_add_one, hd2]
              simpa using kct_snoc hI
            · intro D C h' tk' ys hD hDC hl hI hn' hk
              obtain ⟨F2, e2, N2⟩ := newsListA F1 (News.tl N1) hk hD hl hn'
              rw [hvtl, List.take_length] at hI
              exact ⟨rfl, h', tk', _, a, D, e, e2, ys, rfl, F2, hm, .of hw rfl, rfl, N2, by rw [List.map_map]; exact hI⟩
          clear F hm hw N htk
          rintro _ ⟨h, tk, m, a, D, e, e', ys, rfl, F, hm, ⟨tw, hw⟩, hf, N, hys⟩ htk2
          dsimp only at htk2
          have htk : 0 < tk := by omega
          clear htk2
          have hyl : ys.length = min (d - 1) n := by rw [strs_len hys, List.length_map, List.length_map, List.length_take, hrl]
          refine seqI (fun v s' => v = .bool (tiedP ds.length ds) ∧ ∃ h tk, s' = { s with heap := h, toks := tk } ∧ s.heap.StaysIn h) (fun s' => ¬ (d - 1 > rest.length ∨ 0 ∈ (rest.take (d - 1)).map (· - 1)) ∧ ∃ tk, s' = { s with heap := h, toks := tk }) ?_ ?_ ?_
          · have hF : (d - 1 > rest.length ∨ 0 ∈ (rest.take (d - 1)).map (· - 1)) → tiedP ds.length ds = false := fun hgt => by rw [← hT, tiedP_cons hsd, if_pos hgt]
            walk_at "go"
            · refine ⟨?_, h, _, rfl, F.keep⟩
              rw [hF (.inl (by omega))]
            · rename (List.any _ _ = true) => ha
              rw [any_row_a, decide_eq_true_eq] at ha
              refine ⟨?_, h, _, rfl, F.keep⟩
              rw [hF (.inr ha)]
            · rename (List.any _ _ = false) => ha
              rw [any_row_a, decide_eq_false_iff_not] at ha
              exact ⟨fun q => q.elim (fun q => by omega) ha, _, rfl⟩
          · rintro v _ ⟨rfl, h, tk, rfl, st⟩
            exact ⟨h, tk, rfl, st, rfl⟩
          · rintro _ ⟨hno, tk, rfl⟩ htk2
            dsimp only at htk2
            have htk : 0 < tk := by omega
            have hT2 : tiedP n ((rest.take (d - 1)).map (· - 1) ++ rest.drop (d - 1)) = tiedP ds.length ds := by rw [← hT, tiedP_cons hsd, if_neg hno]
            refine wpAny_execs_cons ?_
            walk_at "go"
            refine ⟨n, Nat.lt_succ_self _, _, _, _, _, _, _, rfl, by assumption, ?_, rfl, .inr ⟨_, News.hd (by assumption)⟩, ?_, ?_, ?_, by omega, hT2⟩
            · dsimp only; omega
            · rw [List.map_append]
              refine hys.append' ?_
              rw [List.map_drop]
              exact hvr.drop' _
            · intro x hx
              rcases List.mem_append.mp hx with hx | hx
              · obtain ⟨y, hy, rfl⟩ := List.mem_map.mp hx
                have hy2 := hmem y (.tail _ (List.mem_of_mem_take hy))
                have : y - 1 ≠ 0 := fun e => hno (.inr (e ▸ hx))
                omega
              · exact hmem x (.tail _ (List.mem_of_mem_drop hx))
            · rw [List.length_append, List.length_map, List.length_take, List.length_drop, hrl]
              omega
    · exact fun v s' h => h
  · rintro v _ ⟨h, tk, rfl, st, rfl⟩
    exact hQ h tk st
  · rintro _ ⟨h, tk, m, rfl, F, hT⟩ _
    have N := newsOf F
    walk_at "go"
    show Q (.bool true) _
    rw [← hT]
    exact hQ h tk F.keep
end
end Mine
end
section
open PySem PySem.W PySem.Spec PySem.Calls PyProof.Rows
namespace Mine
theorem slot_sub : Slot "re.Pattern" (Str.ofString "sub") "re.Pattern.sub" :=
  .of (owner := "re.Pattern") (n := "sub") (by rw [typeLookup_type, builtinLookup_eq_fast]; kernel_rfl) (by decide +kernel) (by decide +kernel) (by decide +kernel)
    (by first | exact .inl (by decide +kernel) | exact .inr (by decide +kernel)) (by rw [isSubtype_type]; kernel_rfl)
theorem type_sub : typeOf (.builtin "re.Pattern.sub") = pure (.type "method_descriptor") := by show builtinType _ = _; rw [builtinType_eq_fast]; kernel_rfl
theorem entry_sub : entryFor table "re.Pattern.sub" = some Builtin.«re.Pattern.sub» := entryFor_of_tree (by kernel_rfl)
theorem entry_loop : entryFor table "re.Pattern.sub.loop" = some Builtin.«re.Pattern.sub.loop» := entryFor_of_tree (by kernel_rfl)
theorem plain_loop : plainId "re.Pattern.sub.loop" = true := by decide +kernel
theorem plainAttrs_re : PlainAttrs "re.Pattern" :=
  ⟨⟨"object.__getattribute__", by rw [typeLookup_type, builtinLookup_eq_fast]; kernel_rfl, by decide +kernel⟩, by rw [typeLookup_type, builtinLookup_eq_fast]; kernel_rfl⟩
theorem args_sub (a b c : Value) : argsOk "re.Pattern.sub" ⟨[a, b, c], []⟩ := by
  unfold argsOk; kernel_rfl
end Mine
end
section
open PySem PySem.W PySem.Spec PySem.Calls PyProof.Rows
namespace Mine
open PySem.Builtin.Re
def driveP : Nat → Sre.M → Option Sre.M
  | 0, _ => none
  | n + 1, m => if (m.runFor reTurnSteps).outcome.isSome then some (m.runFor reTurnSteps) else driveP n (m.runFor reTurnSteps)
/-- where the next match lies, if there is one -/
def findP (code text : Array Nat) (start : Nat) (must : Bool) : Option (Option (Nat × Nat)) :=
  match driveP 1000 (Sre.forSearch code text 0 start text.size must) with
  | none => none
  | some m => match m.outcome with
    | some .matched => some (some (m.start, m.handed))
    | some .failed => some none
    | _ => none
def subP (code text repl : Array Nat) : Nat → Nat → Bool → List (Array Nat) → Option (List (Array Nat))
  | 0, _, _, _ => none
  | f + 1, done, must, acc => match findP code text done must with
    | none => none
    | some none => some (if done < text.size then acc ++ [text.extract done text.size] else acc)
    | some (some (b, h)) => subP code text repl f h (h == b) ((if done < b then acc ++ [text.extract done b] else acc) ++ [repl])
def code1 : Array Nat := #[14, 4, 0, 1, 1, 6, 1, 16, 46, 1]
def code2 : Array Nat := #[14, 9, 4, 1, 2, 16, 10, 16, 13, 0, 7, 7, 16, 13, 16, 10, 15, 18, 5, 16, 10, 15, 13, 11, 16, 13, 5, 5, 0, 16, 10, 1, 15, 2, 0, 1]
example : subP code1 #[46,46,97,13,10,46,97,13,10] #[46,46] 100 0 false [] = some [#[46, 46], #[46, 97, 13, 10], #[46, 46], #[97, 13, 10]] := by decide +kernel
example : subP code2 #[46,46,97,13,10,46,97,13,10] #[13,10] 100 0 false [] = some [#[46, 46, 97], #[13, 10], #[46, 97], #[13, 10]] := by decide +kernel
end Mine
end
section
open PySem PySem.W PySem.Spec PySem.Calls PyProof.Rows
namespace Mine
open PySem.Builtin.Re PySem.Builtin
section
variable {M : Model} {A : Around} {E : Value → Shared → Prop} {s : Shared}
theorem reDrive_w {Q : Sre.M → Shared → Prop} : ∀ (k n : Nat) (m m' : Sre.M), k ≤ n → driveP k m = some m' → Q m' s → wpAny M A (reDrive n m) Q E s
  | 0, _, _, _, _, h, _ => by simp [driveP] at h
  | k + 1, 0, _, _, hn, _, _ => by omega
  | k + 1, n + 1, m, m', hn, h, hQ => by
    rw [driveP] at h
    rw [reDrive]
    by_cases ho : (m.runFor reTurnSteps).outcome.isSome = true
    · rw [if_pos ho] at h
      cases h
      show wpAny M A (if (m.runFor reTurnSteps).outcome.isSome = true then _ else _) _ _ _
      rw [if_pos ho]
      exact wpAny_pure hQ
    · rw [if_neg ho] at h
      show wpAny M A (if (m.runFor reTurnSteps).outcome.isSome = true then _ else _) _ _ _
      rw [if_neg ho]
      exact wpAny_bind (wpAny_rule (reDrive_w k n _ m' (by omega) h hQ))
theorem rules_w {c : Nat → Bool} {f : Nat → String} {Q : Unit → Shared → Prop} (hQ : Q () s) : ∀ l : List Nat, wpAny M A (forIn l PUnit.unit fun i r => if c i = true then do rule (f i); pure (ForInStep.yield PUnit.unit) else pure (ForInStep.yield PUnit.unit)) (fun _ s' => Q () s') E s
  | [] => by rw [List.forIn_nil]; exact wpAny_pure hQ
  | i :: r => by
    rw [List.forIn_cons]
    by_cases hc : c i = true
    · rw [if_pos hc]
      exact wpAny_bind (wpAny_bind (wpAny_rule (wpAny_pure (rules_w hQ r))))
    · rw [if_neg hc]
      exact wpAny_bind (wpAny_pure (rules_w hQ r))
theorem runToEnd_w {m m' : Sre.M} {Q : Option Sre.M → Shared → Prop} (h : driveP 1000 m = some m') (h1 : m'.outcome = some .matched → Q (some m') s) (h2 : m'.outcome = some .failed → Q none s) (h3 : m'.outcome = some .matched ∨ m'.outcome = some .failed) :
    wpAny M A (reRunToEnd m) Q E s := by
  unfold reRunToEnd
  refine wpAny_bind (reDrive_w 1000 (2 ^ 64) m m' (by decide) h ?_)
  refine wpAny_bind (wpAny_mono (rules_w (c := fun i => m'.seen.has i) (f := fun i => Sre.names.getD i "") (Q := fun _ s' => s' = s) rfl _) ?_ fun _ _ e => e)
  rintro _ _ rfl
  rcases h3 with h3 | h3
  · rw [h3]; exact wpAny_pure (h1 h3)
  · rw [h3]; exact wpAny_pure (h2 h3)
end
end Mine
end
section
open PySem PySem.W PySem.Spec PySem.Calls PyProof.Rows
namespace Mine
open PySem.Builtin.Re PySem.Builtin
/-- a compiled pattern for texts: its words lie in a tuple -/
def RePat (h : Heap) (pa : Addr) (code : Array Nat) : Prop := ∃ (o oc : Obj) (fs cs : Array Value) (ca : Addr) (n : Nat) (t6 t2 : Tok), h.get? pa = some o ∧ o.cls = .type "re.Pattern" ∧ o.dict = none ∧ o.data = .fields fs ∧ fs.getD 6 .none = .int 0 t6 ∧ fs.getD 2 .none = .int 0 t2 ∧ fs.getD 5 .none = .ref ca ∧
  h.get? ca = some oc ∧ oc.data = .seq cs n ∧ (cs.map reRawOf).map (·.toNat) = code
theorem RePat.keeps {h h' : Heap} {pa : Addr} {code : Array Nat} (x : RePat h pa code) (hk : h.StaysIn h') : RePat h' pa code := by
  obtain ⟨o, oc, fs, cs, ca, n, t6, t2, h1, h2, h3, h4, h5, h6, h7, h8, h9⟩ := x
  exact ⟨o, oc, fs, cs, ca, n, t6, t2, hk _ _ h1, h2, h3, h4, h5, h6, h7, hk _ _ h8, h9⟩
section
variable {M : Model} {A : Around} {E : Value → Shared → Prop} {s : Shared}
def targetOf (pa : Addr) (x : Str) (t : Tok) (code : Array Nat) : ReTarget := { pattern := .ref pa, string := .str x t, code := code, text := x.cps, kind := 0, groups := 0, pos := 0, lim := x.cps.size }
theorem target_w {pa : Addr} {code : Array Nat} {x : Str} {t : Tok} {Q : ReTarget → Shared → Prop} (hp : RePat s.heap pa code) (h : Q (targetOf pa x t code) s) : wpAny M A (reWholeTarget (.ref pa) (.str x t)) Q E s := by
  obtain ⟨o, oc, fs, cs, ca, n, t6, t2, h1, h2, h3, h4, h5, h6, h7, h8, h9, h10⟩ := hp
  unfold reWholeTarget
  refine wpAny_bind (wpAny_fieldsOf h1 h4 ?_)
  refine wpAny_bind (m := reTextOf (.str x t)) (wpAny_pure ?_)
  dsimp only
  rw [h5, h6, h7]
  refine wpAny_bind (m := (pure () : Sem Unit)) (wpAny_pure ?_)
  refine wpAny_bind (m := reRawItems (.ref ca)) ?_
  unfold reRawItems
  refine wpAny_bind (wpAny_seqItems h8 h9 (wpAny_pure ?_))
  refine wpAny_pure ?_
  show Q ⟨_, _, (cs.map reRawOf).map (·.toNat), _, _, _, _, _⟩ s
  rw [h10]
  exact h
theorem find_w {pa : Addr} {code : Array Nat} {x : Str} {t : Tok} {start : Nat} {must : Bool} {r : Option (Nat × Nat)} {Q : Option Sre.M → Shared → Prop} (hf : findP code x.cps start must = some r)
    (h0 : r = none → Q none s) (h1 : ∀ m, r = some (m.start, m.handed) → Q (some m) s) : wpAny M A (reNextFound (targetOf pa x t code) start must) Q E s := by
  unfold findP at hf
  split at hf
  · cases hf
  rename_i m hm
  refine runToEnd_w hm ?_ ?_ ?_
  · intro ho
    rw [ho] at hf
    cases hf
    exact h1 m rfl
  · intro ho
    rw [ho] at hf
    cases hf
    exact h0 rfl
  · split at hf
    · exact .inl (by assumption)
    · exact .inr (by assumption)
    · cases hf
end
end Mine
end
section
open PySem PySem.W PySem.Spec PySem.Calls PyProof.Rows
namespace Mine
open PySem.Builtin.Re PySem.Builtin
def stxts (l : List (Array Nat)) : List Str := l.map fun a => ⟨a⟩
/-- where the loop stands: the pieces so far -/
structure LoopAt (g h : Heap) (a : Addr) (vs : List Value) (acc : List (Array Nat)) : Prop where
  keep : g.StaysIn h
  fresh : g.get? a = none
  pieces : ∃ e, h.get? a = some (seqObj "list" vs.toArray e)
  are : StrsAre vs (stxts acc)
  small : ∀ q ∈ acc, q.size ≤ 1000
theorem push_at {g h : Heap} {a : Addr} {vs : List Value} {acc : List (Array Nat)} {q : Array Nat} {t : Tok} (L : LoopAt g h a vs acc) (hq : q.size ≤ 1000) :
    LoopAt g (h.update a (Obj.mapSeq (·.push (.str ⟨q⟩ t)))) a (vs ++ [.str ⟨q⟩ t]) (acc ++ [q]) := by
  obtain ⟨hk, hf, ⟨e, he⟩, hS, hm⟩ := L
  have s1 := Heap.SameBut.update h a (Obj.mapSeq (·.push (.str ⟨q⟩ t)))
  refine ⟨fun b o ho => ?_, hf, ⟨_, by rw [get?_update_seq he (·.push (.str ⟨q⟩ t))]; simp; rfl⟩, ?_, ?_⟩
  · have : b ≠ a := by rintro rfl; rw [hf] at ho; cases ho
    exact (s1.2 _ this).trans (hk _ _ ho)
  · rw [stxts, List.map_append]
    exact hS.append' (.cons _ _ .nil)
  · intro x hx
    rcases List.mem_append.mp hx with hx | hx
    · exact hm x hx
    · simp only [List.mem_singleton] at hx; subst hx; exact hq
section
variable {M : Model} {A : Around} {E : Value → Shared → Prop} {s : Shared}
theorem pushW {g : Heap} {a : Addr} {vs : List Value} {acc : List (Array Nat)} {q : Array Nat} {t : Tok} {Q : Unit → Shared → Prop} (L : LoopAt g s.heap a vs acc) (hq : q.size ≤ 1000) (hn : vs.length ≤ 1000)
    (h : ∀ h' , LoopAt g h' a (vs ++ [.str ⟨q⟩ t]) (acc ++ [q]) → Q () { s with heap := h' }) : wpAny M A (updateSeq a (·.push (.str ⟨q⟩ t))) Q E s := by
  obtain ⟨e, he⟩ := L.pieces
  exact wpAny_updateSeq he rfl (h _ (push_at L hq)) (by rw [List.size_toArray, sizeLine_eq]; omega) (by rw [Array.size_push, List.size_toArray, sizeLine_eq]; omega)
theorem slice_w {x : Str} {b e : Nat} {Q : Value → Shared → Prop} (hx : x.cps.size ≤ 1000) (h : ∀ t tk, Q (.str ⟨x.cps.extract b e⟩ t) { s with toks := tk }) : wpAny M A (reSlice x.cps 0 b e) Q E s := by
  show wpAny M A (mkStr ⟨x.cps.extract b e⟩) Q E s
  refine wpAny_mkStr (h _ _) ?_
  rw [Str.length, Array.size_extract, sizeLine_eq]
  omega
end
theorem strs_len2 : ∀ {vs : List Value} {ys : List Str}, StrsAre vs ys → vs.length = ys.length
  | _, _, .nil => rfl
  | _, _, .cons _ _ r => by simp [strs_len2 r]
theorem flat_len : ∀ (ps : List (Array Nat)), (∀ q ∈ ps, q.size ≤ 1000) → ((stxts ps).map (·.length)).sum ≤ ps.length * 1000
  | [], _ => Nat.le_refl _
  | p :: r, h => by
    have ih := flat_len r fun q hq => h q (.tail _ hq)
    have h1 := h p (.head _)
    have e : (stxts (p :: r)).map (·.length) = p.size :: (stxts r).map (·.length) := rfl
    rw [e, List.sum_cons, List.length_cons]
    omega
section
variable {M : Model} {A : Around} {E : Value → Shared → Prop} {s : Shared}
/-- a branch whose two ways go on alike -/
theorem split_same {α β γ : Type} {c : Prop} [Decidable c] {u : Sem α} {v : α → Sem β} {t : Sem γ} {P : γ → Shared → Prop} (J : Shared → Prop)
    (h1 : c → wpAny M A u (fun x s' => wpAny M A (v x) (fun _ s'' => J s'') E s') E s) (h2 : ¬ c → J s) (ht : ∀ s', J s' → wpAny M A t P E s') : wpAny M A (if c then u >>= fun x => v x >>= fun _ => t else t) P E s := by
  by_cases hc : c
  · rw [if_pos hc]
    exact wpAny_bind (wpAny_mono (h1 hc) (fun x s' h => wpAny_bind (wpAny_mono h (fun _ s'' hj => ht s'' hj) fun _ _ e => e)) fun _ _ e => e)
  · rw [if_neg hc]
    exact ht s (h2 hc)
end
section
variable {prog : Program} {w : World} {A : Around} {s : Shared}
theorem loop_w {pa : Addr} {code : Array Nat} {x repl : Str} {t u : Tok} {g : Heap} {a : Addr} {ps : List (Array Nat)} {R : Result → Shared → Prop} (hp : RePat g pa code) (hx : x.cps.size ≤ 1000) (hr : repl.cps.size ≤ 1000)
    (hR : ∀ h' tk t', g.StaysIn h' → R (.ok (.ret (.str (Txt.join Str.empty (stxts ps)) t'))) { s with heap := h', toks := tk }) :
    ∀ (f n done : Nat) (must : Bool) (vs : List Value) (acc : List (Array Nat)) (h : Heap) (tk : Nat), vs.length + 2 * f ≤ 1000 → LoopAt g h a vs acc → subP code x.cps repl.cps f done must acc = some ps →
      codeAny (model prog w) A (.builtin "re.Pattern.sub.loop" ⟨[.ref pa, .str x t, .str repl u, rawInt 0, rawInt 0, rawInt n, rawInt done, rawInt done, .bool must, .ref a, .bool false], []⟩) R { s with heap := h, toks := tk }
  | 0, _, _, _, _, _, _, _, _, _, h => by simp [subP] at h
  | f + 1, n, done, must, vs, acc, h, tk, hn, L, hs => by
    refine codeAny_builtin entry_loop ?_
    rw [Around.under_plainId plain_loop _]
    unfold Builtin.«re.Pattern.sub.loop»
    dsimp only
    refine wpAny_bind (target_w (hp.keeps L.keep) ?_)
    rw [if_pos (by rfl)]
    refine wpAny_bind (m := reLiteralCannotBeTurned _) (wpAny_pure ?_)
    dsimp only
    rw [if_neg (by simp), Int.toNat_natCast]
    rw [subP] at hs
    split at hs
    · cases hs
    · rename_i hf
      cases hs
      refine wpAny_bind (find_w hf (fun _ => ?_) (fun m hm => by cases hm))
      dsimp only
      refine split_same (fun s' => ∃ h' tk' vs', s' = { s with heap := h', toks := tk' } ∧ vs'.length ≤ 1000 ∧ LoopAt g h' a vs' (if done < x.cps.size then acc ++ [x.cps.extract done x.cps.size] else acc)) (fun hlt => ?_) (fun hlt => ?_) ?_
      · have hlt' : done < x.cps.size := hlt
        rw [if_pos hlt']
        refine slice_w (x := x) hx fun tj tk => ?_
        exact pushW (s := { s with heap := h, toks := tk }) L (by rw [Array.size_extract]; omega) (by omega) fun h' L' => ⟨h', tk, _, rfl, by rw [List.length_append, List.length_singleton]; omega, L'⟩
      · have hlt' : ¬ done < x.cps.size := hlt
        rw [if_neg hlt']
        exact ⟨h, tk, vs, rfl, by omega, L⟩
      · generalize (if done < x.cps.size then acc ++ [x.cps.extract done x.cps.size] else acc) = ps at hR
        rintro _ ⟨h', tk', vs', rfl, hn', L'⟩
        obtain ⟨e, he⟩ := L'.pieces
        have he0 : (⟨x.cps.extract 0 0⟩ : Str) = Str.empty := by simp [Str.empty]
        have hl := strs_len2 L'.are
        refine wpAny_bind (slice_w (x := x) hx fun tj tk => ?_)
        refine wpAny_bind (m := seqItems? _) (wpAny_seqItems (s := { s with heap := h', toks := tk }) he rfl ?_)
        rw [he0]
        by_cases h0 : vs' = []
        · subst h0
          have : ps = [] := by cases ps with
            | nil => rfl
            | cons q r => simp [stxts] at hl
          subst this
          rw [if_pos (by simp)]
          refine wpAny_bind (wpAny_pure ?_)
          (try dsimp only)
          rw [if_neg (by simp)]
          exact wpAny_pure (hR h' tk tj L'.keep)
        · rw [if_neg (by simpa using h0)]
          refine wpAny_bind ?_
          have hfl := flat_len ps L'.small
          have hacc : ps.length ≤ 1000 := by rw [stxts, List.length_map] at hl; omega
          refine join_list (s := { s with heap := h', toks := tk }) (items := vs'.toArray) ⟨_, he, rfl, _, rfl⟩ (by simpa using L'.are) ?_ fun t' k => ?_
          · rw [show Str.empty.length = 0 from rfl]
            omega
          · (try dsimp only)
            rw [if_neg (by simp)]
            exact wpAny_pure (hR h' k t' L'.keep)
    · rename_i b e hf
      refine wpAny_bind (find_w hf (fun h => by cases h) (fun m hm => ?_))
      cases hm
      dsimp only
      refine wpAny_ite_split (fun hlt => ?_) (fun hlt => ?_)
      · rw [if_pos hlt] at hs
        refine wpAny_bind (slice_w (x := x) hx fun tj tk => ?_)
        refine wpAny_bind (pushW (s := { s with heap := h, toks := tk }) L (by rw [Array.size_extract]; omega) (by omega) fun h' L' => ?_)
        rw [if_pos (by rfl)]
        refine wpAny_bind (wpAny_pure ?_)
        rw [if_pos (by rfl)]
        refine wpAny_bind (pushW (s := { s with heap := h', toks := tk }) (q := repl.cps) L' hr (by rw [List.length_append, List.length_singleton]; omega) fun h' L' => ?_)
        refine wpAny_pure ⟨plainId_quiet plain_loop _, ?_⟩
        exact loop_w hp hx hr hR f (n + 1) m.handed _ _ _ h' tk (by rw [List.length_append, List.length_append, List.length_singleton, List.length_singleton]; omega) L' hs
      · rw [if_neg hlt] at hs
        rw [if_pos (by rfl)]
        refine wpAny_bind (wpAny_pure ?_)
        rw [if_pos (by rfl)]
        refine wpAny_bind (pushW (s := { s with heap := h, toks := tk }) (q := repl.cps) L hr (by omega) fun h' L' => ?_)
        refine wpAny_pure ⟨plainId_quiet plain_loop _, ?_⟩
        exact loop_w hp hx hr hR f (n + 1) m.handed _ _ _ h' tk (by rw [List.length_append, List.length_singleton]; omega) L' hs
end
end Mine
end
section
open PySem PySem.W PySem.Spec PySem.Calls PyProof.Rows
namespace Mine
open PySem.Builtin.Re PySem.Builtin
theorem named_w (a b : Value) : reNamed "re.Pattern.sub" "sub" ["repl", "string", "count"] 2 [a, b] [] = pure [some a, some b, none] := by
  with_unfolding_all rfl
theorem str_call : typeLookup (.type "str") (Str.ofString "__call__") = pure none := by rw [typeLookup_type, builtinLookup_eq_fast]; kernel_rfl
section
variable {prog : Program} {w : World} {A : Around} {E : Value → Shared → Prop} {s : Shared}
theorem sub_c {pa : Addr} {code : Array Nat} {x repl : Str} {t u : Tok} {ps : List (Array Nat)} {Q : Value → Shared → Prop} (hp : RePat s.heap pa code) (hx : x.cps.size ≤ 1000) (hr : repl.cps.size ≤ 1000) (hb : repl.cps.contains 92 = false)
    (hs : subP code x.cps repl.cps 100 0 false [] = some ps) (h : ∀ h' tk t', s.heap.StaysIn h' → Q (.str (Txt.join Str.empty (stxts ps)) t') { s with heap := h', toks := tk }) :
    wpAny (model prog w) A (call (.builtin "re.Pattern.sub") [.ref pa, .str repl u, .str x t]) Q E s := by
  have hT : s.TypeIs (.ref pa) "re.Pattern" := by obtain ⟨o, oc, fs, cs, ca, n, t6, t2, h1, h2, _⟩ := hp; exact ⟨o, h1, h2⟩
  refine wpAny_call (codeAny_call_builtin slot_sub.plain entry_sub (slot_sub.check _ _ _ _ _ _ _ _ hT (args_sub _ _ _) ?_))
  show wpAny _ _ (reSubstitute "re.Pattern.sub" "sub" false _) _ _ _
  unfold reSubstitute
  dsimp only
  rw [named_w]
  refine wpAny_bind (wpAny_pure ?_)
  dsimp only
  refine wpAny_bind (wpAny_pure ?_)
  refine wpAny_bind (wpAny_specialOf (T := "str") rfl str_call ?_)
  rw [if_neg (by simp)]
  refine wpAny_bind (m := asStr? _) (wpAny_pure ?_)
  dsimp only
  refine wpAny_bind (wpAny_pure ?_)
  rw [if_neg (by simp), if_pos (by simpa using hb)]
  refine wpAny_bind (wpAny_pure ?_)
  dsimp only
  refine wpAny_bind (wpAny_holding (target_w hp ?_))
  rw [if_neg (by decide)]
  refine wpAny_bind (wpAny_newList ?_ (Nat.zero_le _))
  refine wpAny_pure ⟨plainId_quiet plain_loop _, ?_⟩
  have hf : s.heap.get? s.heap.objs.size = none := by
    cases e : s.heap.get? s.heap.objs.size with
    | none => rfl
    | some o => exact absurd (Heap.lt_size e) (Nat.lt_irrefl _)
  exact loop_w (s := s) hp hx hr (fun h' tk t' st => h h' tk t' st) 100 0 0 false [] [] (s.heap.push (seqObj "list" #[] 0)) s.toks (by decide)
    ⟨fun b o e => Heap.get?_push_of_some _ e, hf, ⟨0, Heap.get?_push_size _ rfl⟩, .nil, fun q hq => nomatch hq⟩ hs
theorem getSub {pa : Addr} {code : Array Nat} {pl : Sem Bool} {Q : Value × List Value → Shared → Prop} (hp : RePat s.heap pa code) (h : Q (.builtin "re.Pattern.sub", [.ref pa]) s) : wpAny (model prog w) A (getMethod (.ref pa) (Str.ofString "sub") pl) Q E s := by
  obtain ⟨o, oc, fs, cs, ca, n, t6, t2, h1, h2, h3, _⟩ := hp
  exact getMethod_builtin ⟨o, h1, h2⟩ plainAttrs_re slot_sub type_sub (fun a e => by cases e; exact ⟨o, h1, h3⟩) h
end
end Mine
end
section
open PySem PySem.W PySem.Spec PySem.Calls PyProof.Rows
namespace Mine
theorem pat57 {w : World} {h : Heap} (X : (hd.heap_39 w.params).In h) : RePat h 57 code1 := by
  have h1 := X 57 _ (by k_is)
  have h2 := X 56 _ (by k_is)
  exact ⟨_, _, _, _, 56, 0, 0, 0, h1, rfl, rfl, rfl, rfl, rfl, rfl, h2, rfl, by decide +kernel⟩
theorem pat62 {w : World} {h : Heap} (X : (hd.heap_39 w.params).In h) : RePat h 62 code2 := by
  have h1 := X 62 _ (by k_is)
  have h2 := X 61 _ (by k_is)
  exact ⟨_, _, _, _, 61, 0, 0, 0, h1, rfl, rfl, rfl, rfl, rfl, rfl, h2, rfl, by decide +kernel⟩
section
variable {prog : Program} {w : World} {A : Around} {s : Shared} {p : Program} {loose : List Str} {mean : ExcName → Option Value} {mg mb : Str → Option Value} {Q : Value → Shared → Prop} {E : Value → Shared → Prop}
local macro_rules | `(tactic| walk_at "eval Name") => `(tactic| (refine' nmG ?k1 ?k2 ?k3 ?k4 ?k5 ?k6 ?_; (case k4 => exact rfl); (case k5 => exact rfl); (case k1 => assumption); (case k2 => assumption); (case k3 => assumption); (case k6 => k_is)))
local macro_rules | `(tactic| walk_at "eval Name") => `(tactic| (refine nmL (by assumption) (by first | assumption | exact rfl) ?_))
local macro_rules | `(tactic| walk_at "go") => `(tactic| repeat' (first | walk1 | (dsimp only; walk1)))
local macro_rules | `(tactic| walk_at "getMethod ref") => `(tactic| first | (refine getSub (pat57 (Frag.In.keeps (by assumption) (Fr.keep (by assumption)))) ?_) | (refine getSub (pat62 (Frag.In.keeps (by assumption) (Fr.keep (by assumption)))) ?_))
set_option maxHeartbeats 2000000 in
theorem quote_c (X : (hd.heap_39 w.params).In s.heap) (T : Top p loose mean mg mb s.heap) (hroom : A.depth + 5 < recursionLimit) (hh : A.handled = none) (x : Str) (t : Tok)
    {ps1 ps2 : List (Array Nat)} (hx : x.cps.size ≤ 1000) (hs1 : subP code2 x.cps (Str.ofString "\r\n").cps 100 0 false [] = some ps1) (hx2 : (Txt.join Str.empty (stxts ps1)).cps.size ≤ 1000)
    (hs2 : subP code1 (Txt.join Str.empty (stxts ps1)).cps (Str.ofString "..").cps 100 0 false [] = some ps2)
    (hQ : ∀ h' tk t', s.heap.StaysIn h' → Q (.str (Txt.join Str.empty (stxts ps2)) t') { s with heap := h', toks := tk }) :
    wpAny (model prog w) A (call (.ref 69) [.str x t]) Q E s := by
  obtain ⟨hd0, dp, fr0, gs0, un0⟩ := A
  obtain rfl : hd0 = none := hh
  dsimp only at hroom
  refine wpAny_call ?_
  refine' my_def (binds := [(Str.ofString "data", .str x t)]) X T ?k6 ?k7 ?kr ?k9 ?kB ?mm ?c2 ?c3 ?c4 ?c5
  case k6 => k_is
  case k7 => k_is
  case kr => dsimp only; omega
  case k9 => exact BindsTo.of_eq rfl
  case kB => exact locs rfl
  case c2 => exact rfl
  case c3 => exact rfl
  case c4 => exact rfl
  case c5 => decide
  case mm =>
  intro L h F
  have N := (News.nil : News s.heap L h [])
  walk_at "go"
  refine sub_c (pat62 (X.keeps F.keep)) hx (by decide +kernel) (by decide +kernel) hs1 fun h1 tk1 t1 st1 => ?_
  have F1 := F.grownK st1
  walk_at "go"
  refine sub_c (pat57 (X.keeps F1.keep)) hx2 (by decide +kernel) (by decide +kernel) hs2 fun h2 tk2 t2 st2 => ?_
  exact hQ _ _ _ fun b o e => st2 b o (F1.keep b o e)
end
end Mine
end
section
open PySem PySem.W PySem.Spec PySem.Calls PyProof.Rows
namespace Mine
/-- the pages that grow from one row of one dot -/
def grownP : Nat → List (List Nat)
  | 0 => [[1]]
  | i + 1 => (grownP i).map (· ++ [1]) ++ ((grownP i).map fun p => p.map (· + 1)).map (· ++ [i + 2])
def flat (l : List (Array Nat)) : List Nat := l.flatMap (·.toList)
/-- a page's text: its rows, a line end behind each -/
def textL (e : List Nat) (pg : List Nat) : List Nat := pg.flatMap fun d => List.replicate d 46 ++ 97 :: e
def qA (e : List Nat) (pg : List Nat) : Bool := match subP code2 ⟨textL e pg⟩ #[13, 10] 100 0 false [] with
  | none => false
  | some ps1 => flat ps1 == textL [13, 10] pg
def qB (pg : List Nat) : Bool := match subP code1 ⟨textL [13, 10] pg⟩ #[46, 46] 100 0 false [] with
  | none => false
  | some ps1 => flat ps1 == textL [13, 10] (pg.map (· + 1))
def qC (pg : List Nat) : Bool := (Txt.split ⟨⟨textL [13, 10] pg⟩⟩ (Str.ofString "\r\n")).map (·.cps.toList) == (pg.map fun d => List.replicate d 46 ++ [97]) ++ [[]]
theorem qA0 : ((List.range 3).all fun i => (grownP i).all (qA [10])) = true := by decide +kernel
theorem qA1 : ((List.range 3).all fun i => (grownP i).all (qA [13])) = true := by decide +kernel
theorem qA2 : ((List.range 3).all fun i => (grownP i).all (qA [13, 10])) = true := by decide +kernel
theorem qA3 : (grownP 3).all (qA [10]) = true := by decide +kernel
theorem qA4 : (grownP 3).all (qA [13]) = true := by decide +kernel
theorem qA5 : (grownP 3).all (qA [13, 10]) = true := by decide +kernel
theorem qB0 : ((List.range 3).all fun i => (grownP i).all qB) = true := by decide +kernel
theorem qB1 : (grownP 3).all qB = true := by decide +kernel
theorem qC0 : ((List.range 3).all fun i => (grownP i).all fun pg => qC (pg.map (· + 1))) = true := by decide +kernel
theorem qC1 : ((grownP 3).all fun pg => qC (pg.map (· + 1))) = true := by decide +kernel
theorem grown_len : ∀ i < 4, ∀ pg ∈ grownP i, pg.length = i + 1 ∧ ∀ d ∈ pg, 1 ≤ d ∧ d < 6 := by decide +kernel
theorem grown_count : ∀ i < 5, (grownP i).length = 2 ^ i := by decide +kernel
def endsL : List (List Nat) := [[10], [13], [13, 10]]
theorem all_of {q : List Nat → Bool} (h0 : ((List.range 3).all fun i => (grownP i).all q) = true) (h1 : (grownP 3).all q = true) {i : Nat} (hi : i < 4) {pg : List Nat} (hp : pg ∈ grownP i) : q pg = true := by
  by_cases h : i = 3
  · subst h; exact List.all_eq_true.mp h1 pg hp
  · exact List.all_eq_true.mp (List.all_eq_true.mp h0 i (List.mem_range.mpr (by omega))) pg hp
theorem qA_of {e : List Nat} (he : e ∈ endsL) {i : Nat} (hi : i < 4) {pg : List Nat} (hp : pg ∈ grownP i) : qA e pg = true := by
  simp only [endsL, List.mem_cons, List.not_mem_nil, or_false] at he
  rcases he with rfl | rfl | rfl
  · exact all_of qA0 qA3 hi hp
  · exact all_of qA1 qA4 hi hp
  · exact all_of qA2 qA5 hi hp
theorem join_flat (ps : List (Array Nat)) : (Txt.join Str.empty (stxts ps)).cps.toList = flat ps := by
  unfold Txt.join flat
  rw [StrLaws.glued_eq_join, join_nil_cps, stxts, List.flatMap_map]
theorem textL_len (e : List Nat) : ∀ (pg : List Nat), (∀ d ∈ pg, d < 8) → (textL e pg).length ≤ pg.length * (8 + e.length)
  | [], _ => Nat.zero_le _
  | d :: r, h => by
    have ih := textL_len e r fun x hx => h x (.tail _ hx)
    have hd := h d (.head _)
    have e1 : textL e (d :: r) = List.replicate d 46 ++ 97 :: e ++ textL e r := rfl
    rw [e1, List.length_append, List.length_append, List.length_replicate, List.length_cons, List.length_cons, Nat.add_mul]
    omega
theorem split_page {i : Nat} (hi : i < 4) {pg : List Nat} (hp : pg ∈ grownP i) : Txt.split ⟨⟨textL [13, 10] (pg.map (· + 1))⟩⟩ (Str.ofString "\r\n") = (pg.map (· + 1)).map row ++ [Str.empty] := by
  have h := all_of qC0 qC1 hi hp
  have inj : ∀ l l' : List Str, l.map (·.cps.toList) = l'.map (·.cps.toList) → l = l' := by
    intro l
    induction l with
    | nil => intro l' h; cases l' with
      | nil => rfl
      | cons _ _ => simp at h
    | cons a r ih => intro l' h; cases l' with
      | nil => simp at h
      | cons b r' =>
        simp only [List.map_cons, List.cons.injEq] at h
        rw [ih r' h.2, Str.ext' (Array.toList_inj.mp h.1)]
  refine inj _ _ ?_
  rw [eq_of_beq h, List.map_append, List.map_map, List.map_map, List.map_map]
  rfl
section
variable {prog : Program} {w : World} {A : Around} {s : Shared} {p : Program} {loose : List Str} {mean : ExcName → Option Value} {mg mb : Str → Option Value} {Q : Value → Shared → Prop} {E : Value → Shared → Prop}
theorem quote_page (X : (hd.heap_39 w.params).In s.heap) (T : Top p loose mean mg mb s.heap) (hroom : A.depth + 5 < recursionLimit) (hh : A.handled = none) {x : Str} {t : Tok} {e : List Nat} (he : e ∈ endsL) {i : Nat} (hi : i < 4) {pg : List Nat} (hp : pg ∈ grownP i) (hx : x = ⟨⟨textL e pg⟩⟩)
    (hQ : ∀ h' tk t', s.heap.StaysIn h' → Q (.str ⟨⟨textL [13, 10] (pg.map (· + 1))⟩⟩ t') { s with heap := h', toks := tk }) : wpAny (model prog w) A (call (.ref 69) [.str x t]) Q E s := by
  subst hx
  have hA := qA_of he hi hp
  have hB := all_of qB0 qB1 hi hp
  have hg := grown_len i hi pg hp
  have he2 : e.length ≤ 2 := by
    simp only [endsL, List.mem_cons, List.not_mem_nil, or_false] at he
    rcases he with rfl | rfl | rfl <;> decide
  have hl : (textL e pg).length ≤ 50 := Nat.le_trans (textL_len e pg fun d hd => by have := (hg.2 d hd).2; omega) (by rw [hg.1]; exact Nat.le_trans (Nat.mul_le_mul (show i + 1 ≤ 4 by omega) (show 8 + e.length ≤ 10 by omega)) (by decide))
  have hl2 : (textL [13, 10] pg).length ≤ 50 := Nat.le_trans (textL_len [13, 10] pg fun d hd => by have := (hg.2 d hd).2; omega) (by rw [hg.1]; exact Nat.le_trans (Nat.mul_le_mul (show i + 1 ≤ 4 by omega) (show 8 + [13, 10].length ≤ 10 by decide)) (by decide))
  unfold qA at hA
  split at hA
  · cases hA
  rename_i ps1 h1
  have j1 : Txt.join Str.empty (stxts ps1) = ⟨⟨textL [13, 10] pg⟩⟩ := Str.ext' (Array.toList_inj.mp ((join_flat ps1).trans (eq_of_beq hA)))
  unfold qB at hB
  split at hB
  · cases hB
  rename_i ps2 h2
  have j2 : Txt.join Str.empty (stxts ps2) = ⟨⟨textL [13, 10] (pg.map (· + 1))⟩⟩ := Str.ext' (Array.toList_inj.mp ((join_flat ps2).trans (eq_of_beq hB)))
  refine quote_c X T hroom hh _ _ (ps1 := ps1) (ps2 := ps2) (by show (textL e pg).length ≤ 1000; omega) ?_ (by rw [j1]; show (textL [13, 10] pg).length ≤ 1000; omega) ?_ fun h' tk t' st => ?_
  · rw [show (Str.ofString "\r\n").cps = #[13, 10] by decide +kernel]; exact h1
  · rw [j1, show (Str.ofString "..").cps = #[46, 46] by decide +kernel]; exact h2
  · rw [j2]; exact hQ h' tk t' st
end
end Mine
end
section
open PySem PySem.W PySem.Spec PySem.Calls PyProof.Rows
namespace Mine
/-- every object but the frame is as it was -/
def KeepB (L : Addr) (h h' : Heap) : Prop := ∀ b o, b ≠ L → h.get? b = some o → h'.get? b = some o
theorem KeepB.refl (L : Addr) (h : Heap) : KeepB L h h := fun _ _ _ e => e
theorem KeepB.trans {L : Addr} {h h' h'' : Heap} (a : KeepB L h h') (b : KeepB L h' h'') : KeepB L h h'' := fun c o n e => b c o n (a c o n e)
theorem KeepB.of {L : Addr} {h h' : Heap} (a : h.StaysIn h') : KeepB L h h' := fun b o _ e => a b o e
/-- a ledger of all that is new -/
theorem ledgerAll (g : Heap) (L : Addr) (h : Heap) : ∃ led, News g L h led ∧ ∀ b o, h.get? b = some o → b ≠ L → g.get? b = none → (b, o) ∈ led := by
  refine ⟨(List.range h.objs.size).filterMap fun b => if b ≠ L ∧ g.get? b = none then (h.get? b).map fun o => (b, o) else none, ?_, ?_⟩
  · rintro ⟨b, o⟩ hq
    obtain ⟨c, _, hc⟩ := List.mem_filterMap.mp hq
    split at hc
    · rename_i hcc
      obtain ⟨o', ho', e⟩ := Option.map_eq_some_iff.mp hc
      cases e
      exact ⟨ho', hcc⟩
    · cases hc
  · intro b o ho hb hg
    refine List.mem_filterMap.mpr ⟨b, List.mem_range.mpr (Heap.lt_size ho), ?_⟩
    rw [if_pos ⟨hb, hg⟩, ho]
    rfl
theorem keepAll {g h h' : Heap} {L : Addr} {m m' : Str → Option Value} {led : List (Addr × Obj)} (F : Fr g L h m) (hl : ∀ b o, h.get? b = some o → b ≠ L → g.get? b = none → (b, o) ∈ led) (F' : Fr g L h' m') (N' : News g L h' led) : KeepB L h h' := by
  intro b o hb ho
  cases e : g.get? b with
  | none => exact (N' _ (hl b o ho hb e)).1
  | some o' =>
    have := F.keep _ _ e
    rw [ho] at this
    cases this
    exact F'.keep _ _ e

/-- the range's source for a for -/
theorem srcRangeF {prog : Program} {w : World} {A : Around} {s : Shared} {r : Addr} {a b : Int} {n : Nat} {t u v : Tok} (hh : A.handled = none) (hr : IsRange s.heap r a b 1 t u v) (ha : 0 ≤ a) (ha2 : a < 1000) (hn : b = a + n) (hn2 : n < 1000) :
    Src1 prog w A (.ref r) s n (fun i x => ∃ t, x = .int (a + i * 1) t) := by
  intro Q E h
  have hs : Builtin.Range.rangeSize a b 1 = n := by rw [rangeSize_one]; split <;> omega
  refine wpAny_pyIter_range hr (small_one (by omega) (by omega) (by omega) (by omega)) ?_
  rw [hs]
  refine h _ _ (Walks.range hh _ a 1 n) (fun i h st => ⟨_, st⟩) ?_ rfl
  have := Heap.get?_push_size s.heap (o := { cls := .type "range_iterator", data := .fields #[rawInt a, rawInt n, rawInt 1] }) rfl
  simpa using this
/-- the range's source for a comprehension -/
theorem srcRangeC {prog : Program} {w : World} {A : Around} {s : Shared} {r : Addr} {a b : Int} {n : Nat} {t u v : Tok} (hh : A.handled = none) (hr : IsRange s.heap r a b 1 t u v) (ha : 0 ≤ a) (ha2 : a < 1000) (hn : b = a + n) (hn2 : n < 1000) :
    SrcOK prog w A (.ref r) s n (fun i x => ∃ t, x = .int (a + i * 1) t) := by
  intro Q E h
  refine srcRangeF hh hr ha ha2 hn hn2 Q E fun o St W live st0 hf => ?_
  refine h _ _ _ _ _ W st0 ?_ ?_ (fun b o e => Heap.get?_push_of_some _ e) (by rw [Heap.size_push]; exact Nat.le_succ _)
  · intro b hb
    simp only [List.mem_cons, List.not_mem_nil, or_false] at hb
    subst hb
    rw [Heap.size_push]
    exact Nat.lt_succ_self _
  · intro b hb
    simp only [List.mem_cons, List.not_mem_nil, or_false] at hb
    subst hb
    exact Nat.le_refl _
/-- a list from the raw sum of two -/
theorem add_raw {prog : Program} {w : World} {A : Around} {E : Value → Shared → Prop} {s : Shared} {l b : Addr} {vs ws : List Value} {Q : Value → Shared → Prop} (hl : s.heap.IsList l vs.toArray) (hb : s.heap.IsList b ws.toArray) (hsz : vs.length + ws.length ≤ 1000)
    (h : ∀ h', s.heap.StaysIn h' → h'.PlainList s.heap.objs.size (vs ++ ws).toArray → Q (.ref s.heap.objs.size) { s with heap := h' }) :
    wpAny (model prog w) A (binaryOp .Add (.ref l) (.ref b)) Q E s := by
  obtain ⟨⟨cls, dd, data, sl⟩, ho, hc, n, hd⟩ := id hl
  obtain ⟨⟨cls2, dd2, data2, sl2⟩, ho2, hc2, n2, hd2⟩ := id hb
  simp only at hc hd hc2 hd2
  subst hc hd hc2 hd2
  have e : vs.toArray ++ ws.toArray = (vs ++ ws).toArray := by simp
  refine concat_meets ⟨_, ho, rfl⟩ ⟨_, ho2, rfl⟩ noFill_list_add seq_list_add PySem.F.slot_list_add PySem.F.entry_list_add (PySem.F.args_list_add_2 _ _) (list_addW l b vs.toArray ws.toArray n n2 dd dd2 sl sl2 (by rw [sizeLine_eq, List.size_toArray, List.size_toArray]; omega)) ⟨ho, ho2, ?_⟩
  rw [e]
  exact h _ (fun b o e => Heap.get?_push_of_some _ e) ⟨_, Heap.get?_push_size _ rfl⟩

def Tk {α : Type} (P : α → Shared → Prop) (v : α) (s : Shared) : Prop := 1 ≤ s.toks → P v s
theorem with_tk {α : Type} {M : Model} {A : Around} {E : Value → Shared → Prop} {s : Shared} {t : Sem α} {Q : α → Shared → Prop} (h0 : 1 ≤ s.toks) (h : wpAny M A t (Tk Q) E s) : wpAny M A t Q E s :=
  wpAny_mono (wpAny_toks_of h0 h) (fun _ _ x => x.2 x.1) fun _ _ x => x.2
theorem str_len_append (x y : Str) : (x ++ y).length = x.length + y.length := by simp [Str.length, Str.cps_append]
theorem rowE_sum (e : Str) (he : e.length ≤ 2) : ∀ pg : List Nat, (∀ d ∈ pg, d < 8) → ((pg.map fun d => row d ++ e).map (·.length)).sum ≤ pg.length * 11
  | [], _ => Nat.le_refl _
  | d :: r, h => by
    have ih := rowE_sum e he r fun x hx => h x (.tail _ hx)
    have hd := h d (.head _)
    simp only [List.map_cons, List.sum_cons, List.length_cons, str_len_append, row_len] at ih ⊢
    omega
theorem page_text (e : Str) (pg : List Nat) : Txt.join (Str.ofString "") (pg.map fun d => row d ++ e) = ⟨⟨textL e.cps.toList pg⟩⟩ := by
  refine Str.ext' (Array.toList_inj.mp ?_)
  rw [show Str.ofString "" = Str.empty by decide +kernel]
  unfold Txt.join
  rw [StrLaws.glued_eq_join, join_nil_cps]
  unfold textL
  rw [List.flatMap_map]
  congr 1
  funext d
  simp [Str.cps_append, row]
theorem strs_snoc : ∀ {vs : List Value} {ys : List Str} {y : Str}, StrsAre vs (ys ++ [y]) → ∃ r v, vs = r ++ [v] ∧ StrsAre r ys
  | _, [], _, h => by
    cases h with
    | cons y t r => cases r with
      | nil => exact ⟨[], _, rfl, .nil⟩
  | _, z :: ys, _, h => by
    cases h with
    | cons y t r =>
      obtain ⟨q, v, rfl, hq⟩ := strs_snoc r
      exact ⟨.str z t :: q, v, rfl, .cons z t hq⟩
section
variable {prog : Program} {w : World} {A : Around} {E : Value → Shared → Prop} {s : Shared}
theorem split_raw {x y : Str} {t u : Tok} {Q : Value → Shared → Prop} (hy : (y.length == 0) = false) (hsz : x.length ≤ 1000)
    (h : ∀ D l h' k, l.map (·.1) = Txt.split x y → s.heap.StaysIn h' → h'.IsList D (strValues l).toArray → StrsAre (strValues l) (l.map (·.1)) → Q (.ref D) { s with heap := h', toks := k }) :
    wpAny (model prog w) A (call (.builtin "str.split") [.str x t, .str y u]) Q E s := by
  have hn : (PySem.Builtin.Str.partsBetween x (PySem.Builtin.Str.occurrences x y 0 x.length (x.length + 1)) y.length).length ≤ sizeLine := by
    have e1 := StrLaws.occ_length_le x y 0 x.length (x.length + 1)
    rw [length_partsBetween, sizeLine_eq]; omega
  exact SCH.split1 (P := fun h' => s.heap.StaysIn h') (fun h o st b ob e => Heap.get?_push_of_some _ (st b ob e)) (fun _ _ e => e) hy (fun D l h' k e st hl => h D l h' k e st hl (strsAre_of_values l)) (by rw [sizeLine_eq]; omega) hn
theorem slice_raw {value slice : Expr} {l : Addr} {items : List Value} {vl vu : Value} {lo hi : Option Int} {Q : Value → Shared → Prop} (hl : s.heap.IsList l items.toArray) (pl : IsPart vl lo) (pu : IsPart vu hi) (hz : items.length ≤ 1000)
    (h : ∀ h', s.heap.StaysIn h' → h'.PlainList (s.heap.objs.size + 1) (kms_pick items lo hi).toArray → Q (.ref (s.heap.objs.size + 1)) { s with heap := h' })
    (hs : subscripted slice false (.ref l) (.ref s.heap.objs.size) = operate [.ref s.heap.objs.size, .ref l] (getItem (.ref l) (.ref s.heap.objs.size))) :
    wpAny (model prog w) A (subscriptTail value slice (.ref l) (.ref s.heap.objs.size)) Q E { s with heap := s.heap.push { cls := .type "slice", data := .fields #[vl, vu, .none] } } := by
  refine kba_turn (value' := PySem.Expr.Name (PySem.Str.ofString "_") ⟨0, 0, 0, 0⟩) (fun _ => rfl) ?_
  refine subscriptTail_ops (Heap.IsList.typeIs (s := { s with heap := s.heap.push { cls := .type "slice", data := .fields #[vl, vu, .none] } }) (hl.push _)) list_getitem_lookup
    (wpAny_getItem_list_slice (hl.push _) (Heap.IsSliceOf.new ..) pl pu .none (by simp) ?_ (by rw [List.size_toArray, sizeLine_eq]; omega)) hs (fun _ => rfl)
  show Q (.ref (s.heap.push _).objs.size) _
  rw [Heap.size_push, kms_pick_eq]
  refine h ((s.heap.push { cls := .type "slice", data := .fields #[vl, vu, .none] }).push { cls := .type "list", data := .seq (kms_pick items lo hi).toArray }) (fun b o e => Heap.get?_push_of_some _ (Heap.get?_push_of_some _ e)) ⟨0, ?_⟩
  have := Heap.get?_push_size (s.heap.push { cls := .type "slice", data := .fields #[vl, vu, .none] }) (o := { cls := .type "list", data := .seq (kms_pick items lo hi).toArray }) rfl
  rwa [Heap.size_push] at this
end
theorem mul_row : ∀ i : Nat, i < 8 → Txt.mul (Str.ofString ".") (1 + (i : Int) * 1 + 1) ++ Str.ofString "a" = row (i + 2) := by decide +kernel
/-- a mark: the raw lines of the walk are on -/
def RawOn : Prop := True
/-- a list of pages: each a list of rows, at addresses that are ok -/
inductive Pages (ok : Addr → Prop) (h : Heap) : List Value → List (List Nat) → Prop
  | nil : Pages ok h [] []
  | cons {a : Addr} {xs vs : List Value} {pg : List Nat} {pgs : List (List Nat)} : ok a → h.IsList a xs.toArray → StrsAre xs (pg.map row) → Pages ok h vs pgs → Pages ok h (.ref a :: vs) (pg :: pgs)
theorem Pages.len {ok : Addr → Prop} {h : Heap} {vs : List Value} {pgs : List (List Nat)} (x : Pages ok h vs pgs) : vs.length = pgs.length := by
  induction x with
  | nil => rfl
  | cons _ _ _ _ ih => simp [ih]
theorem Pages.keeps {ok : Addr → Prop} {h h' : Heap} {vs : List Value} {pgs : List (List Nat)} (x : Pages ok h vs pgs) (hk : ∀ b o, ok b → h.get? b = some o → h'.get? b = some o) : Pages ok h' vs pgs := by
  induction x with
  | nil => exact .nil
  | cons a b c _ ih => exact .cons a (b.at fun o e => hk _ o a e) c ih
theorem Pages.weak {ok ok' : Addr → Prop} {h : Heap} {vs : List Value} {pgs : List (List Nat)} (x : Pages ok h vs pgs) (hk : ∀ b, ok b → ok' b) : Pages ok' h vs pgs := by
  induction x with
  | nil => exact .nil
  | cons a b c _ ih => exact .cons (hk _ a) b c ih
theorem Pages.weakL {ok ok' : Addr → Prop} {h : Heap} {vs : List Value} {pgs : List (List Nat)} (x : Pages ok h vs pgs) (hk : ∀ b, ok b → b < h.objs.size → ok' b) : Pages ok' h vs pgs := by
  induction x with
  | nil => exact .nil
  | cons a b c _ ih => exact .cons (hk _ a (by obtain ⟨o, ho, _⟩ := b; exact Heap.lt_size ho)) b c ih
theorem IsList.lt {h : Heap} {a : Addr} {xs : Array Value} (x : h.IsList a xs) : a < h.objs.size := by obtain ⟨o, ho, _⟩ := x; exact Heap.lt_size ho
theorem IsCell.lt {h : Heap} {a : Addr} {v : Option Value} (x : h.IsCell a v) : a < h.objs.size := by obtain ⟨o, ho, _⟩ := x; exact Heap.lt_size ho
theorem IsCell.at {h h' : Heap} {a : Addr} {v : Option Value} (x : h.IsCell a v) (hk : ∀ o, h.get? a = some o → h'.get? a = some o) : h'.IsCell a v := let ⟨o, ho, hd⟩ := x; ⟨o, hk _ ho, hd⟩
/-- the frame, where all but one other object stand -/
theorem Fr.but {g h h' : Heap} {L I : Addr} {m : Str → Option Value} (F : Fr g L h m) (hI : @LT.lt Nat _ L I) (hk : ∀ b o, b ≠ I → h.get? b = some o → h'.get? b = some o) : Fr g L h' m :=
  ⟨F.ns.at' fun o e => hk L o (Nat.ne_of_lt hI) e, fun b o e => hk b o (Nat.ne_of_lt (Nat.lt_trans (Nat.lt_of_lt_of_le (Heap.lt_size e) F.above) hI)) (F.keep b o e), F.above⟩
theorem Pages.append {ok : Addr → Prop} {h : Heap} {vs ws : List Value} {pgs qgs : List (List Nat)} (x : Pages ok h vs pgs) (y : Pages ok h ws qgs) : Pages ok h (vs ++ ws) (pgs ++ qgs) := by
  induction x with
  | nil => exact y
  | cons a b c _ ih => exact .cons a b c ih
theorem Pages.get {ok : Addr → Prop} {h : Heap} {vs : List Value} {pgs : List (List Nat)} (x : Pages ok h vs pgs) : ∀ {i : Nat} {v : Value}, vs[i]? = some v → ∃ a xs pg, v = .ref a ∧ pgs[i]? = some pg ∧ ok a ∧ h.IsList a xs.toArray ∧ StrsAre xs (pg.map row) := by
  induction x with
  | nil => intro i v h; simp at h
  | cons a b c _ ih =>
    intro i v h
    cases i with
    | zero => simp at h; subst h; exact ⟨_, _, _, rfl, rfl, a, b, c⟩
    | succ i => simp at h; obtain ⟨a, xs, pg, h1, h2, h3⟩ := ih h; exact ⟨a, xs, pg, h1, by simpa using h2, h3⟩
end Mine
end
section
open PySem PySem.W PySem.Spec PySem.Calls PyProof.Rows
namespace Mine
section
variable {prog : Program} {w : World} {A : Around} {s : Shared} {p : Program} {loose : List Str} {mean : ExcName → Option Value} {mg mb : Str → Option Value} {Q : Value → Shared → Prop} {E : Value → Shared → Prop}
local macro_rules | `(tactic| walk_at "eval Name") => `(tactic| (refine' nmB ?k1 ?k2 ?k3 ?k4 ?k5 ?k6 ?k7 ?k8 ?k9 ?_; (case k4 => exact rfl); (case k5 => exact rfl); (case k6 => exact rfl); (case k1 => assumption); (case k2 => assumption); (case k3 => assumption); (case k7 => k_is); (case k8 => exact rfl); (case k9 => decide)))
local macro_rules | `(tactic| walk_at "eval Name") => `(tactic| (refine' nmG ?k1 ?k2 ?k3 ?k4 ?k5 ?k6 ?_; (case k4 => exact rfl); (case k5 => exact rfl); (case k1 => assumption); (case k2 => assumption); (case k3 => assumption); (case k6 => k_is)))
local macro_rules | `(tactic| walk_at "eval Name") => `(tactic| (refine' nmC ?k1 ?k2 ?k3 ?k4 ?_ ?k5 ?k6; (case k2 => with_unfolding_all exact rfl); (case k3 => with_unfolding_all exact rfl); (case k1 => with_unfolding_all assumption); (case k4 => with_unfolding_all assumption); (case k5 => with_unfolding_all exact rfl); (case k6 => decide)))
local macro_rules | `(tactic| walk_at "eval Name") => `(tactic| (refine' nmL ?k1 ?k2 ?_ ?k3 ?k4 ?k5; (case k4 => with_unfolding_all exact rfl); (case k1 => with_unfolding_all assumption); (case k2 => first | assumption | with_unfolding_all exact rfl); (case k3 => with_unfolding_all exact rfl); (case k5 => decide)))
local macro_rules | `(tactic| walk_at "go") => `(tactic| repeat' (first | walk1 | (dsimp only; walk1)))
theorem pick_init (r : List Value) (v : Value) : kms_pick (r ++ [v]) none (some (-1)) = r := by
  simp [kms_pick, kms_lo, kms_hi]
local macro_rules | `(tactic| walk_at "binaryOp Add str str") => `(tactic| (refine PyProof.Rows.add_str ?_ (by simp only [row_len, sizeLine_eq]; omega); intro t' k'))
local macro_rules | `(tactic| walk_at "subscriptTail Call") => `(tactic| (refine' slice_raw ?l ?p ?q ?z ?_ ?s; (case l => with_unfolding_all assumption); (case p => first | exact IsPart.none | exact IsPart.int _ _); (case q => first | exact IsPart.none | exact IsPart.int _ _); (case z => assumption); (case s => with_unfolding_all rfl); intro h' st' pl'))
local macro_rules | `(tactic| walk_at "newList") => `(tactic| ((have hraw9 : RawOn := by assumption); clear hraw9; refine wpAny_newList ?_ (by simp only [List.length_cons, List.length_nil, sizeLine_eq]; omega)))
set_option hygiene false in
local macro_rules | `(tactic| walk_at "eval ListComp") => `(tactic| (refine' compW (cl := [(Str.ofString "end", L + 1)]) (fun C i ys h => StrsAre ys ((pg.take i).map fun d => row d ++ e)) ?s1 ?s2 ?s3 ?s4 ?s5 ?s6 ?s7; (case s1 => with_unfolding_all rfl); (case s2 => decide); (case s3 => rfl); (case s4 => decide); (case s5 => decide); (case s7 => (intro _; with_unfolding_all rfl))))
set_option maxHeartbeats 4000000 in
theorem grown_c (X : (hd.heap_39 w.params).In s.heap) (T : Top p loose mean mg mb s.heap) (hroom : A.depth + 20 < recursionLimit) (hU : A.units + 60 < cLine) (hh : A.handled = none) (n : Nat) (hn : 1 ≤ n ∧ n ≤ 5) (e : Str) (he : e.cps.toList ∈ endsL) (t1 t2 : Tok) (h0 : 0 < s.toks)
    (hQ : ∀ D vs h' tk, s.heap.StaysIn h' → s.heap.objs.size ≤ D → h'.IsList D vs.toArray → Pages (fun b => s.heap.objs.size ≤ b) h' vs (grownP (n - 1)) → Q (.ref D) { s with heap := h', toks := tk }) :
    wpAny (model prog w) A (call (.ref 145) [.int n t1, .str e t2]) Q E s := by
  obtain ⟨hd0, dp, fr0, gs0, un0⟩ := A
  obtain rfl : hd0 = none := hh
  dsimp only at hroom hU
  have hel : e.length ≤ 2 := by
    simp only [endsL, List.mem_cons, List.not_mem_nil, or_false] at he
    have : e.length = e.cps.toList.length := rfl
    rcases he with he | he | he <;> rw [this, he] <;> decide
  refine wpAny_call ?_
  refine' my_defC (binds := [(Str.ofString "size", .int n t1), (Str.ofString "end", .str e t2)]) X T ?k6 ?k7 ?kr ?k9 ?kB ?mm ?c2 ?c3 ?c4
  case k6 => k_is
  case k7 => k_is
  case kr => dsimp only; omega
  case k9 => exact BindsTo.of_eq rfl
  case kB => exact rfl
  case c2 => exact rfl
  case c3 => exact rfl
  case c4 => exact rfl
  case mm =>
  intro L h tk htk F hcs
  have hce : h.IsCell (L + 1) (some (.str e t2)) := hcs (Str.ofString "end") (L + 1) rfl
  have hcc : h.IsCell (L + 2) none := hcs (Str.ofString "count") (L + 2) rfl
  have hx : ∃ m, Fr s.heap L h m ∧ m (Str.ofString "size") = some (.int n t1) := ⟨_, F, rfl⟩
  clear hcs F
  obtain ⟨m, F, hsz⟩ := hx
  have hab := F.above
  refine seqT (fun s' => ∃ (h : Heap) (tk : Nat) (m : Str → Option Value) (pa : Addr) (vs : List Value), s' = { s with heap := h, toks := tk } ∧ Fr s.heap L h m ∧ m (Str.ofString "size") = some (.int n t1) ∧ m (Str.ofString "pages") = some (.ref pa) ∧ h.IsCell (L + 1) (some (.str e t2)) ∧ h.IsCell (L + 2) none ∧
    @LT.lt Nat _ (L + 2) pa ∧ h.IsList pa vs.toArray ∧ Pages (fun b => @LT.lt Nat _ (L + 2) b) h vs (grownP 0)) ?_ ?_
  · obtain ⟨led, N, hled⟩ := ledgerAll s.heap L h
    have kbf : ∀ {h' m'}, Fr s.heap L h' m' → News s.heap L h' led → KeepB L h h' := fun F' N' => keepAll F hled F' N'
    walk_at "go"
    rename (∀ p, p ∈ led → p.fst < _) => l1
    rename (_ ∧ AllLt _ _) => l2
    rename News _ _ _ (_ :: _ :: _) => N2
    rename Fr _ _ _ (fun _ => _) => F2
    have kb := kbf F2 (News.tl (News.tl N2))
    obtain ⟨oc, hoc, hdc⟩ := hcc
    have hlt := l1 _ (hled (L + 2) oc hoc (neN (by omega)) (by
      cases e : s.heap.get? (L + 2) with
      | none => rfl
      | some o => have := Nat.lt_of_lt_of_le (Heap.lt_size e) hab; exact absurd this (Nat.not_lt.mpr (Nat.le_add_right _ _))))
    have hlt2 : @LT.lt Nat _ _ _ := l2.1
    have hlt : @LT.lt Nat _ _ _ := hlt
    have hce' : Heap.IsCell _ (L + 1) _ := let ⟨o, ho, hd⟩ := hce; ⟨o, kb _ _ (neN (by omega)) ho, hd⟩
    refine ⟨rfl, _, _, _, _, [_], rfl, F2, hsz, rfl, hce', ⟨oc, kb _ _ (neN (by omega)) hoc, hdc⟩, ?_, News.isList N2 (.head _), ?_⟩
    · exact Nat.lt_trans hlt hlt2
    · refine .cons ?_ (News.isList N2 (.tail _ (.head _))) (.cons (Str.ofString ".a") _ .nil) .nil
      exact hlt
  · clear F hsz hce hcc
    rintro _ ⟨h, tk', m, pa, vs, rfl, F, hsz, hpg, hce, hcc, hpa, hpl, hP⟩ htk2
    dsimp only at htk2
    have htk3 : 0 < tk' := by omega
    refine seqT (fun s' => ∃ (h : Heap) (tk : Nat) (m : Str → Option Value) (pa : Addr) (vs : List Value), s' = { s with heap := h, toks := tk } ∧ Fr s.heap L h m ∧ m (Str.ofString "pages") = some (.ref pa) ∧
      @LT.lt Nat _ (L + 2) pa ∧ h.IsList pa vs.toArray ∧ Pages (fun b => @LT.lt Nat _ (L + 2) b) h vs (grownP (n - 1))) ?_ ?_
    · refine forW (J := fun I i s' => ∃ (h : Heap) (tk : Nat) (m : Str → Option Value) (pa : Addr) (vs : List Value) (cv : Option Value), s' = { s with heap := h, toks := tk } ∧ 0 < tk ∧ Fr s.heap L h m ∧ m (Str.ofString "pages") = some (.ref pa) ∧ h.IsCell (L + 1) (some (.str e t2)) ∧ h.IsCell (L + 2) cv ∧
        (@LT.lt Nat _ (L + 2) pa ∧ @Ne Nat pa I) ∧ h.IsList pa vs.toArray ∧ Pages (fun b => @LT.lt Nat _ (L + 2) b ∧ @Ne Nat b I) h vs (grownP i) ∧ @LT.lt Nat _ (L + 2) I) ?_
      obtain ⟨led, N, hled⟩ := ledgerAll s.heap L h
      refine with_tk (by dsimp only; omega) ?_
      walk_at "go"
      unfold Tk
      intro htk4
      dsimp only at htk4
      rename IsRange _ _ _ _ _ _ _ _ => hR
      rename (∀ b o, Heap.get? _ b = some o → Heap.get? _ b = some o) => st
      rename Fr _ _ _ _ => F1
      dsimp only at hR st ⊢
      refine ⟨n - 1, _, srcRangeF rfl hR (by omega) (by omega) (by omega) (by omega), ?_, ?_, ?_, ?_⟩
      · intro o hof
        have stP : ∀ b o', h.get? b = some o' → Heap.get? (Heap.push _ o) b = some o' := fun b o' e => Heap.get?_push_of_some _ (st b o' e)
        have l1 := IsList.lt (hpl.at fun o e => st _ o e)
        have l2 := IsCell.lt (hcc.keeps st)
        exact ⟨_, _, _, pa, vs, none, rfl, by dsimp only; omega, F1.push o, hpg, hce.keeps stP, hcc.keeps stP, ⟨hpa, Nat.ne_of_lt l1⟩, hpl.at fun o e => stP _ o e,
          ((hP.keeps fun b o _ e => st b o e).weakL fun b hb hlt => ⟨hb, Nat.ne_of_lt hlt⟩).keeps fun b o' _ e => Heap.get?_push_of_some _ e, l2⟩
      · rintro I i _ h' tk' ⟨h, tk, m, pa, vs, cv, rfl, q1, F, q2, q3, q4, ⟨q5, q6⟩, q7, q8, q9⟩ hk _ htk
        dsimp only at hk htk
        exact ⟨h', tk', m, pa, vs, cv, rfl, by omega, Fr.but F (by omega) hk, q2, IsCell.at q3 fun o e => hk _ o (neN (by omega)) e, IsCell.at q4 fun o e => hk _ o (neN (by omega)) e, ⟨q5, q6⟩, q7.at fun o e => hk _ o q6 e, q8.keeps fun b o hb e => hk b o hb.2 e, q9⟩
      · rintro I oI i v _ _ hi ⟨t, rfl⟩ ⟨h, tk, m, pa, vs, cv, rfl, q1, F, q2, q3, q4, ⟨q5, q6⟩, q7, q8, q9⟩ hoI
        refine wpAny_assign_Name (wpAny_storeName_cell rfl rfl rfl q4 fun h1 hc1 hs1 => ?_)
        have kb1 : ∀ b o, b ≠ L + 2 → h.get? b = some o → h1.get? b = some o := fun b o hb ho => (hs1.2 b hb).trans ho
        have F1 : Fr s.heap L h1 m := Fr.but F (Nat.lt_add_of_pos_right (by decide)) kb1
        have r3 := IsCell.at q3 fun o ho => kb1 _ o (neN (by omega)) ho
        have r7 := q7.at fun o ho => kb1 _ o (neN (by omega)) ho
        have r8 := q8.keeps fun b o hb ho => kb1 b o (Nat.ne_of_gt hb.1) ho
        have roI : h1.get? I = some oI := kb1 _ _ (neN (by omega)) hoI
        clear hs1 kb1 F q3 q7 q8 hoI q4
        refine seqT (fun s' => ∃ (h2 : Heap) (tk : Nat) (m2 : Str → Option Value) (sa : Addr) (ss : List Value), s' = { s with heap := h2, toks := tk } ∧ Fr s.heap L h2 m2 ∧ m2 (Str.ofString "pages") = some (.ref pa) ∧ m2 (Str.ofString "sent") = some (.ref sa) ∧ KeepB L h1 h2 ∧
          h2.IsList sa ss.toArray ∧ Pages (fun b => @LT.lt Nat _ (L + 2) b ∧ @Ne Nat b I) h2 ss ((grownP i).map fun p => p.map (· + 1))) ?_ ?_
        · refine' compA (cl := [(Str.ofString "end", L + 1)]) (fun C j ys h => Pages (fun b => @LT.lt Nat _ C b) h ys (((grownP i).take j).map fun p => p.map (· + 1))) ?s1 ?s2 ?s3 ?s4 ?s5 ?s6 ?s7 ?s8 ?s9
          case s1 => with_unfolding_all rfl
          case s2 => with_unfolding_all rfl
          case s3 => decide
          case s4 => rfl
          case s5 => decide
          case s6 => rfl
          case s7 => rfl
          case s8 => rfl
          walk_at "go"
          have hgl : (grownP i).length = 2 ^ i := grown_count i (by omega)
          have hgl2 : 2 ^ i ≤ 2 ^ 4 := Nat.pow_le_pow_right (by decide) (by omega)
          have hvl := r8.len
          refine ⟨vs.length, _, m, srcList rfl r7, by rw [sizeLine_eq]; omega, ⟨fun _ _ => .nil, ?_, ?_, ?_⟩, F1.ns, ?_⟩
          · intro C j ys h' a
            rw [a.len, List.length_map, List.length_take]
            omega
          · intro C j ys h' h'' a hk
            exact a.keeps fun b o hb ho => hk b o hb ho
          · intro C j v ys s' m' hj hv hI F' hx hs'
            obtain ⟨a, xs, pg, rfl, hpg, _, hxl, hxs⟩ := r8.get hv
            obtain ⟨h', tk', rfl, htk'⟩ := hs'
            dsimp only at htk' F' hI
            refine wpAny_tests_nil ⟨Keeps.refl _, ?_⟩
            rw [if_pos rfl]
            dsimp only
            have X' := X.keeps F1.keep
            have T' := T.keeps F1.keep
            have N' := newsOf F'
            walk_at "go"
            have hpm : pg ∈ grownP i := List.mem_of_getElem? hpg
            have hgr := grown_len i (by omega) pg hpm
            have hgd : ∀ d ∈ pg, d < 8 := fun d hd => by have := (hgr.2 d hd).2; omega
            have hxl2 : xs.length = i + 1 := by rw [strs_len hxs, List.length_map, hgr.1]
            refine ⟨xs.length, _, srcList rfl (hxl.at fun o ho => F'.keep _ o ho), by rw [sizeLine_eq]; omega, ⟨fun _ _ => .nil, ?_, fun _ _ _ _ _ a _ => a, ?_⟩, ?_⟩
            · intro C j ys h' a
              rw [strs_len a, List.length_map, List.length_take]
              omega
            · intro C2 j2 v2 ys2 s'' m'' hj2 hv2 hI2 F2 hx2 hs''
              obtain ⟨y, ty, hy, rfl⟩ := strs_at hxs hv2
              obtain ⟨h'', tk'', rfl, htk''⟩ := hs''
              dsimp only at htk'' F2
              rw [List.getElem?_map] at hy
              obtain ⟨d, hd1, rfl⟩ := Option.map_eq_some_iff.mp hy
              have hdl := hgd d (List.mem_of_getElem? hd1)
              refine wpAny_tests_nil ⟨Keeps.refl _, ?_⟩
              rw [if_pos rfl]
              dsimp only
              have N2 := newsOf F2
              have r3' := r3.keeps F'.keep
              walk_at "go"
              refine ⟨⟨_, _, rfl, fun _ _ e => e⟩, ?_⟩
              show StrsAre _ (List.map _ (pg.take (j2 + 1)))
              rw [List.take_add_one, hd1]
              simpa using kct_snoc hI2
            · intro D C3 h3 tk3 ys3 hD hDC hl3 hI3 st3
              dsimp only at hD st3 ⊢
              rw [hxl2, ← hgr.1, List.take_length] at hI3
              have F3 := F'.grownK st3
              have N3 := newsOf F3
              walk_at "go"
              refine join_list hl3.isList (by simpa using hI3) ?_ ?_
              · have := rowE_sum e hel pg hgd
                rw [show (Str.ofString "").length = 0 by decide +kernel]
                omega
              intro t4 k4
              walk_at "go"
              refine quote_page (X_st X' F' st3) (T_st T' F' st3) ?_ rfl he (i := i) (by omega) hpm ?_ fun h5 tk5 t5 st5 => ?_
              · simp only [depth_deeper]; omega
              · exact page_text e pg
              have F5 := F3.grownK st5
              have N5 := newsOf F5
              walk_at "go"
              have htl := textL_len [13, 10] (pg.map (· + 1)) (fun d hd => by
                obtain ⟨d', hd', rfl⟩ := List.mem_map.mp hd
                have := (hgr.2 d' hd').2
                omega)
              rw [List.length_map, hgr.1] at htl
              have htl2 : (textL [13, 10] (pg.map (· + 1))).length ≤ 50 := Nat.le_trans htl (Nat.le_trans (Nat.mul_le_mul (show i + 1 ≤ 4 by omega) (show 8 + [13, 10].length ≤ 10 by decide)) (by decide))
              refine split_raw (by decide) (by show (textL [13, 10] (pg.map (· + 1))).length ≤ 1000; omega) fun D6 l h6 k6 e1 st6 hl6 e2 => ?_
              rw [e1, split_page (by omega) hpm] at e2
              obtain ⟨zs, zv, hz1, hz2⟩ := strs_snoc e2
              rw [hz1] at hl6
              have hzl : zs.length = i + 1 := by rw [strs_len hz2, List.length_map, List.length_map, hgr.1]
              have hzl2 : (zs ++ [zv]).length ≤ 1000 := by rw [List.length_append, List.length_singleton]; omega
              have F6 := F5.grownK st6
              have N6 := newsOf F6
              have hC6 : @LT.lt Nat _ C h6.objs.size := by obtain ⟨o, _, _, ho, _⟩ := F6.ns; exact Heap.lt_size ho
              walk_at "go"
              rename Heap.PlainList _ _ _ => pl7
              rename Heap.StaysIn _ _ => st7
              rw [pick_init] at pl7
              refine ⟨⟨_, _, rfl, fun b o ho => st7 b o (st6 b o (st5 b o (st3 b o ho)))⟩, ?_⟩
              show Pages (fun b => @LT.lt Nat _ C b) _ (ys ++ [_]) (((grownP i).take (j + 1)).map fun p => p.map (· + 1))
              rw [List.take_add_one, hpg, List.map_append]
              exact (hI.keeps fun b o _ ho => st7 b o (st6 b o (st5 b o (st3 b o ho)))).append (.cons (Nat.lt_succ_of_lt hC6) pl7.isList hz2 .nil)
          · intro D C h' tk' ys hD hDC hl hI hn hk
            dsimp only at hD hk ⊢
            have lI : @LT.lt Nat _ I h1.objs.size := Heap.lt_size roI
            have lL : @LT.lt Nat _ (L + 2) h1.objs.size := IsCell.lt hc1
            have hDC' : @LT.lt Nat _ D C := hDC
            have hD' : @LE.le Nat _ h1.objs.size D := hD
            rw [hvl, List.take_length] at hI
            exact ⟨rfl, h', tk', _, D, ys, rfl, ⟨hn, fun b o ho => hk b o (Nat.ne_of_lt (Nat.lt_of_lt_of_le (Heap.lt_size ho) F1.above)) (F1.keep b o ho), F1.above⟩, q2, rfl, hk, hl.isList,
              hI.weak fun b hb => ⟨Nat.lt_trans lL (Nat.lt_of_le_of_lt hD' (Nat.lt_trans hDC' hb)), Nat.ne_of_gt (Nat.lt_trans lI (Nat.lt_of_le_of_lt hD' (Nat.lt_trans hDC' hb)))⟩⟩
        · rintro _ ⟨h2, tk2, m2, sa, ss, rfl, F2, p1, p2, p3, p4, p5⟩ htk5
          dsimp only at htk5
          refine wpAny_execs_cons (wpAny_Assign_Name (wpAny_BinOp ?_) (by with_unfolding_all rfl))
          have X2 := X.keeps F2.keep
          have T2 := T.keeps F2.keep
          have hgl : (grownP i).length = 2 ^ i := grown_count i (by omega)
          have hgl2 : 2 ^ i ≤ 2 ^ 4 := Nat.pow_le_pow_right (by decide) (by omega)
          have hvl := r8.len
          have hsl := p5.len
          rw [List.length_map] at hsl
          have r7' := r7.at fun o ho => p3 _ o (neN (by omega)) ho
          have r8' := r8.keeps fun b o hb ho => p3 b o (neN (by omega)) ho
          have c3' := IsCell.at hc1 fun o ho => p3 _ o (neN (by omega)) ho
          have roI' := p3 _ _ (neN (by omega)) roI
          refine' compW (cl := []) (fun C j ys h => Pages (fun b => @LT.lt Nat _ C b) h ys (((grownP i).take j).map (· ++ [1]))) ?u1 ?u2 ?u3 ?u4 ?u5 ?u6 ?u7
          case u1 => with_unfolding_all rfl
          case u2 => decide
          case u3 => rfl
          case u4 => decide
          case u5 => decide
          case u7 => (intro _; with_unfolding_all rfl)
          walk_at "go"
          refine ⟨vs.length, _, srcList rfl r7', by rw [sizeLine_eq]; omega, ⟨fun _ _ => .nil, ?_, ?_, ?_⟩, ?_⟩
          · intro C j ys h' a
            rw [a.len, List.length_map, List.length_take]
            omega
          · intro C j ys h' h'' a hk
            exact a.keeps fun b o hb ho => hk b o hb ho
          · intro C j v ys s' m' hj hv hI F' hx hs'
            obtain ⟨a, xs, pg, rfl, hpg, _, hxl, hxs⟩ := r8'.get hv
            obtain ⟨h', tk', rfl, htk'⟩ := hs'
            dsimp only at htk' F' hI
            refine wpAny_tests_nil ⟨Keeps.refl _, ?_⟩
            rw [if_pos rfl]
            dsimp only
            have N' := newsOf F'
            have hxl' := hxl.at fun o ho => F'.keep _ o ho
            have hC : @LT.lt Nat _ C h'.objs.size := by obtain ⟨o, _, _, ho, _⟩ := F'.ns; exact Heap.lt_size ho
            have hgr := grown_len i (by omega) pg (List.mem_of_getElem? hpg)
            have hxl2 : xs.length = i + 1 := by rw [strs_len hxs, List.length_map, hgr.1]
            have rawOn : RawOn := trivial
            walk_at "go"
            refine add_raw (hxl'.at fun o ho => Heap.get?_push_of_some _ ho) ⟨_, Heap.get?_push_size _ rfl, rfl, _, rfl⟩ (by rw [List.length_singleton]; omega) fun h3 st3 pl3 => ?_
            have st3' : h'.StaysIn h3 := fun b o ho => st3 b o (Heap.get?_push_of_some _ ho)
            refine ⟨⟨_, _, rfl, st3'⟩, ?_⟩
            show Pages (fun b => @LT.lt Nat _ C b) _ (ys ++ [_]) (((grownP i).take (j + 1)).map (· ++ [1]))
            rw [List.take_add_one, hpg, List.map_append]
            refine (hI.keeps fun b o _ ho => st3' b o ho).append (.cons ?_ pl3.isList ?_ .nil)
            · dsimp only
              rw [Heap.size_push]
              exact Nat.lt_succ_of_lt hC
            · rw [List.map_append]
              exact hxs.append' (.cons (Str.ofString ".a") _ .nil)
          · intro D1 C1 h3 tk3 ys3 hD1 hDC1 hl3 hI3 st3
            dsimp only at hD1 st3 ⊢
            rw [hvl, List.take_length] at hI3
            refine' compW (cl := [(Str.ofString "count", L + 2)]) (fun C j ys h => Pages (fun b => @LT.lt Nat _ C b) h ys ((((grownP i).map fun p => p.map (· + 1)).take j).map (· ++ [i + 2]))) ?v1 ?v2 ?v3 ?v4 ?v5 ?v6 ?v7
            case v1 => with_unfolding_all rfl
            case v2 => decide
            case v3 => rfl
            case v4 => decide
            case v5 => decide
            case v7 => (intro _; with_unfolding_all rfl)
            have F3 := F2.grownK st3
            walk_at "go"
            refine ⟨ss.length, _, srcList rfl (p4.at fun o ho => st3 _ o ho), by rw [sizeLine_eq]; omega, ⟨fun _ _ => .nil, ?_, ?_, ?_⟩, ?_⟩
            · intro C j ys h' a
              rw [a.len, List.length_map, List.length_take, List.length_map]
              omega
            · intro C j ys h' h'' a hk
              exact a.keeps fun b o hb ho => hk b o hb ho
            · intro C j v ys s' m' hj hv hI F' hx hs'
              obtain ⟨a, xs, pg, rfl, hpg, _, hxl, hxs⟩ := p5.get hv
              obtain ⟨h', tk', rfl, htk'⟩ := hs'
              dsimp only at htk' F' hI
              refine wpAny_tests_nil ⟨Keeps.refl _, ?_⟩
              rw [if_pos rfl]
              dsimp only
              have N' := newsOf F'
              have hxl' := hxl.at fun o ho => F'.keep _ o (st3 _ o ho)
              have hC : @LT.lt Nat _ C h'.objs.size := by obtain ⟨o, _, _, ho, _⟩ := F'.ns; exact Heap.lt_size ho
              have rawOn : RawOn := trivial
              have c3'' := c3'.keeps st3
              walk_at "go"
              obtain ⟨pg0, hpg0, hpe⟩ : ∃ pg0 ∈ grownP i, pg = pg0.map (· + 1) := by
                rw [List.getElem?_map] at hpg
                obtain ⟨q, hq, rfl⟩ := Option.map_eq_some_iff.mp hpg
                exact ⟨q, List.mem_of_getElem? hq, rfl⟩
              have hgr := grown_len i (by omega) pg0 hpg0
              have hxl2 : xs.length = i + 1 := by rw [strs_len hxs, hpe, List.length_map, List.length_map, hgr.1]
              rw [mul_row i (by omega)]
              refine add_raw (hxl'.at fun o ho => Heap.get?_push_of_some _ ho) ⟨_, Heap.get?_push_size _ rfl, rfl, _, rfl⟩ (by rw [List.length_singleton]; omega) fun h4 st4 pl4 => ?_
              have st4' : h'.StaysIn h4 := fun b o ho => st4 b o (Heap.get?_push_of_some _ ho)
              refine ⟨⟨_, _, rfl, st4'⟩, ?_⟩
              show Pages (fun b => @LT.lt Nat _ C b) _ (ys ++ [_]) ((((grownP i).map fun p => p.map (· + 1)).take (j + 1)).map (· ++ [i + 2]))
              rw [List.take_add_one, hpg, List.map_append]
              refine (hI.keeps fun b o _ ho => st4' b o ho).append (.cons ?_ pl4.isList ?_ .nil)
              · dsimp only
                rw [Heap.size_push]
                exact Nat.lt_succ_of_lt hC
              · rw [List.map_append]
                exact hxs.append' (.cons (row (i + 2)) _ .nil)
            · intro D2 C2 h4 tk4 ys4 hD2 hDC2 hl4 hI4 st4
              dsimp only at hD2 st4 ⊢
              rw [hsl, ← List.length_map (f := fun p : List Nat => p.map (· + 1)), List.take_length] at hI4
              have l3 := hI3.len
              have l4 := hI4.len
              rw [List.length_map] at l3 l4
              rw [List.length_map] at l4
              refine add_raw (hl3.isList.at fun o ho => st4 _ o ho) hl4.isList (by omega) fun h5 st5 pl5 => ?_
              dsimp only at pl5 st5 ⊢
              have st25 : h2.StaysIn h5 := fun b o ho => st5 b o (st4 b o (st3 b o ho))
              refine wpAny_storeName_local (by with_unfolding_all rfl) (F2.grownK st25).ns (fun h6 hn6 hs6 => wpAny_execs_nil ?_) (by with_unfolding_all rfl)
              have k6 : ∀ b o, b ≠ L → h5.get? b = some o → h6.get? b = some o := fun b o hb ho => (hs6.2 b hb).trans ho
              have lI : @LT.lt Nat _ I h2.objs.size := Heap.lt_size roI'
              have lL : @LT.lt Nat _ (L + 2) h2.objs.size := IsCell.lt c3'
              have lI4 : @LT.lt Nat _ I h4.objs.size := Heap.lt_size (st4 _ _ (st3 _ _ roI'))
              have lL4 : @LT.lt Nat _ (L + 2) h4.objs.size := IsCell.lt ((c3'.keeps st3).keeps st4)
              have hDC1' : @LT.lt Nat _ D1 C1 := hDC1
              have hDC2' : @LT.lt Nat _ D2 C2 := hDC2
              have lI3 : @LT.lt Nat _ I h3.objs.size := Heap.lt_size (st3 _ _ roI')
              have lL3 : @LT.lt Nat _ (L + 2) h3.objs.size := IsCell.lt (c3'.keeps st3)
              refine ⟨rfl, ⟨h6, tk4 + 1, _, h4.objs.size, ys3 ++ ys4, _, rfl, Nat.succ_pos _, ⟨hn6, fun b o ho => k6 b o (Nat.ne_of_lt (Nat.lt_of_lt_of_le (Heap.lt_size ho) F2.above)) (st25 b o (F2.keep b o ho)), F2.above⟩, rfl, IsCell.at r3 fun o ho => k6 _ o (neN (by omega)) (st25 _ o (p3 _ o (neN (by omega)) ho)),
                IsCell.at c3' fun o ho => k6 _ o (neN (by omega)) (st25 _ o ho), ⟨by omega, by omega⟩, pl5.isList.at fun o ho => k6 _ o (neN (by omega)) ho, ?_, q9⟩, k6 _ _ (neN (by omega)) (st25 _ _ roI')⟩
              refine Pages.append (pgs := (grownP i).map (· ++ [1])) ((hI3.keeps fun b o hb ho => k6 b o (neN (by omega)) (st5 b o (st4 b o ho))).weak fun b hb => ⟨by omega, by omega⟩)
                ((hI4.keeps fun b o hb ho => k6 b o (neN (by omega)) (st5 b o ho)).weak fun b hb => ⟨by omega, by omega⟩)
      · rintro I _ h' tk' ⟨h, tk, m, pa, vs, cv, rfl, q1, F, q2, q3, q4, ⟨q5, q6⟩, q7, q8, q9⟩ hk
        exact ⟨rfl, h', tk', m, pa, vs, rfl, Fr.but F (by omega) hk, q2, q5, q7.at fun o e => hk _ o q6 e, (q8.keeps fun b o hb e => hk b o hb.2 e).weak fun b hb => hb.1⟩
    · rintro _ ⟨h, tk, m, pa, vs, rfl, F, hm, h1, h2, h3⟩ _
      have N := newsOf F
      walk_at "go"
      have ab := F.above
      exact hQ pa vs h tk F.keep (by omega) h2 (h3.weak fun b hb => by omega)
end
end Mine
end
section
open PySem PySem.W PySem.Spec PySem.Calls PyProof.Rows
namespace Mine
theorem stp_blanks : ∀ (e : Nat) (q : WsSt), (List.replicate e 32).foldl stp q = (q.1 + e, q.2.1, q.2.2.1 + e, q.2.2.2)
  | 0, _ => rfl
  | e + 1, q => by
    rw [List.replicate_succ, List.foldl_cons, stp_blanks e]
    simp only [stp, if_true]
    congr 1
    · omega
    · congr 2; omega
theorem stOf_ws : ∀ (es : List Nat) (q : WsSt), q.2.2.1 = 0 → (wsL es).foldl stp q = (q.1 + es.sum + es.length, q.2.1 + es.length, 0, es.foldl bump q.2.2.2)
  | [], q, h => by
    obtain ⟨a, b, c, d⟩ := q
    simp only at h
    subst h
    rfl
  | e :: r, q, h => by
    have e1 : wsL (e :: r) = List.replicate e 32 ++ 9 :: wsL r := by simp [wsL]
    rw [e1, List.foldl_append, stp_blanks, List.foldl_cons, stOf_ws r _ rfl]
    simp only [stp, List.foldl_cons, List.sum_cons, List.length_cons, h, Nat.zero_add, if_neg (show ¬ 9 = 32 by decide)]
    congr 1
    · omega
    · congr 1; omega
theorem leadQ_eq (ds : List Nat) (k : Nat) : leadQ ds k = ((ds.map (· - k)).sum + ds.length, ds.length, 0, (ds.map (· - k)).foldl bump []) := by
  unfold leadQ stOf
  rw [stOf_ws _ _ rfl]
  simp
theorem bump_get (c : List Nat) (b i : Nat) : (bump c b).getD i 0 = c.getD i 0 + if i = b then 1 else 0 := by
  unfold bump
  simp only [List.getD_eq_getElem?_getD, List.getElem?_modify, List.getElem?_append, List.getElem?_replicate]
  by_cases h1 : i < c.length
  · simp only [h1, if_true]
    by_cases h2 : b = i
    · subst h2; simp [h1]
    · simp [h2, Ne.symm h2, h1]
  · simp only [h1, if_false]
    by_cases h2 : b = i
    · subst h2
      have : b - c.length < b + 1 - c.length := by omega
      simp [this, h1]
    · have h3 : c[i]? = none := by simp; omega
      rw [h3]
      simp only [h2, if_false, Option.getD_none, if_neg (Ne.symm h2), Nat.add_zero]
      split <;> rfl
theorem bump_comm (c : List Nat) (a b : Nat) : bump (bump c a) b = bump (bump c b) a := by
  refine List.ext_getElem (by simp only [bump_length]; omega) fun i h1 h2 => ?_
  have e1 : (bump (bump c a) b).getD i 0 = c.getD i 0 + (if i = a then 1 else 0) + if i = b then 1 else 0 := by rw [bump_get, bump_get]
  have e2 : (bump (bump c b) a).getD i 0 = c.getD i 0 + (if i = b then 1 else 0) + if i = a then 1 else 0 := by rw [bump_get, bump_get]
  have g1 : (bump (bump c a) b).getD i 0 = (bump (bump c a) b)[i] := by simp [List.getD_eq_getElem?_getD, h1]
  have g2 : (bump (bump c b) a).getD i 0 = (bump (bump c b) a)[i] := by simp [List.getD_eq_getElem?_getD, h2]
  rw [g1] at e1
  rw [g2] at e2
  rw [e1, e2]
  omega
theorem leadQ_perm {ds ds' : List Nat} (h : ds.Perm ds') (k : Nat) : leadQ ds k = leadQ ds' k := by
  have h2 := h.map (· - k)
  rw [leadQ_eq, leadQ_eq, h2.sum_nat, h.length_eq, h2.foldl_eq' (fun x _ y _ z => bump_comm z x y)]
theorem sortD_of_perm {ds ds' : List Nat} (h : ds.Perm ds') : sortD ds = sortD ds' := sortD_eq ((sortD_perm ds).trans h) (sortD_sorted ds)
theorem tiedP_perm {ds ds' : List Nat} (h : ds.Perm ds') (n : Nat) : tiedP n ds = tiedP n ds' := by
  cases n with
  | zero => rfl
  | succ n => rw [tiedP, tiedP, sortD_of_perm h]
/-- ascending -/
def insA (a : Nat) : List Nat → List Nat
  | [] => [a]
  | b :: r => if a ≤ b then a :: b :: r else b :: insA a r
def sortA : List Nat → List Nat
  | [] => []
  | a :: r => insA a (sortA r)
theorem insA_perm (a : Nat) : ∀ l, (insA a l).Perm (a :: l)
  | [] => .refl _
  | b :: r => by
    unfold insA
    split
    · exact .refl _
    · exact ((insA_perm a r).cons b).trans (.swap ..)
theorem sortA_perm : ∀ l, (sortA l).Perm l
  | [] => .refl _
  | a :: r => (insA_perm a _).trans ((sortA_perm r).cons a)
theorem insA_sorted (a : Nat) : ∀ l : List Nat, l.Pairwise (· ≤ ·) → (insA a l).Pairwise (· ≤ ·)
  | [], _ => by simp [insA]
  | b :: r, h => by
    have h1 := List.pairwise_cons.mp h
    unfold insA
    split
    · rename_i hb
      refine List.pairwise_cons.mpr ⟨fun x hx => ?_, h⟩
      rcases List.mem_cons.mp hx with rfl | hx
      · exact hb
      · exact Nat.le_trans hb (h1.1 x hx)
    · rename_i hb
      refine List.pairwise_cons.mpr ⟨fun x hx => ?_, insA_sorted a r h1.2⟩
      rcases List.mem_cons.mp ((insA_perm a r).mem_iff.mp hx) with rfl | hx
      · exact Nat.le_of_lt (Nat.lt_of_not_le hb)
      · exact h1.1 x hx
theorem sortA_sorted : ∀ l, (sortA l).Pairwise (· ≤ ·)
  | [] => .nil
  | a :: r => insA_sorted a _ (sortA_sorted r)
theorem sortA_eq {l l' : List Nat} (hp : l'.Perm l) (hs : l'.Pairwise (· ≤ ·)) : l' = sortA l :=
  List.Perm.eq_of_pairwise (le := (· ≤ ·)) (fun _ _ _ _ h1 h2 => Nat.le_antisymm h1 h2) hs (sortA_sorted l) (hp.trans (sortA_perm l).symm)

def likeP (ds : List Nat) (g : List Nat) : Bool := decide ((leadQ g 0).2.2.2 = (leadQ ds 0).2.2.2 ∧ (leadQ g 0).2.2.1 = (leadQ ds 0).2.2.1)
def overP (n : Nat) (ds : List Nat) (g : List Nat) : Bool := decide ((leadQ g 0).1 = (leadQ ds 0).1) && (List.range n).all fun j => decide ((leadQ ds (j + 1)).1 ≤ (leadQ g (j + 1)).1)
def greatP (n : Nat) (ws : List Nat) (k : Nat) : Nat := (ws.drop (n - k)).sum
def roomP (n : Nat) (ws : List Nat) (k : Nat) : Nat := k * (k - 1) + ((ws.take (n - k)).map fun x => min x k).sum
def stepP (n : Nat) (ws : List Nat) (dt : Bool × Bool) (j : Nat) : Bool × Bool :=
  (dt.1 && decide (greatP n ws (j + 1) ≤ roomP n ws (j + 1)), dt.2 && (decide (ws.getD (n - (j + 1)) 0 < j) || decide (greatP n ws (j + 1) = roomP n ws (j + 1))))
def dtP (n : Nat) (ws : List Nat) (m : Nat) : Bool × Bool := (List.range m).foldl (stepP n ws) (decide (ws.sum % 2 = 0), true)
/-- the law, told of the rests -/
def lawP (n : Nat) (rs : List Nat) : Bool :=
  (tiedP n (rs.map (1 + ·)) == (dtP n (sortA rs) n).1) && ((!((grownP (n - 1)).filter (overP n (rs.map (1 + ·)))).isEmpty) == (dtP n (sortA rs) n).1) &&
    (((grownP (n - 1)).filter (likeP (rs.map (1 + ·)))).length == if (dtP n (sortA rs) n).2 then 1 else 0)
theorem likeP_perm {ds ds' : List Nat} (h : ds.Perm ds') : likeP ds = likeP ds' := by
  funext g
  rw [likeP, likeP, leadQ_perm h]
theorem overP_perm {ds ds' : List Nat} (h : ds.Perm ds') (n : Nat) : overP n ds = overP n ds' := by
  funext g
  rw [overP, overP, leadQ_perm h]
  congr 1
  refine congrArg (fun f => (List.range n).all f) ?_
  funext j
  rw [leadQ_perm h]
theorem lawP_sort (n : Nat) (rs : List Nat) : lawP n (sortA rs) = lawP n rs := by
  have h : ((sortA rs).map (1 + ·)).Perm (rs.map (1 + ·)) := (sortA_perm rs).map _
  unfold lawP
  rw [tiedP_perm h, likeP_perm h, overP_perm h, ← sortA_eq (.refl _) (sortA_sorted rs)]
/-- the same, without the texts -/
def nC (ds : List Nat) (k : Nat) : Nat := (ds.map (· - k)).sum + ds.length
def likeC (ds : List Nat) (g : List Nat) : Bool := decide (g.foldl bump [] = ds.foldl bump [])
def overC (n : Nat) (ds : List Nat) (g : List Nat) : Bool := decide (nC g 0 = nC ds 0) && (List.range n).all fun j => decide (nC ds (j + 1) ≤ nC g (j + 1))
theorem like_C (ds : List Nat) : likeP ds = likeC ds := by
  funext g
  simp only [likeP, likeC, leadQ_eq, Nat.sub_zero, List.map_id', and_true]
theorem over_C (n : Nat) (ds : List Nat) : overP n ds = overC n ds := by
  funext g
  have e : ∀ (x : List Nat) (k : Nat), (leadQ x k).1 = nC x k := fun x k => by rw [leadQ_eq]; rfl
  unfold overP overC
  rw [e, e]
  congr 1
  refine congrArg (fun f => (List.range n).all f) ?_
  funext j
  rw [e, e]
def lawC (n : Nat) (rs : List Nat) : Bool :=
  (tiedP n (rs.map (1 + ·)) == (dtP n rs n).1) && ((!((grownP (n - 1)).filter (overC n (rs.map (1 + ·)))).isEmpty) == (dtP n rs n).1) &&
    (((grownP (n - 1)).filter (likeC (rs.map (1 + ·)))).length == if (dtP n rs n).2 then 1 else 0)
theorem law_C {n : Nat} {rs : List Nat} (h : rs.Pairwise (· ≤ ·)) : lawP n rs = lawC n rs := by
  unfold lawP lawC
  rw [like_C, over_C, ← sortA_eq (.refl _) h]
theorem law4 : ((List.range 4).all fun a => (List.range 4).all fun b => decide (b < a) || (List.range 4).all fun c => decide (c < b) || (List.range 4).all fun d => decide (d < c) || lawC 4 [a, b, c, d]) = true := by decide +kernel
theorem law5 : ((List.range 5).all fun a => (List.range 5).all fun b => decide (b < a) || (List.range 5).all fun c => decide (c < b) || (List.range 5).all fun d => decide (d < c) || (List.range 5).all fun e => decide (e < d) || lawC 5 [a, b, c, d, e]) = true := by decide +kernel
theorem all_lt {n : Nat} {q : Nat → Bool} (h : (List.range n).all q = true) {a : Nat} (ha : a < n) : q a = true := List.all_eq_true.mp h a (List.mem_range.mpr ha)
theorem or_le {a b : Nat} {q : Bool} (h : (decide (b < a) || q) = true) (hab : a ≤ b) : q = true := by
  rw [decide_eq_false (Nat.not_lt.mpr hab), Bool.false_or] at h
  exact h
theorem pure_law {n : Nat} (hn : n = 4 ∨ n = 5) {rs : List Nat} (hl : rs.length = n) (hr : ∀ r ∈ rs, r < n) : lawP n rs = true := by
  have hp := sortA_perm rs
  have hs := sortA_sorted rs
  rw [← lawP_sort]
  have hl' : (sortA rs).length = n := hp.length_eq.trans hl
  have hr' : ∀ r ∈ sortA rs, r < n := fun r h => hr r (hp.mem_iff.mp h)
  rw [law_C hs]
  generalize sortA rs = l at hs hl' hr'
  rcases hn with rfl | rfl
  · match l, hl', hs, hr' with
    | [a, b, c, d], _, hs, hr' =>
      simp only [List.pairwise_cons, List.mem_cons, List.not_mem_nil, or_false, forall_eq_or_imp, forall_eq] at hs hr'
      exact or_le (all_lt (or_le (all_lt (or_le (all_lt (all_lt law4 hr'.1) hr'.2.1) hs.1.1) hr'.2.2.1) hs.2.1.1) hr'.2.2.2) hs.2.2.1
  · match l, hl', hs, hr' with
    | [a, b, c, d, e], _, hs, hr' =>
      simp only [List.pairwise_cons, List.mem_cons, List.not_mem_nil, or_false, forall_eq_or_imp, forall_eq] at hs hr'
      exact or_le (all_lt (or_le (all_lt (or_le (all_lt (or_le (all_lt (all_lt law5 hr'.1) hr'.2.1) hs.1.1) hr'.2.2.1) hs.2.1.1) hr'.2.2.2.1) hs.2.2.1.1) hr'.2.2.2.2) hs.2.2.2.1
end Mine
end
section
open PySem PySem.W PySem.Spec PySem.Calls PyProof.Rows
namespace Mine
section
variable {prog : Program} {w : World} {A : Around} {E : Value → Shared → Prop} {env : Env}
def CompEC (prog : Program) (w : World) (A : Around) (env : Env) (scope : Scope) (cl : List (Str × Addr)) (x : Str) (c : Addr) (ifs : List Expr) (elt : Expr) (Inv : Addr → Nat → List Value → Heap → Prop) (Q : Flow → Shared → Prop) (xv : Value) (s₁ : Shared) : Prop :=
  ∃ n P v₀, SrcOK prog w A xv s₁ n P ∧ n ≤ sizeLine ∧ CompOK prog w A env scope cl x ifs elt Inv n P s₁ ∧ s₁.heap.IsCell c v₀ ∧
      ∀ D C h' tk ys, s₁.heap.objs.size ≤ D → D < C → h'.PlainList D ys.toArray → Inv C n ys h' → h'.IsCell c (some (.ref D)) →
        (∀ b o, b ≠ c → s₁.heap.get? b = some o → h'.get? b = some o) → Q .next { s₁ with heap := h', toks := tk }
/-- a comprehension assigned to a name that a cell holds -/
theorem compAc {s : Shared} {elt iter : Expr} {x y : Str} {px py : Pos} {ifs : List Expr} {scope : Scope} {cl : List (Str × Addr)} {pos spos : Pos} {c : Addr} {Q : Flow → Shared → Prop} (Inv : Addr → Nat → List Value → Heap → Prop)
    (hsw : swapsWith (.ListComp elt [⟨.Name x px, iter, ifs, 0⟩] scope pos) (some (.Name y py)) spos.line env = pure true)
    (hclos : closureFor scope env = pure cl) (hcell : ∀ y ∈ scope.names, y.2 ≠ .cell) (hkind : scope.kind = .function)
    (hnames : ∀ y ∈ scope.names, y.2 = .local → scope.names.lookup y.1 = some .local) (hx : scope.names.lookup x = some .local)
    (hy : env.kindOf y = some .cell) (hek : env.scope.kind = .function) (hc : env.cells.lookup y = some c)
    (h : wpAny (model prog w) A (eval iter env) (CompEC prog w A env scope cl x c ifs elt Inv Q) E s)
    (hs : ∀ x, foldedSetIterable iter env x = pure x) :
    wpAny (model prog w) A (exec (.Assign [.Name y py] (.ListComp elt [⟨.Name x px, iter, ifs, 0⟩] scope pos) spos) env) Q E s := by
  rw [exec_Assign_Name_used _ _ _ _ hsw]
  refine wpAny_bind (wpAny_standAt (wpAny_bind ?_))
  show wpAny _ A (do let _ ← comprehension (.ListComp elt [⟨.Name x px, iter, ifs, 0⟩] scope pos) scope env _ (newList []) false (eval iter env) (some (assign (.Name y py) env))) _ _ s
  refine wpAny_bind (wpAny_mono (wpAny_comprehension_free (Q := fun _ s' => Q .next s') rfl hs hclos hkind hnames (wpAny_mono h (fun xv s₁ h₁ => ?_) fun _ _ e => e)) (fun _ s' hq => wpAny_pure (wpAny_pure hq)) fun _ _ e => e)
  obtain ⟨n, P, v₀, src, hsz, ok, hv₀, fin⟩ := h₁
  refine src _ _ fun I fp wr St h₂ W hst hfp hwr hk₂ hle => ?_
  refine compBlock (RR := fun acc C => compPost (model prog w) A E (some (assign (.Name y py) env)) (fun _ s' => Q .next s') acc C) W hsz Inv hcell hkind hx hst hfp hwr hk₂ hle ok ?_
  intro D C h' tk m' ys hD hDC hn hl hI hk
  have hLs : c < s₁.heap.objs.size := IsCell.lt hv₀
  have hLD : c < D := Nat.lt_of_lt_of_le hLs hD
  have hLC : c < C := Nat.lt_trans hLD hDC
  refine wpAny_assign_Name (wpAny_storeName_cell hek hy hc (hv₀.keeps hk) fun h₃ hc₃ hs₃ => ?_)
  refine ⟨m', hn.sameBut hs₃ (Nat.ne_of_gt hLC), fun h₄ hs₄ => ?_⟩
  refine fin D C h₄ _ ys hD hDC ((hl.extBut hs₃.extBut (Nat.ne_of_gt hLD)).extBut hs₄.extBut (Nat.ne_of_lt hDC)) ?_ (hc₃.sameBut hs₄ (Nat.ne_of_lt hLC)) fun b o hbL e => hs₄.extBut b o ?_ (hs₃.extBut b o hbL (hk b o e))
  · exact ok.loc _ _ _ _ _ hI fun b o hb e => hs₄.extBut b o (Nat.ne_of_gt hb) (hs₃.extBut b o (Nat.ne_of_gt (Nat.lt_trans hLC hb)) e)
  · exact Nat.ne_of_lt (Nat.lt_trans (Nat.lt_of_lt_of_le (Heap.lt_size e) hD) hDC)
end
theorem ints_sorted {nums : List Int} {n : Nat} (hn : 0 < n) {wz : List Int} (pe : wz.Perm (nums.map fun (x : Int) => x % (n : Int))) (pw : wz.Pairwise (· ≤ ·)) : wz = (sortA (nums.map fun (x : Int) => (x % (n : Int)).toNat)).map fun (q : Nat) => (q : Int) := by
  have hpos : ∀ z ∈ wz, 0 ≤ z := fun z hz => by
    obtain ⟨x, _, rfl⟩ := List.mem_map.mp (pe.mem_iff.mp hz)
    exact Int.emod_nonneg _ (by omega)
  have hp2 : (wz.map Int.toNat).Perm (nums.map fun (x : Int) => (x % (n : Int)).toNat) := by
    have := pe.map Int.toNat
    rwa [List.map_map] at this
  have hs2 : (wz.map Int.toNat).Pairwise (· ≤ ·) := by
    rw [List.pairwise_map]
    exact pw.imp fun h => by omega
  rw [← sortA_eq hp2 hs2, List.map_map]
  conv => lhs; rw [← List.map_id wz]
  refine List.map_congr_left fun z hz => ?_
  have := hpos z hz
  simp only [id, Function.comp]
  omega
end Mine
end
section
open PySem PySem.W PySem.Spec PySem.Calls PyProof.Rows
namespace Mine
section
variable {prog : Program} {w : World} {A : Around} {s : Shared} {E : Value → Shared → Prop}
theorem ws_method {h₀ : Heap} {L : Addr} {m : Str → Option Value} {N : Nat} {v : Value} {q : WsSt} {pl : Sem Bool} {Q : Value × List Value → Shared → Prop} (F : Fr h₀ L s.heap m) (X : (hd.heap_39 w.params).In h₀) (W : WsAt w N s.heap v q) (h : Q (.ref 107, [v]) s) :
    wpAny (model prog w) A (getMethod v (Str.ofString "equal") pl) Q E s := by
  obtain ⟨x, dx, nm, ct, t1, t2, t3, t4, t5, t6, t7, t8, vr, cvs, sb, _, rfl, h1, h2, h3, h4, h5⟩ := W
  have I1 : InstAt s.heap x (instObj 131 dx) 131 (some _) := ⟨h1, rfl, rfl, h2⟩
  refine' method_inst F X I1 ?k4 ?k5 ?k6 ?k7 h
  case k4 => k_is
  case k5 => k_is
  case k6 => k_is
  case k7 => k_get
theorem ws_n {h₀ : Heap} {L : Addr} {m : Str → Option Value} {N : Nat} {v : Value} {q : WsSt} {expr : Bool} {Q : Value → Shared → Prop} (F : Fr h₀ L s.heap m) (X : (hd.heap_39 w.params).In h₀) (W : WsAt w N s.heap v q) (h : ∀ t, Q (.int q.1 t) { s with toks := s.toks + 1 }) :
    wpAny (model prog w) A (getAttr v (Str.ofString "n") expr) Q E s := by
  obtain ⟨x, dx, nm, ct, t1, t2, t3, t4, t5, t6, t7, t8, vr, cvs, sb, _, rfl, h1, h2, h3, h4, h5⟩ := W
  have I1 : InstAt s.heap x (instObj 131 dx) 131 (some _) := ⟨h1, rfl, rfl, h2⟩
  refine' get_own F X I1 ?k4 ?k5 ?k6 ?k7 ?k8 ?k9 (h t6)
  case k4 => k_is
  case k5 => k_is
  case k6 => k_is
  case k7 => k_is
  case k8 => k_get
  case k9 => k_handed
end
end Mine
end
section
open PySem PySem.W PySem.Spec PySem.Calls PyProof.Rows
namespace Mine
section
variable {prog : Program} {w : World} {A : Around} {R : Result → Shared → Prop} {s : Shared}
/-- a comprehension's loop whose own name lies in a cell -/
theorem compLoopK {elt iter : Expr} {x : Str} {px : Pos} {ifs : List Expr} {scope : Scope} {pos : Pos} {I D K : Addr} {fp wr : List Addr} {n : Nat} {P : Nat → Value → Prop} {St : Nat → Heap → Prop}
    {cenv : Env} {m : Str → Option Value} {cv : Option Value} (W : Walks prog w A I fp wr n P St) (hsz : n ≤ sizeLine) (Inv : Nat → List Value → Heap → Prop)
    (hx : cenv.kindOf x = some .cell) (hek : cenv.scope.kind = .function) (hck : cenv.cells.lookup x = some K)
    (hDC : D < cenv.locals) (hCK : cenv.locals < K) (hDf : D ∉ fp) (hCf : ∀ b ∈ fp, b < cenv.locals)
    (hst : St 0 s.heap) (hacc : s.heap.PlainList D #[]) (hn : s.heap.Ns cenv.locals m) (hcv : s.heap.IsCell K cv) (h0 : Inv 0 [] s.heap)
    (hlen : ∀ i ys h, Inv i ys h → ys.length ≤ i)
    (hloc : ∀ i ys h h', Inv i ys h → (∀ b o, K < b → h.get? b = some o → h'.get? b = some o) → Inv i ys h')
    (hel : ∀ i v ys s₂, i < n → P i v → Inv i ys s₂.heap → s₂.heap.Ns cenv.locals m → s₂.heap.IsCell K (some v) → (∀ b o, b ≠ K → b ∉ wr → b ≠ D → s.heap.get? b = some o → s₂.heap.get? b = some o) →
      (∃ h tk, s₂ = { s with heap := h, toks := tk } ∧ s.toks ≤ tk) → wpAny (model prog w) A (testsOf ifs cenv) (EndTs prog w A cenv elt s₂ Inv (i + 1) ys) (fun _ _ => False) s₂)
    (hR : ∀ h' tk ys, h'.Ns cenv.locals m → h'.PlainList D ys.toArray → Inv n ys h' →
      (∀ b o, b ≠ K → b ∉ wr → b ≠ D → s.heap.get? b = some o → h'.get? b = some o) → R (.ok .next) { s with heap := h', toks := tk }) :
    codeAny (model prog w) A (.compLoop (.ListComp elt [⟨.Name x px, iter, ifs, 0⟩] scope pos) 0 (.ref I) (.ref D) cenv) R s := by
  have hDne : D ≠ cenv.locals := Nat.ne_of_lt hDC
  have hDK : D ≠ K := Nat.ne_of_lt (Nat.lt_trans hDC hCK)
  have hCf' : cenv.locals ∉ fp := fun h => Nat.lt_irrefl _ (hCf _ h)
  have hKf' : K ∉ fp := fun h => Nat.lt_asymm hCK (hCf _ h)
  have hCw : cenv.locals ∉ wr := fun h => hCf' (W.sub _ h)
  have hKw : K ∉ wr := fun h => hKf' (W.sub _ h)
  have hDw : D ∉ wr := fun h => hDf (W.sub _ h)
  refine codeAny_compLoop_tests
    (fun k s' => ∃ h' tk ys i cv', s' = { s with heap := h', toks := tk } ∧ St i h' ∧ h'.PlainList D ys.toArray ∧ h'.Ns cenv.locals m ∧ h'.IsCell K cv' ∧ Inv i ys h' ∧ i ≤ n ∧ k = n + 1 - i ∧
      (∀ b o, b ≠ K → b ∉ wr → b ≠ D → s.heap.get? b = some o → h'.get? b = some o) ∧ s.toks ≤ tk) ?_ (n + 1)
    ⟨s.heap, s.toks, [], 0, cv, rfl, hst, hacc, hn, hcv, h0, Nat.zero_le _, rfl, fun _ _ _ _ _ e => e, Nat.le_refl _⟩
  rintro k s' ⟨H, tk, ys, i, cv', rfl, hst', hacc', hn', hcv', hI, hi, rfl, hk, htk⟩
  have gt : ∀ b : Nat, K < b → b ≠ K ∧ b ∉ fp ∧ b ≠ D := fun b hb => ⟨Nat.ne_of_gt hb, fun h => Nat.lt_asymm (Nat.lt_trans hCK hb) (hCf _ h), Nat.ne_of_gt (Nat.lt_trans (Nat.lt_trans hDC hCK) hb)⟩
  by_cases hlt : i < n
  · refine wpAny_with_toks (n := s.toks) htk (W.item i _ _ _ hlt hst' fun v h₁ tk₁ hPv hst₁ hk₁ htk₁ => ?_)
    refine wpAny_assign_Name (wpAny_storeName_cell hek hx hck (IsCell.at hcv' fun o e => hk₁ _ o hKw e) fun h₂ hc₂ hs₂ => ?_)
    have up₂ : ∀ b o, b ≠ K → b ∉ wr → H.get? b = some o → h₂.get? b = some o := fun b o hbC hbf e => hs₂.extBut b o hbC (hk₁ b o hbf e)
    have hst₂ : St (i + 1) h₂ := W.frame _ _ _ hst₁ fun b hb o e => hs₂.extBut b o (fun h => hKf' (h ▸ hb)) e
    have hI₂ : Inv i ys h₂ := hloc _ _ _ _ hI fun b o hb e => up₂ b o (gt b hb).1 (fun q => (gt b hb).2.1 (W.sub _ q)) e
    have hn₂ : h₂.Ns cenv.locals m := hn'.at' fun o e => up₂ _ o (Nat.ne_of_lt hCK) hCw e
    refine wpAny_mono (wpAny_toks_of (n := s.toks) htk₁ (hel i v ys _ hlt hPv hI₂ hn₂ hc₂ (fun b o hbC hbf hbD e => up₂ b o hbC hbf (hk b o hbC hbf hbD e)) ⟨_, _, rfl, htk₁⟩)) (fun ok s₃ h₃ => ?_) fun _ _ e => e.2.elim
    obtain ⟨htk₃, ⟨h₃', tk₃, rfl, hk₃⟩, h₃⟩ := h₃
    have hst₃ : St (i + 1) h₃' := W.frame _ _ _ hst₂ fun b _ o e => hk₃ b o e
    have hacc₃ : h₃'.PlainList D ys.toArray := hacc'.at fun o e => hk₃ _ o (up₂ D o hDK hDw e)
    have hn₃ := hn₂.keeps hk₃
    have hc₃ := hc₂.keeps hk₃
    cases ok with
    | false =>
      simp only [Bool.false_eq_true, if_false] at h₃ ⊢
      exact ⟨n + 1 - (i + 1), by omega, h₃', tk₃, ys, i + 1, _, rfl, hst₃, hacc₃, hn₃, hc₃, h₃, hlt, rfl, fun b o hbC hbf hbD e => hk₃ b o (up₂ b o hbC hbf (hk b o hbC hbf hbD e)), htk₃⟩
    | true =>
      simp only [if_true] at h₃ ⊢
      refine wpAny_mono (wpAny_toks_of (n := s.toks) htk₃ h₃) (fun y s₄ h₄ => ?_) fun _ _ e => e.2.elim
      obtain ⟨htk₄, ⟨h₄', tk₄, rfl, hk₄⟩, hI₄⟩ := h₄
      have hys : ys.toArray.size ≤ sizeLine := by
        rw [List.size_toArray]
        have := hlen _ _ _ hI
        omega
      refine wpAny_list_append_plain (hsz := hys) (hacc₃.at fun o e => hk₄ _ o e) fun h₅ hl₅ hs₅ => ?_
      refine ⟨n + 1 - (i + 1), by omega, h₅, tk₄, ys ++ [y], i + 1, _, rfl, ?_, ?_, (hn₃.keeps hk₄).sameBut hs₅ (Ne.symm hDne), (hc₃.keeps hk₄).sameBut hs₅ (Ne.symm hDK), ?_, hlt, rfl, fun b o hbC hbf hbD e => hs₅.extBut b o hbD (hk₄ b o (hk₃ b o (up₂ b o hbC hbf (hk b o hbC hbf hbD e)))), htk₄⟩
      · exact W.frame _ _ h₅ hst₃ fun b hb o e => hs₅.extBut b o (fun h => hDf (h ▸ hb)) (hk₄ b o e)
      · simpa using hl₅
      · exact hloc _ _ _ _ hI₄ fun b o hb e => hs₅.extBut b o (gt b hb).2.2 e
  · have hin : i = n := by omega
    subst hin
    refine W.done _ _ _ hst' fun h₁ tk₁ hk₁ => ?_
    refine hR h₁ tk₁ ys (hn'.at' fun o e => hk₁ _ o hCw e) (hacc'.at fun o e => hk₁ _ o hDw e) ?_ fun b o hbC hbf hbD e => hk₁ b o hbf (hk b o hbC hbf hbD e)
    exact hloc _ _ _ _ hI fun b o hb e => hk₁ b o (fun q => (gt b hb).2.1 (W.sub _ q)) e
end

structure CompOKK (prog : Program) (w : World) (A : Around) (env : Env) (scope : Scope) (cl : List (Str × Addr)) (x : Str) (ifs : List Expr) (elt : Expr) (Inv : Addr → Nat → List Value → Heap → Prop) (n : Nat) (P : Nat → Value → Prop) (s₁ : Shared) : Prop where
  start : ∀ K h, Inv K 0 [] h
  len : ∀ K i ys h, Inv K i ys h → ys.length ≤ i
  loc : ∀ K i ys h h', Inv K i ys h → (∀ b o, K < b → h.get? b = some o → h'.get? b = some o) → Inv K i ys h'
  el : ∀ C i v ys s', i < n → P i v → Inv (C + 1) i ys s'.heap → Fr s₁.heap C s'.heap (fun _ => none) → s'.heap.IsCell (C + 1) (some v) → (∃ h tk, s' = { s₁ with heap := h, toks := tk } ∧ s₁.toks ≤ tk) →
    wpAny (model prog w) A (testsOf ifs (compEnvC scope ((x, C + 1) :: cl) C env)) (EndTs prog w A (compEnvC scope ((x, C + 1) :: cl) C env) elt s' (Inv (C + 1)) (i + 1) ys) (fun _ _ => False) s'

section
variable {prog : Program} {w : World} {A : Around} {E : Value → Shared → Prop} {env : Env}
theorem compBlockK {elt iter : Expr} {x : Str} {px : Pos} {ifs : List Expr} {scope : Scope} {cl : List (Str × Addr)} {pos : Pos} {s₁ : Shared} {h₂ : Heap} {I : Addr} {fp wr : List Addr} {n : Nat} {P : Nat → Value → Prop}
    {St : Nat → Heap → Prop} (W : Walks prog w A I fp wr n P St) (hsz : n ≤ sizeLine) (Inv : Addr → Nat → List Value → Heap → Prop) {RR : Value → Addr → Result → Shared → Prop}
    (hcf : ∀ (n : Nat) acc, cellsFrom n scope.names acc = (x, n) :: acc) (hpc : ∀ h, pushCells h scope.names = h.push { cls := .type "cell", data := .cell none })
    (hkind : scope.kind = .function) (hx : ∀ K C, (compEnvC scope ((x, K) :: cl) C env).kindOf x = some .cell) (hst : St 0 h₂) (hfp : ∀ b ∈ fp, b < h₂.objs.size) (hwr : ∀ b ∈ wr, s₁.heap.objs.size ≤ b)
    (hk₂ : s₁.heap.StaysIn h₂) (hle : s₁.heap.objs.size ≤ h₂.objs.size)
    (ok : CompOKK prog w A env scope cl x ifs elt Inv n P s₁)
    (hRR : ∀ D C h' tk m' ys, s₁.heap.objs.size ≤ D → D < C → h'.Ns C m' → h'.PlainList D ys.toArray → Inv (C + 1) n ys h' → s₁.heap.StaysIn h' → RR (.ref D) C (.ok .next) { s₁ with heap := h', toks := tk }) :
    wpAny (model prog w) A (newList []) (fun acc s₃ => wpAny (model prog w) A (newFunctionEnv scope env.globals cl [] env.qual none .none (some env)) (fun cenv s₄ =>
      codeAny (model prog w) A (.compStart (.ListComp elt [⟨.Name x px, iter, ifs, 0⟩] scope pos) 0 (.ref I) acc { cenv with scope := relabel scope env }) (RR acc cenv.locals) s₄) E s₃) E { s₁ with heap := h₂ } := by
  refine wpAny_newObj_type ?_
  dsimp only
  generalize hH2 : h₂.push { cls := .type "list", dict := none, data := .seq ([] : List Value).toArray } = H2
  have hC : H2.objs.size = h₂.objs.size + 1 := by rw [← hH2, Heap.size_push]
  have hDC : h₂.objs.size < H2.objs.size := by rw [hC]; exact Nat.lt_succ_self _
  simp only [newFunctionEnv, Option.isSome_some, if_true]
  refine wpAny_bind (wpAny_alloc ?_)
  refine wpAny_bind (wpAny_layCells _ (fun name kind cells => by cases hkc : kind == NameKind.cell <;> simp [hkc]) _ _ _ _ ?_)
  rw [hcf]
  refine wpAny_bind (wpAny_pure (wpAny_pure ?_))
  dsimp only
  rw [hpc]
  generalize hH3 : H2.push { cls := .type "dict", data := .dict #[] } = H3
  have hK : H3.objs.size = H2.objs.size + 1 := by rw [← hH3, Heap.size_push]
  rw [hK]
  generalize hH4 : H3.push { cls := .type "cell", data := .cell none } = h₁
  have old2 : ∀ b o, H2.get? b = some o → h₁.get? b = some o := fun b o e => by
    rw [← hH4, ← hH3]
    exact Heap.get?_push_of_some _ (Heap.get?_push_of_some _ e)
  have old : ∀ b o, h₂.get? b = some o → h₁.get? b = some o := fun b o e => old2 b o (hH2 ▸ Heap.get?_push_of_some _ e)
  have hns₁ : h₁.Ns H2.objs.size fun _ => none := by
    have := Heap.Ns.new H2 (.type "dict")
    rw [hH3] at this
    exact this.keeps fun b o e => hH4 ▸ Heap.get?_push_of_some _ e
  have hcv₁ : h₁.IsCell (H2.objs.size + 1) none := by
    have := Heap.get?_push_size H3 (o := { cls := .type "cell", data := .cell none }) rfl
    rw [hH4, hK] at this
    exact ⟨_, this, rfl⟩
  have hDf : h₂.objs.size ∉ fp := fun hm => Nat.lt_irrefl _ (hfp _ hm)
  have hacc : h₁.PlainList h₂.objs.size #[] := ⟨_, old2 _ _ (hH2 ▸ Heap.get?_push_size _ rfl)⟩
  have hst₁ : St 0 h₁ := W.frame _ _ _ hst fun b _ o e => old b o e
  have kept : ∀ h', (∀ b o, b ≠ H2.objs.size + 1 → b ∉ wr → b ≠ h₂.objs.size → h₁.get? b = some o → h'.get? b = some o) → s₁.heap.StaysIn h' := fun h' hk b o e => by
    have hb := Heap.lt_size e
    exact hk b o (Nat.ne_of_lt (Nat.lt_succ_of_lt (Nat.lt_of_lt_of_le hb (Nat.le_trans hle (Nat.le_of_lt hDC))))) (fun q => Nat.lt_irrefl _ (Nat.lt_of_lt_of_le hb (hwr b q))) (Nat.ne_of_lt (Nat.lt_of_lt_of_le hb hle)) (old b o (hk₂ b o e))
  have loop : codeAny (model prog w) A (.compLoop (.ListComp elt [⟨.Name x px, iter, ifs, 0⟩] scope pos) 0 (.ref I) (.ref h₂.objs.size) (compEnvC scope ((x, H2.objs.size + 1) :: cl) H2.objs.size env))
        (RR (.ref h₂.objs.size) H2.objs.size) { s₁ with heap := h₁ } := by
    refine compLoopK (s := { s₁ with heap := h₁ }) (cenv := compEnvC scope ((x, H2.objs.size + 1) :: cl) H2.objs.size env) (K := H2.objs.size + 1) (m := fun _ => none) W hsz (Inv (H2.objs.size + 1)) (hx _ _) (by simp [compEnvC, relabel, hkind]) (by simp [compEnvC]) hDC (Nat.lt_succ_self _) hDf (fun b hb => Nat.lt_trans (hfp b hb) hDC) hst₁ hacc hns₁ hcv₁ (ok.start _ _)
      (ok.len _) (ok.loc _) (fun i v ys s₂ hi hv hI hn hm hk hs => ?_) fun h' tk ys hn hl hI hk => ?_
    · obtain ⟨h, tk, rfl, htk⟩ := hs
      exact ok.el _ i v ys _ hi hv hI ⟨hn, kept _ hk, Nat.le_trans hle (Nat.le_of_lt hDC)⟩ hm ⟨_, _, rfl, htk⟩
    · exact hRR _ _ h' tk _ ys hle hDC hn hl hI (kept h' hk)
  exact codeAny_compStart_list loop (W.self 0 _ _ _ hst₁ loop)
def CompEK (prog : Program) (w : World) (A : Around) (env : Env) (scope : Scope) (cl : List (Str × Addr)) (x y : Str) (ifs : List Expr) (elt : Expr) (Inv : Addr → Nat → List Value → Heap → Prop) (Q : Flow → Shared → Prop) (xv : Value) (s₁ : Shared) : Prop :=
  ∃ n P m, SrcOK prog w A xv s₁ n P ∧ n ≤ sizeLine ∧ CompOKK prog w A env scope cl x ifs elt Inv n P s₁ ∧ s₁.heap.Ns env.locals m ∧
      ∀ D C h' tk ys, s₁.heap.objs.size ≤ D → D < C → h'.PlainList D ys.toArray → Inv (C + 1) n ys h' → h'.Ns env.locals (fun z => if z = y then some (.ref D) else m z) →
        (∀ b o, b ≠ env.locals → s₁.heap.get? b = some o → h'.get? b = some o) → Q .next { s₁ with heap := h', toks := tk }
theorem compAK {s : Shared} {elt iter : Expr} {x y : Str} {px py : Pos} {ifs : List Expr} {scope : Scope} {cl : List (Str × Addr)} {pos spos : Pos} {Q : Flow → Shared → Prop} (Inv : Addr → Nat → List Value → Heap → Prop)
    (hsw : swapsWith (.ListComp elt [⟨.Name x px, iter, ifs, 0⟩] scope pos) (some (.Name y py)) spos.line env = pure true)
    (hclos : closureFor scope env = pure cl) (hcf : ∀ (n : Nat) acc, cellsFrom n scope.names acc = (x, n) :: acc) (hpc : ∀ h, pushCells h scope.names = h.push { cls := .type "cell", data := .cell none }) (hkind : scope.kind = .function)
    (hnames : ∀ y ∈ scope.names, y.2 = .local → scope.names.lookup y.1 = some .local) (hx : ∀ K C, (compEnvC scope ((x, K) :: cl) C env).kindOf x = some .cell)
    (hy : env.kindOf y = some .local) (hp : (env.scope.kind == .class || (env.scope.kind == .module && env.locals != env.globals)) = false)
    (h : wpAny (model prog w) A (eval iter env) (CompEK prog w A env scope cl x y ifs elt Inv Q) E s)
    (hs : ∀ x, foldedSetIterable iter env x = pure x) :
    wpAny (model prog w) A (exec (.Assign [.Name y py] (.ListComp elt [⟨.Name x px, iter, ifs, 0⟩] scope pos) spos) env) Q E s := by
  rw [exec_Assign_Name_used _ _ _ _ hsw]
  refine wpAny_bind (wpAny_standAt (wpAny_bind ?_))
  show wpAny _ A (do let _ ← comprehension (.ListComp elt [⟨.Name x px, iter, ifs, 0⟩] scope pos) scope env _ (newList []) false (eval iter env) (some (assign (.Name y py) env))) _ _ s
  refine wpAny_bind (wpAny_mono (wpAny_comprehension_free (Q := fun _ s' => Q .next s') rfl hs hclos hkind hnames (wpAny_mono h (fun xv s₁ h₁ => ?_) fun _ _ e => e)) (fun _ s' hq => wpAny_pure (wpAny_pure hq)) fun _ _ e => e)
  obtain ⟨n, P, m, src, hsz, ok, hn₁, fin⟩ := h₁
  refine src _ _ fun I fp wr St h₂ W hst hfp hwr hk₂ hle => ?_
  refine compBlockK (RR := fun acc C => compPost (model prog w) A E (some (assign (.Name y py) env)) (fun _ s' => Q .next s') acc C) W hsz Inv hcf hpc hkind hx hst hfp hwr hk₂ hle ok ?_
  intro D C h' tk m' ys hD hDC hn hl hI hk
  have hLs : env.locals < s₁.heap.objs.size := by obtain ⟨o, _, _, ho, _⟩ := hn₁; exact Heap.lt_size ho
  have hLD : env.locals < D := Nat.lt_of_lt_of_le hLs hD
  have hLC : env.locals < C := Nat.lt_trans hLD hDC
  refine wpAny_assign_Name (wpAny_storeName_local hy (hn₁.keeps hk) (fun h₃ hn₃ hs₃ => ?_) hp)
  refine ⟨m', hn.sameBut hs₃ (Nat.ne_of_gt hLC), fun h₄ hs₄ => ?_⟩
  refine fin D C h₄ _ ys hD hDC ((hl.extBut hs₃.extBut (Nat.ne_of_gt hLD)).extBut hs₄.extBut (Nat.ne_of_lt hDC)) ?_ (hn₃.sameBut hs₄ (Nat.ne_of_lt hLC)) fun b o hbL e => hs₄.extBut b o ?_ (hs₃.extBut b o hbL (hk b o e))
  · exact ok.loc _ _ _ _ _ hI fun b o hb e => hs₄.extBut b o (Nat.ne_of_gt (Nat.lt_of_succ_lt hb)) (hs₃.extBut b o (Nat.ne_of_gt (Nat.lt_trans hLC (Nat.lt_of_succ_lt hb))) e)
  · exact Nat.ne_of_lt (Nat.lt_trans (Nat.lt_of_lt_of_le (Heap.lt_size e) hD) hDC)
end
theorem eqGives_bool (a b : Bool) : MeetsSeq.EqGives (.bool a) (.bool b) (a == b) := by
  intro prog w A E s Q h
  unfold eqBool
  show wpAny _ _ (if (Value.bool a == Value.bool b) = true then _ else _) Q E s
  by_cases hab : (Value.bool a == Value.bool b) = true
  · rw [if_pos hab]
    have e : a = b := by have := eq_of_beq hab; injection this
    subst e
    exact wpAny_bind (wpAny_rule (wpAny_pure (by simpa using h)))
  · rw [if_neg hab]
    exact wpAny_bind (eq_bool (wpAny_truthy_bool (by simpa using h)))
def isFalse' : Value → Bool
  | .bool b => b == false
  | _ => false
theorem notin_bools {prog : Program} {w : World} {A : Around} {E : Value → Shared → Prop} {s : Shared} {l : Addr} {bs : List Bool} {Q : Value → Shared → Prop} (hl : s.heap.IsList l (bs.map Value.bool).toArray) (h : Q (.bool (bs.all id)) s) :
    wpAny (model prog w) A (compareOp .NotIn (.bool false) (.ref l)) Q E s := by
  refine SeqInW.notIn_listW isFalse' (fun y hy => ?_) hl ?_
  · rw [List.mem_toArray] at hy
    obtain ⟨b, _, rfl⟩ := List.mem_map.mp hy
    exact eqGives_bool b false
  · have e : (!((bs.map Value.bool).toArray.any isFalse')) = bs.all id := by
      rw [← Array.any_toList]
      show (!((bs.map Value.bool).any isFalse')) = _
      clear hl h
      induction bs with
      | nil => rfl
      | cons b r ih => cases b with
        | false => rfl
        | true => exact ih
    rw [e]
    exact h
theorem filter_take {α : Type} {G : List α} {q : α → Bool} {j : Nat} {g : α} (hg : G[j]? = some g) : (G.take (j + 1)).filter q = (G.take j).filter q ++ if q g = true then [g] else [] := by
  rw [List.take_add_one, hg, List.filter_append]
  by_cases h : q g = true <;> simp [h]
end Mine
end
section
open PySem PySem.W PySem.Spec PySem.Calls PyProof.Rows
namespace Mine
def sizeOf' (ns : List Int) : Nat := if ns.length < 4 then 4 else 5
def numsOf (ns : List Int) : List Int := (ns ++ ([6, 2, 2, 10, 4] : List Int).drop ns.length).take (sizeOf' ns)
structure Cells6 (L : Addr) (h : Heap) (v1 v2 v3 v4 v5 v6 : Option Value) : Prop where
  c1 : h.IsCell (L + 1) v1
  c2 : h.IsCell (L + 2) v2
  c3 : h.IsCell (L + 3) v3
  c4 : h.IsCell (L + 4) v4
  c5 : h.IsCell (L + 5) v5
  c6 : h.IsCell (L + 6) v6
theorem Cells6.keeps {L : Addr} {h h' : Heap} {v1 v2 v3 v4 v5 v6 : Option Value} (x : Cells6 L h v1 v2 v3 v4 v5 v6) (hk : ∀ b o, b ≠ L → h.get? b = some o → h'.get? b = some o) : Cells6 L h' v1 v2 v3 v4 v5 v6 :=
  ⟨IsCell.at x.c1 fun o => hk _ o (neN (by omega)), IsCell.at x.c2 fun o => hk _ o (neN (by omega)), IsCell.at x.c3 fun o => hk _ o (neN (by omega)), IsCell.at x.c4 fun o => hk _ o (neN (by omega)), IsCell.at x.c5 fun o => hk _ o (neN (by omega)), IsCell.at x.c6 fun o => hk _ o (neN (by omega))⟩
theorem Cells6.set1 {L : Addr} {h h' : Heap} {v1 v1' v2 v3 v4 v5 v6 : Option Value} (x : Cells6 L h v1 v2 v3 v4 v5 v6) (hc : h'.IsCell (L + 1) v1') (hs : Heap.SameBut (L + 1) h h') : Cells6 L h' v1' v2 v3 v4 v5 v6 :=
  ⟨hc, x.c2.sameBut hs (neN (by omega)), x.c3.sameBut hs (neN (by omega)), x.c4.sameBut hs (neN (by omega)), x.c5.sameBut hs (neN (by omega)), x.c6.sameBut hs (neN (by omega))⟩
theorem Cells6.set2 {L : Addr} {h h' : Heap} {v1 v2' v2 v3 v4 v5 v6 : Option Value} (x : Cells6 L h v1 v2 v3 v4 v5 v6) (hc : h'.IsCell (L + 2) v2') (hs : Heap.SameBut (L + 2) h h') : Cells6 L h' v1 v2' v3 v4 v5 v6 :=
  ⟨x.c1.sameBut hs (neN (by omega)), hc, x.c3.sameBut hs (neN (by omega)), x.c4.sameBut hs (neN (by omega)), x.c5.sameBut hs (neN (by omega)), x.c6.sameBut hs (neN (by omega))⟩
theorem Cells6.set3 {L : Addr} {h h' : Heap} {v1 v3' v2 v3 v4 v5 v6 : Option Value} (x : Cells6 L h v1 v2 v3 v4 v5 v6) (hc : h'.IsCell (L + 3) v3') (hs : Heap.SameBut (L + 3) h h') : Cells6 L h' v1 v2 v3' v4 v5 v6 :=
  ⟨x.c1.sameBut hs (neN (by omega)), x.c2.sameBut hs (neN (by omega)), hc, x.c4.sameBut hs (neN (by omega)), x.c5.sameBut hs (neN (by omega)), x.c6.sameBut hs (neN (by omega))⟩
theorem Cells6.set4 {L : Addr} {h h' : Heap} {v1 v4' v2 v3 v4 v5 v6 : Option Value} (x : Cells6 L h v1 v2 v3 v4 v5 v6) (hc : h'.IsCell (L + 4) v4') (hs : Heap.SameBut (L + 4) h h') : Cells6 L h' v1 v2 v3 v4' v5 v6 :=
  ⟨x.c1.sameBut hs (neN (by omega)), x.c2.sameBut hs (neN (by omega)), x.c3.sameBut hs (neN (by omega)), hc, x.c5.sameBut hs (neN (by omega)), x.c6.sameBut hs (neN (by omega))⟩
theorem Cells6.set5 {L : Addr} {h h' : Heap} {v1 v5' v2 v3 v4 v5 v6 : Option Value} (x : Cells6 L h v1 v2 v3 v4 v5 v6) (hc : h'.IsCell (L + 5) v5') (hs : Heap.SameBut (L + 5) h h') : Cells6 L h' v1 v2 v3 v4 v5' v6 :=
  ⟨x.c1.sameBut hs (neN (by omega)), x.c2.sameBut hs (neN (by omega)), x.c3.sameBut hs (neN (by omega)), x.c4.sameBut hs (neN (by omega)), hc, x.c6.sameBut hs (neN (by omega))⟩
theorem Cells6.set6 {L : Addr} {h h' : Heap} {v1 v6' v2 v3 v4 v5 v6 : Option Value} (x : Cells6 L h v1 v2 v3 v4 v5 v6) (hc : h'.IsCell (L + 6) v6') (hs : Heap.SameBut (L + 6) h h') : Cells6 L h' v1 v2 v3 v4 v5 v6' :=
  ⟨x.c1.sameBut hs (neN (by omega)), x.c2.sameBut hs (neN (by omega)), x.c3.sameBut hs (neN (by omega)), x.c4.sameBut hs (neN (by omega)), x.c5.sameBut hs (neN (by omega)), hc⟩
theorem ints_get : ∀ {vs : List Value} {ns : List Int}, IntsAre vs ns → ∀ {i : Nat} {v : Value}, vs[i]? = some v → ∃ k t, ns[i]? = some k ∧ v = .int k t
  | _, _, .nil, _, _, h => by simp at h
  | _, _, .cons k t r, 0, v, h => by simp at h; exact ⟨k, t, rfl, h.symm⟩
  | _, _, .cons k t r, i + 1, v, h => by
    simp at h
    obtain ⟨z, u, h1, h2⟩ := ints_get r h
    exact ⟨z, u, by simpa using h1, h2⟩
theorem ints_snoc {vs : List Value} {ns : List Int} {k : Int} {t : Tok} (h : IntsAre vs ns) : IntsAre (vs ++ [.int k t]) (ns ++ [k]) := h.append (.cons k t .nil)
theorem isListM {g h : Heap} {L a : Addr} {news : List (Addr × Obj)} {o : Obj} {xs : Array Value} {n : Nat} (hm : (a, o) ∈ news) (hc : o.cls = .type "list") (hd : o.data = .seq xs n) (N : News g L h news) : h.IsList a xs := ⟨o, (N _ hm).1, hc, n, hd⟩
theorem preSum_take (ns : List Int) : ∀ n, n ≤ ns.length → preSum (fun i => ns.getD i 0) n = (ns.take n).sum
  | 0, _ => by simp [preSum]
  | n + 1, h => by
    have e : ns[n]? = some (ns[n]'(by omega)) := List.getElem?_eq_getElem (by omega)
    rw [List.take_add_one, e, preSum, preSum_take ns n (by omega), List.sum_append]
    simp [List.getD_eq_getElem?_getD, e]
theorem sum_raw {prog : Program} {w : World} {A : Around} {E : Value → Shared → Prop} {s : Shared} {l : Addr} {vs : List Value} {ns : List Int} {Q : Value → Shared → Prop} (hh : A.handled = none) (hl : s.heap.IsList l vs.toArray) (hi : IntsAre vs ns)
    (h : ∀ h' tk t', s.heap.StaysIn h' → Q (.int ns.sum t') { s with heap := h', toks := tk }) : wpAny (model prog w) A (call (.builtin "sum") [.ref l]) Q E s := by
  refine call_sum_walkG ?_
  refine srcList (A := A.in1) hh hl _ _ fun I fp wr St h₂ W st hfp hwr hk hle => ?_
  refine ⟨I, fp, wr, vs.length, _, St, fun i => ns.getD i 0, rfl, W, st, hfp, ?_, ?_⟩
  · intro i v hv
    obtain ⟨k, t, hk, rfl⟩ := ints_get hi hv
    exact ⟨t, by simp [List.getD_eq_getElem?_getD, hk]⟩
  · intro h' tk t' hk'
    rw [preSum_take ns _ (Nat.le_of_eq hi.length), hi.length, List.take_length]
    refine h h' tk t' fun b o ho => hk' b o (fun hb => ?_) (hk b o ho)
    exact Nat.lt_irrefl _ (Nat.lt_of_lt_of_le (Heap.lt_size ho) (hwr b hb))
theorem end_pick (z : Int) (u1 u2 u3 : Tok) : ∃ j e te, seqIndex? (z.fmod 3) 3 = some j ∧ ([Value.str (Str.ofString "\n") u1, .str (Str.ofString "\r") u2, .str (Str.ofString "\r\n") u3] : List Value)[j]? = some (.str e te) ∧ e.cps.toList ∈ endsL := by
  have e := Int.fmod_eq_emod_of_nonneg z (show (0 : Int) ≤ 3 by decide)
  have h1 := Int.emod_nonneg z (show (3 : Int) ≠ 0 by decide)
  have h2 := Int.emod_lt_of_pos z (show (0 : Int) < 3 by decide)
  rw [e]
  generalize z % 3 = k at h1 h2
  obtain rfl | rfl | rfl : k = 0 ∨ k = 1 ∨ k = 2 := by omega
  · exact ⟨0, _, _, rfl, rfl, by decide +kernel⟩
  · exact ⟨1, _, _, rfl, rfl, by decide +kernel⟩
  · exact ⟨2, _, _, rfl, rfl, by decide +kernel⟩
theorem mul_row2 : ∀ r : Nat, r < 8 → Txt.mul (Str.ofString ".") (1 + (r : Int)) ++ Str.ofString "a" = row (1 + r) ∧ (Txt.mul (Str.ofString ".") (1 + (r : Int))).length ≤ 8 := by decide +kernel
theorem snocAll {R : Nat → Value → Prop} {ys : List Value} {v : Value} {j : Nat} (hl : ys.length = j) (h : ∀ i v, ys[i]? = some v → R i v) (hv : R j v) : ∀ i v', (ys ++ [v])[i]? = some v' → R i v' := by
  intro i v' e
  by_cases hi : i < ys.length
  · rw [List.getElem?_append_left hi] at e
    exact h i v' e
  · rw [List.getElem?_append_right (by omega)] at e
    have hij : i = j := by
      cases hk : i - ys.length with
      | zero => omega
      | succ q => rw [hk] at e; simp at e
    subst hij
    rw [hl, Nat.sub_self] at e
    simp at e
    exact e ▸ hv
theorem grown_len5 : ∀ i < 5, ∀ pg ∈ grownP i, pg.length = i + 1 ∧ ∀ d ∈ pg, d < 8 := by decide +kernel
theorem sum_cast : ∀ l : List Nat, (l.map fun (q : Nat) => (q : Int)).sum = (l.sum : Nat)
  | [] => rfl
  | a :: r => by
    have := sum_cast r
    simp only [List.map_cons, List.sum_cons] at this ⊢
    omega
theorem due_cast (l : List Nat) : ((l.map fun (q : Nat) => (q : Int)).sum.fmod 2 == 0) = decide (l.sum % 2 = 0) := by
  rw [sum_cast, Int.fmod_eq_emod_of_nonneg _ (by decide), Bool.eq_iff_iff, beq_iff_eq, decide_eq_true_eq]
  omega
theorem pick_fromS (r : List Value) (a b : Nat) (h : b ≤ a) : kms_pick r (some ((a : Int) - (b : Int))) none = r.drop (a - b) := by
  rw [show ((a : Int) - (b : Int)) = ((a - b : Nat) : Int) by omega]
  exact pick_from r _
theorem pick_upS (r : List Value) (a b : Nat) (h : b ≤ a) : kms_pick r none (some ((a : Int) - (b : Int))) = r.take (a - b) := by
  rw [show ((a : Int) - (b : Int)) = ((a - b : Nat) : Int) by omega]
  exact pick_up r _
theorem dtP_succ (n : Nat) (W : List Nat) (i : Nat) : dtP n W (i + 1) = stepP n W (dtP n W i) i := by
  unfold dtP
  rw [List.range_succ, List.foldl_append]
  rfl
theorem cast_le (a b : Nat) : decide ((a : Int) ≤ (b : Int)) = decide (a ≤ b) := by
  by_cases h : a ≤ b
  · rw [decide_eq_true h, decide_eq_true (Int.ofNat_le.mpr h)]
  · rw [decide_eq_false h, decide_eq_false fun e => h (Int.ofNat_le.mp e)]
theorem cast_eq (a b : Nat) : ((a : Int) == (b : Int)) = decide (a = b) := by
  rw [Bool.eq_iff_iff, beq_iff_eq, decide_eq_true_eq]
  omega
theorem tight_lt {z : Int} {x i : Nat} {b q : Bool} (hb : b = true) (hz : z = x) (h : z < ((i + 1 : Nat) : Int) - 1) : decide (z < ((i + 1 : Nat) : Int) - 1) = (b && (decide (x < i) || q)) := by
  rw [decide_eq_true h, hb, decide_eq_true (show x < i by omega)]
  rfl
theorem tight_ge {z : Int} {x i c d : Nat} {b : Bool} (hb : b = true) (hz : z = x) (h : ¬ z < ((i + 1 : Nat) : Int) - 1) : ((c : Int) == (d : Int)) = (b && (decide (x < i) || decide (c = d))) := by
  rw [cast_eq, hb, decide_eq_false (show ¬ x < i by omega)]
  rfl
theorem tight_no {b q : Bool} (hb : b = false) : b = (b && q) := by rw [hb]; rfl
theorem ne_ints_nil {prog : Program} {w : World} {A : Around} {E : Value → Shared → Prop} {s : Shared} {a b : Addr} {vs : List Value} {ns : List Int} {Q : Value → Shared → Prop} (ha : s.heap.IsList a vs.toArray) (hb : s.heap.IsList b #[]) (hi : IntsAre vs ns) (hu : A.units + 50 < cLine) (h : Q (.bool (!ns.isEmpty)) s) :
    wpAny (model prog w) A (compareOp .NotEq (.ref a) (.ref b)) Q E s := by
  obtain ⟨o, ho, hc, n, hd⟩ := ha
  obtain ⟨o', ho', hc', n', hd'⟩ := hb
  refine SeqAt.compareNe_reads (da := .list (ns.map PyData.int)) (db := .list []) (.list ho hc hd (ints_reads hi)) (.list ho' hc' hd' .nil) (by simp only [PyData.canLay0, lay_ints ns]) (by simp only [PyData.canLay0, PyData.canLayAll0]) ?_ ?_
  · simp only [PyData.depth, PyData.depthAll, depth_ints]
    omega
  · cases ns with
    | nil => exact h
    | cons x r => exact h
theorem isEmpty_len {α β : Type} {a : List α} {b : List β} (h : a.length = b.length) : (!a.isEmpty) = !b.isEmpty := by
  cases a with
  | nil => cases b with
    | nil => rfl
    | cons _ _ => simp at h
  | cons _ _ => cases b with
    | nil => simp at h
    | cons _ _ => rfl
/-- a stop of the walk -/
def Stop (P : Prop) : Prop := P
theorem Stop.out {P : Prop} (h : Stop P) : P := h
theorem storeStop {M : Model} {A : Around} {E : Value → Shared → Prop} {s : Shared} {env : Env} {x : Str} {v : Value} {Q : Unit → Shared → Prop} (_ : env.kindOf x = some .cell) (h : Stop (wpAny M A (storeName env x v) Q E s)) : wpAny M A (storeName env x v) Q E s := h
/-- what a cell's store keeps -/
theorem keepCell {h h' : Heap} {c : Addr} (hs : Heap.SameBut c h h') : ∀ b o, b ≠ c → h.get? b = some o → h'.get? b = some o := fun b _ hb ho => (hs.2 b hb).trans ho
section
variable {prog : Program} {w : World} {A : Around} {s : Shared} {p : Program} {loose : List Str} {mean : ExcName → Option Value} {mg mb : Str → Option Value} {R : Result → Shared → Prop}
theorem nmN {M : Model} {A : Around} {E : Value → Shared → Prop} {s : Shared} {g : Heap} {C c : Addr} {env : Env} {news : List (Addr × Obj)} {o : Obj} {x : Str} {pos : Pos} {v : Value} {Q : Value → Shared → Prop} (hx : env.kindOf x = some .cell) (hc : env.cells.lookup x = some c) (hm : (c, o) ∈ news) (hd : o.data = .cell (some v)) (N : News g C s.heap news) (h : Q v s)
    (hk : env.scope.kind = .function) (hd : (x == ("__debug__" : Str)) = false) :
    wpAny M A (eval (.Name x pos) env) Q E s := nmC' hx hc ⟨o, (N _ hm).1, by assumption⟩ h hk hd
local macro_rules | `(tactic| walk_at "led") => `(tactic| first | assumption | exact News.tl (by assumption) | exact News.tl (News.tl (by assumption)) | exact News.tl (News.tl (News.tl (by assumption))) | exact News.tl (News.tl (News.tl (News.tl (by assumption)))))
local macro_rules | `(tactic| walk_at "eval Name") => `(tactic| (refine' nmG ?k1 ?k2 ?k3 ?k4 ?k5 ?k6 ?_ ?k7 ?k8; (case k4 => kernel_rfl!); (case k5 => kernel_rfl!); (case k1 => with_unfolding_all assumption); (case k2 => assumption); (case k3 => assumption); (case k6 => k_is); (case k7 => kernel_rfl!); (case k8 => decide)))
local macro_rules | `(tactic| walk_at "eval Name") => `(tactic| (refine' nmC ?k1 ?k2 ?k3 ?k4 ?_ ?k5 ?k6; (case k2 => kernel_rfl!); (case k3 => with_unfolding_all exact rfl); (case k1 => with_unfolding_all assumption); (case k4 => with_unfolding_all assumption); (case k5 => kernel_rfl!); (case k6 => decide)))
local macro_rules | `(tactic| walk_at "eval Name") => `(tactic| (refine' nmN ?k1 ?k2 ?k3 ?k4 ?k5 ?_ ?k6 ?k7; (case k1 => kernel_rfl!); (case k2 => with_unfolding_all exact rfl); (case k3 => with_unfolding_all assumption); (case k4 => with_unfolding_all assumption); (case k5 => with_unfolding_all (walk_at "led")); (case k6 => kernel_rfl!); (case k7 => decide)))
local macro_rules | `(tactic| walk_at "eval Name") => `(tactic| (refine' nmC' ?k1 ?k2 ?k3 ?_ ?k4 ?k5; (case k1 => kernel_rfl!); (case k2 => with_unfolding_all exact rfl); (case k3 => with_unfolding_all assumption); (case k4 => kernel_rfl!); (case k5 => decide)))
local macro_rules | `(tactic| walk_at "eval Name") => `(tactic| (refine' nmL ?k1 ?k2 ?_ ?k3 ?k4 ?k5; (case k4 => kernel_rfl!); (case k1 => with_unfolding_all assumption); (case k2 => first | assumption | with_unfolding_all exact rfl); (case k3 => kernel_rfl!); (case k5 => decide)))
local macro_rules | `(tactic| walk_at "go") => `(tactic| repeat' (first | walk1 | (dsimp only; walk1)))
local macro_rules | `(tactic| walk_at "binaryOp Add ref ref") => `(tactic| (refine' kmk_add_lit ?fcF ?fcN ?fca ?fcb ?fce ?_ ?fcz; (case fcF => with_unfolding_all assumption); (case fcN => with_unfolding_all assumption); (case fca => with_unfolding_all first | exact News.isList (by assumption) (by k_mem) | exact Heap.IsList.at (by assumption) (Fr.keep (by assumption) _)); (case fcb => with_unfolding_all exact News.isList (by assumption) (by k_mem)); (case fce => with_unfolding_all exact rfl); (case fcz => (simp only [List.size_toArray, List.length_drop, List.length_cons, List.length_nil, sizeLine_eq]; omega)); intro D' h' F' N' l1))
local macro_rules | `(tactic| walk_at "subscriptTail Name Slice ref ref") => `(tactic| (refine' kms_slice_lit ?fcF ?fcN ?fcl ?fcp ?fcq ?fce ?_ ?fcs ?fct ?fcz; (case fcF => with_unfolding_all assumption); (case fcN => with_unfolding_all assumption); (case fcl => with_unfolding_all first | exact News.isList (by assumption) (by k_mem) | assumption); (case fcp => with_unfolding_all first | exact IsPart.none | exact IsPart.int _ _); (case fcq => with_unfolding_all first | exact IsPart.none | exact IsPart.int _ _); (case fce => with_unfolding_all first | exact pick_from _ _ | exact pick_up _ _ | exact pick_fromS _ _ _ (by omega) | exact pick_upS _ _ _ (by omega)); (case fcs => with_unfolding_all rfl); (case fct => (intro _; with_unfolding_all rfl)); (case fcz => (simp only [List.size_toArray, List.length_append, List.length_drop, List.length_cons, List.length_nil, sizeLine_eq]; omega)); intro D' h' F' N' l1))
local macro_rules | `(tactic| walk_at "subscriptTail List") => `(tactic| (refine kba_turn (value' := PySem.Expr.Name (PySem.Str.ofString "_") ⟨0, 0, 0, 0⟩) (fun _ => rfl) ?_))
local macro_rules | `(tactic| walk_at "subscriptTail BinOp") => `(tactic| (refine kba_turn (value' := PySem.Expr.Name (PySem.Str.ofString "_") ⟨0, 0, 0, 0⟩) (fun _ => rfl) ?_))
local macro_rules | `(tactic| walk_at "subscriptTail Tuple") => `(tactic| (refine Stop.out ?_))
local macro_rules | `(tactic| walk_at "call builtin:sum") => `(tactic| ((have hraw9 : RawOn := by assumption); clear hraw9; refine Stop.out ?_))
local macro_rules | `(tactic| walk_at "call builtin:min") => `(tactic| (refine Stop.out ?_))
local macro_rules | `(tactic| walk_at "eval ListComp") => `(tactic| (refine Stop.out ?_))
local macro_rules | `(tactic| walk_at "storeName") => `(tactic| (refine' storeStop ?kst ?_; (case kst => kernel_rfl!)))
local macro_rules | `(tactic| walk_at "call builtin:len") => `(tactic| (refine len_l (by with_unfolding_all assumption) (by omega) ?_))
local macro_rules | `(tactic| walk_at "subscriptTail Name Name ref int") => `(tactic| (refine' item_list ?it1 ?it2 ?it3 ?it4 ?_ ?it5 ?it6; (case it1 => with_unfolding_all assumption); (case it2 => omega); (case it3 => omega); (case it4 => with_unfolding_all assumption); (case it5 => with_unfolding_all rfl); (case it6 => (intro _; with_unfolding_all rfl))))
local macro_rules | `(tactic| walk_at "subscriptTail Name Constant ref int") => `(tactic| (refine' item_list ?it1 ?it2 ?it3 ?it4 ?_ ?it5 ?it6; (case it1 => with_unfolding_all assumption); (case it2 => omega); (case it3 => omega); (case it4 => with_unfolding_all assumption); (case it5 => with_unfolding_all rfl); (case it6 => (intro _; with_unfolding_all rfl))))
local macro_rules | `(tactic| walk_at "getMethod") => `(tactic| (refine' ws_method ?wm1 ?wm2 ?wm3 ?_; (case wm1 => with_unfolding_all assumption); (case wm2 => assumption); (case wm3 => with_unfolding_all assumption)))
local macro_rules | `(tactic| walk_at "getAttr") => `(tactic| (refine' ws_n ?wn1 ?wn2 ?wn3 ?_; (case wn1 => with_unfolding_all assumption); (case wn2 => assumption); (case wn3 => with_unfolding_all assumption); intro tn))
set_option maxHeartbeats 100000000 in
theorem law_k (X : (hd.heap_39 w.params).In s.heap) (T : Top p loose mean mg mb s.heap) (hroom : A.depth + 40 < recursionLimit) (hU : A.units + 100 < cLine) (hh : A.handled = none) {P : Addr} {vs : List Value} {ns : List Int} (hP : s.heap.IsList P vs.toArray) (hI : IntsAre vs ns) (hlen : ns.length ≤ 63)
    (hR : ∀ h' tk, s.heap.StaysIn h' → R (.ok (.ret (.bool true))) { s with heap := h', toks := tk }) :
    codeAny (model prog w) A (.call (.ref 155) ⟨[.ref P], []⟩) R s := by
  obtain ⟨hd0, dp, fr0, gs0, un0⟩ := A
  obtain rfl : hd0 = none := hh
  dsimp only at hroom hU
  refine' my_defC (binds := [(Str.ofString "script", .ref P)]) X T ?k6 ?k7 ?kr ?k9 ?kB ?mm ?c2 ?c3 ?c4
  case k6 => k_is
  case k7 => k_is
  case kr => dsimp only; omega
  case k9 => exact BindsTo.of_eq rfl
  case kB => exact rfl
  case c2 => exact rfl
  case c3 => exact rfl
  case c4 => exact rfl
  case mm =>
  intro L h tk htk F hcs
  have CC : Cells6 L h none none none none none none := ⟨hcs (Str.ofString "size") (L + 1) rfl, hcs (Str.ofString "page") (L + 2) rfl, hcs (Str.ofString "k") (L + 3) rfl, hcs (Str.ofString "leads") (L + 4) rfl, hcs (Str.ofString "grown") (L + 5) rfl, hcs (Str.ofString "bases") (L + 6) rfl⟩
  have hx : ∃ m, Fr s.heap L h m ∧ m (Str.ofString "script") = some (.ref P) := ⟨_, F, rfl⟩
  clear hcs F
  obtain ⟨m, F, hsc⟩ := hx
  have hab := F.above
  have hvl : vs.length = ns.length := hI.length
  -- size
  refine seqT (fun s' => ∃ (h' : Heap) (tk : Nat) (t : Tok), s' = { s with heap := h', toks := tk } ∧ 0 < tk ∧ Fr s.heap L h' m ∧ Cells6 L h' (some (.int (sizeOf' ns : Nat) t)) none none none none none) ?_ ?_
  · obtain ⟨led, N, hled⟩ := ledgerAll s.heap L h
    refine wpAny_Assign_Name ?_ (by with_unfolding_all rfl)
    walk_at "go"
    · refine wpAny_storeName_cell (by with_unfolding_all rfl) (by with_unfolding_all rfl) (by with_unfolding_all rfl) CC.c1 fun h1 hc1 hs1 => ?_
      have e : sizeOf' ns = 4 := if_pos (by omega)
      rw [e]
      exact ⟨rfl, h1, _, _, rfl, Nat.succ_pos _, Fr.but F (Nat.lt_succ_self _) (keepCell hs1), CC.set1 hc1 hs1⟩
    · refine wpAny_storeName_cell (by with_unfolding_all rfl) (by with_unfolding_all rfl) (by with_unfolding_all rfl) CC.c1 fun h1 hc1 hs1 => ?_
      have e : sizeOf' ns = 5 := if_neg (by omega)
      rw [e]
      exact ⟨rfl, h1, _, _, rfl, Nat.succ_pos _, Fr.but F (Nat.lt_succ_self _) (keepCell hs1), CC.set1 hc1 hs1⟩
  clear CC F
  rintro _ ⟨h, tk, t1, rfl, htk1, F, CC⟩ _
  have hn45 : sizeOf' ns = 4 ∨ sizeOf' ns = 5 := by unfold sizeOf'; split <;> simp
  obtain ⟨n, hn⟩ : ∃ n, sizeOf' ns = n := ⟨_, rfl⟩
  rw [hn] at CC hn45
  -- numbers
  refine seqT (fun s' => ∃ (h' : Heap) (tk : Nat) (m' : Str → Option Value) (nu : Addr) (nvs : List Value), s' = { s with heap := h', toks := tk } ∧ Fr s.heap L h' m' ∧ Cells6 L h' (some (.int n t1)) none none none none none ∧ m' (Str.ofString "numbers") = some (.ref nu) ∧ h'.IsList nu nvs.toArray ∧ @LT.lt Nat _ (L + 6) nu ∧ IntsAre nvs (numsOf ns)) ?_ ?_
  · obtain ⟨led, N, hled⟩ := ledgerAll s.heap L h
    have kbf : ∀ {h' m'}, Fr s.heap L h' m' → News s.heap L h' led → KeepB L h h' := fun F' N' => keepAll F hled F' N'
    have mcell : ∀ {i : Nat} {o : Obj}, 0 < i → h.get? (L + i) = some o → (L + i, o) ∈ led := fun hi ho => hled _ _ ho (neN (by omega)) (by
      cases e : s.heap.get? _ with
      | none => rfl
      | some o => have := Nat.lt_of_lt_of_le (Heap.lt_size e) hab; exact absurd this (Nat.not_lt.mpr (Nat.le_add_right _ _)))
    obtain ⟨oz, hoz, hdz⟩ := CC.c1
    obtain ⟨o6, ho6, _⟩ := CC.c6
    have mz := mcell (by decide) hoz
    have m6 := mcell (by decide) ho6
    walk_at "go"
    rename News _ _ _ (_ :: _ :: _ :: _ :: _) => N2
    rename Fr _ _ _ (fun _ => _) => F2
    rename (∀ p, p ∈ (_ :: _ :: _ :: led) → p.fst < _) => l2
    have hD : @LT.lt Nat _ (L + 6) _ := l2 (L + 6, o6) (by repeat (first | assumption | apply List.mem_cons_of_mem))
    refine ⟨rfl, _, _, _, _, _, rfl, F2, CC.keeps (kbf F2 (News.tl (News.tl (News.tl (News.tl N2))))), rfl, News.isList N2 (.head _), hD, ?_⟩
    have i1 : IntsAre [Value.int 6 _, Value.int 2 _, Value.int 2 _, Value.int 10 _, Value.int 4 _] [6, 2, 2, 10, 4] := .cons 6 tk (.cons 2 (tk + 1) (.cons 2 (tk + 1 + 1) (.cons 10 (tk + 1 + 1 + 1) (.cons 4 (tk + 1 + 1 + 1 + 1) .nil))))
    unfold numsOf
    rw [hn]
    exact (hI.append (i1.drop _)).take _
  clear CC F hsc
  rintro _ ⟨h, tk, m, nu, nvs, rfl, F, CC, hnu, hnl, hnuL, hnI⟩ htk2
  dsimp only at htk2
  have htk0 : 0 < tk := by omega
  clear htk2
  have hnlen : (numsOf ns).length = n := by
    unfold numsOf
    rw [hn, List.length_take, List.length_append, List.length_drop]
    unfold sizeOf' at hn
    split at hn <;> simp <;> omega
  obtain ⟨nums, hnums⟩ : ∃ nums, numsOf ns = nums := ⟨_, rfl⟩
  rw [hnums] at hnI hnlen
  -- wishes, end
  refine seqT (fun s' => ∃ (h' : Heap) (tk : Nat) (m' : Str → Option Value) (ws : Addr) (wvs : List Value) (e : Str) (te : Tok), s' = { s with heap := h', toks := tk } ∧ Fr s.heap L h' m' ∧ Cells6 L h' (some (.int n t1)) none none none none none ∧ m' (Str.ofString "numbers") = some (.ref nu) ∧ h'.IsList nu nvs.toArray ∧
    m' (Str.ofString "wishes") = some (.ref ws) ∧ h'.IsList ws wvs.toArray ∧ @LT.lt Nat _ (L + 6) ws ∧ IntsAre wvs ((sortA (nums.map fun (x : Int) => (x % (n : Int)).toNat)).map fun (q : Nat) => (q : Int)) ∧ m' (Str.ofString "end") = some (.str e te) ∧ e.cps.toList ∈ endsL) ?_ ?_
  · obtain ⟨led, N, hled⟩ := ledgerAll s.heap L h
    have kbf : ∀ {h' m'}, Fr s.heap L h' m' → News s.heap L h' led → KeepB L h h' := fun F' N' => keepAll F hled F' N'
    have mdata : ∀ {a : Addr} {o : Obj}, @LT.lt Nat _ (L + 6) a → h.get? a = some o → (a, o) ∈ led := fun hi ho => hled _ _ ho (neN (by omega)) (by
      cases e : s.heap.get? _ with
      | none => rfl
      | some o => have := Nat.lt_of_lt_of_le (Heap.lt_size e) hab; exact absurd this (Nat.not_lt.mpr (by omega)))
    walk_at "go"
    unfold Stop
    refine' compW (cl := [(Str.ofString "size", L + 1)]) (fun C j ys _ => IntsAre ys ((nums.take j).map fun (x : Int) => x % (n : Int))) ?s31 ?s32 ?s33 ?s34 ?s35 ?s36 ?s37
    case s31 => with_unfolding_all rfl
    case s32 => decide
    case s33 => rfl
    case s34 => decide
    case s35 => decide
    case s37 => (intro _; with_unfolding_all rfl)
    have hc1 := CC.c1
    have hnvl : nvs.length = n := by rw [hnI.length, hnlen]
    walk_at "go"
    refine ⟨nvs.length, _, srcList rfl hnl, by rw [sizeLine_eq]; omega, ⟨fun _ _ => .nil, ?_, fun _ _ _ _ _ a _ => a, ?_⟩, ?_⟩
    · intro C j ys h' a
      rw [a.length, List.length_map, List.length_take]
      omega
    · intro C j v ys s' m' hj hv hI' F' hx hs'
      obtain ⟨h', tk', rfl, htk'⟩ := hs'
      obtain ⟨k, kt, hk, rfl⟩ := ints_get hnI hv
      dsimp only at htk' F' hI'
      refine wpAny_tests_nil ⟨Keeps.refl _, ?_⟩
      rw [if_pos rfl]
      dsimp only
      have N' := newsOf F'
      walk_at "go"
      refine ⟨⟨_, _, rfl, fun _ _ e => e⟩, ?_⟩
      show IntsAre _ ((nums.take (j + 1)).map fun (x : Int) => x % (n : Int))
      rw [List.take_add_one, hk, List.map_append, Int.fmod_eq_emod_of_nonneg _ (by omega)]
      exact ints_snoc hI'
    · intro D C h' tk' ys hD hDC hl hI' st
      dsimp only at hD st ⊢
      have F1 := F.grownK st
      have N1 := N.grown st
      rw [show nums.take nvs.length = nums from List.take_of_length_le (by omega)] at hI'
      walk_at "go"
      refine sorted_N F1 N1 hl.isList hI' (by rw [hI'.length, List.length_map, hnlen]; omega) fun h2 wvs wz e2 F2 N2 i2 pe pw => ?_
      obtain rfl := ints_sorted (by omega) pe pw
      obtain ⟨onu, honu, hcnu, nnu, hdnu⟩ := id hnl
      have mnu := mdata hnuL honu
      walk_at "go"
      rename News _ _ _ (_ :: _ :: _) => N3
      rename Fr _ _ _ _ => F3
      refine sum_raw rfl (isListM mnu hcnu hdnu (News.tl (News.tl N3))) hnI fun h4 tk4 t4 st4 => ?_
      have F4 := F3.grownK st4
      have N4 := N3.grown st4
      walk_at "go"
      unfold Stop
      have hf1 : 0 ≤ nums.sum.fmod 3 := by rw [Int.fmod_eq_emod_of_nonneg _ (by decide)]; exact Int.emod_nonneg _ (by decide)
      have hf2 : nums.sum.fmod 3 < 3 := by rw [Int.fmod_eq_emod_of_nonneg _ (by decide)]; exact Int.emod_lt_of_pos _ (by decide)
      obtain ⟨j, e, te, hj, hje, hee⟩ := end_pick nums.sum tk' (tk' + 1) (tk' + 1 + 1)
      refine item_tupleT ⟨_, (N4 _ (.head _)).1, rfl, _, rfl⟩ (by omega) (by omega) hj hje ?_ (by with_unfolding_all rfl)
      walk_at "go"
      rename News _ _ _ (_ :: _ :: _ :: _) => N5
      rename Fr _ _ _ (fun _ => _) => F5
      have kb := kbf F5 (News.tl (News.tl (News.tl N5)))
      exact ⟨rfl, _, _, _, _, wvs, e, te, rfl, F5, CC.keeps kb, hnu, hnl.at fun o ho => kb _ o (neN (by omega)) ho, rfl, (N5.isList (.tail _ (.tail _ (.head _)))), Nat.lt_succ_of_lt (IsCell.lt (CC.c6.keeps st)), i2, rfl, hee⟩
  clear CC F hnl hnu
  rintro _ ⟨h, tk, m, ws, wvs, e, te, rfl, F, CC, hnu, hnl, hws, hwl, hwL, hwI, hen, hee⟩ htk2
  dsimp only at htk2
  have htk0 : 0 < tk := by omega
  clear htk2
  obtain ⟨rs, hrs⟩ : ∃ rs, nums.map (fun (x : Int) => (x % (n : Int)).toNat) = rs := ⟨_, rfl⟩
  have hrl : rs.length = n := by rw [← hrs, List.length_map, hnlen]
  have hrn : ∀ r ∈ rs, r < n := by
    intro r hr
    rw [← hrs] at hr
    obtain ⟨x, _, rfl⟩ := List.mem_map.mp hr
    have h1 := Int.emod_nonneg x (show (n : Int) ≠ 0 by omega)
    have h2 := Int.emod_lt_of_pos x (show (0 : Int) < n by omega)
    omega
  have hrx : ∀ (j : Nat) (k : Int), nums[j]? = some k → ∃ r : Nat, rs[j]? = some r ∧ k % (n : Int) = r := by
    intro j k hk
    refine ⟨(k % (n : Int)).toNat, by rw [← hrs, List.getElem?_map, hk]; rfl, ?_⟩
    have h1 := Int.emod_nonneg k (show (n : Int) ≠ 0 by omega)
    omega
  rw [hrs] at hwI
  have hnvl : nvs.length = n := by rw [hnI.length, hnlen]
  -- page
  refine seqT (fun s' => ∃ (h' : Heap) (tk : Nat) (pg : Addr) (pvs : List Value), s' = { s with heap := h', toks := tk } ∧ Fr s.heap L h' m ∧ Cells6 L h' (some (.int n t1)) (some (.ref pg)) none none none none ∧ h'.IsList ws wvs.toArray ∧ h'.IsList pg pvs.toArray ∧ @LT.lt Nat _ (L + 6) pg ∧ StrsAre pvs ((rs.map (1 + ·)).map row)) ?_ ?_
  · have hc1 := CC.c1
    refine wpAny_Assign_Name ?_ (by with_unfolding_all rfl)
    refine' compW (cl := [(Str.ofString "size", L + 1)]) (fun C j ys _ => StrsAre ys ((rs.take j).map fun r => row (1 + r))) ?s42 ?s43 ?s44 ?s45 ?s46 ?s40 ?s4a
    case s42 => with_unfolding_all rfl
    case s43 => decide
    case s44 => rfl
    case s45 => decide
    case s46 => decide
    case s4a => (intro _; with_unfolding_all rfl)
    walk_at "go"
    refine ⟨nvs.length, _, srcList rfl hnl, by rw [sizeLine_eq]; omega, ⟨fun _ _ => .nil, ?_, fun _ _ _ _ _ a _ => a, ?_⟩, ?_⟩
    · intro C j ys h' a
      rw [strs_len a, List.length_map, List.length_take]
      omega
    · intro C j v ys s' m' hj hv hI' F' hx hs'
      obtain ⟨h', tk', rfl, htk'⟩ := hs'
      obtain ⟨k, kt, hk, rfl⟩ := ints_get hnI hv
      obtain ⟨r, hr, hkr⟩ := hrx j k hk
      have hrn' := hrn r (List.mem_of_getElem? hr)
      have hkf : k.fmod (n : Int) = r := by rw [Int.fmod_eq_emod_of_nonneg _ (by omega)]; exact hkr
      have hmr := mul_row2 r (by omega)
      dsimp only at htk' F' hI'
      refine wpAny_tests_nil ⟨Keeps.refl _, ?_⟩
      rw [if_pos rfl]
      dsimp only
      have N' := newsOf F'
      walk_at "go"
      rw [hkf]
      rw [hmr.1]
      refine ⟨⟨_, _, rfl, fun _ _ e => e⟩, ?_⟩
      show StrsAre _ ((rs.take (j + 1)).map fun r => row (1 + r))
      rw [List.take_add_one, hr, List.map_append]
      exact kct_snoc hI'
    · intro D C h' tk' ys hD hDC hl hI' st
      dsimp only at hD st ⊢
      rw [show rs.take nvs.length = rs from List.take_of_length_le (by omega)] at hI'
      refine wpAny_storeName_cell (by with_unfolding_all rfl) (by with_unfolding_all rfl) (by with_unfolding_all rfl) (CC.c2.keeps st) fun h1 hcp hs1 => ?_
      have lD : @LT.lt Nat _ (L + 6) D := Nat.lt_of_lt_of_le (IsCell.lt CC.c6) hD
      refine ⟨rfl, h1, tk', D, ys, rfl, Fr.but (F.grownK st) (by omega) (keepCell hs1), (CC.keeps (KeepB.of st)).set2 hcp hs1, hwl.at fun o ho => keepCell hs1 _ o (neN (by omega)) (st _ _ ho), hl.isList.at fun o ho => keepCell hs1 _ o (neN (by omega)) ho, lD, by rw [List.map_map]; exact hI'⟩
  clear CC F hwl hnl
  rintro _ ⟨h, tk, pg, pvs, rfl, F, CC, hwl, hpl, hpL, hpS⟩ htk2
  dsimp only at htk2
  have htk0 : 0 < tk := by omega
  clear htk2
  -- leads, grown
  obtain ⟨ds, hds⟩ : ∃ ds, rs.map (1 + ·) = ds := ⟨_, rfl⟩
  have hdl : ds.length = n := by rw [← hds, List.length_map, hrl]
  have hd8 : ∀ d ∈ ds, d < 8 := by
    intro d hd
    rw [← hds] at hd
    obtain ⟨r, hr, rfl⟩ := List.mem_map.mp hd
    have := hrn r hr
    omega
  rw [hds] at hpS
  refine seqT (fun s' => ∃ (h' : Heap) (tk : Nat) (le gr : Addr) (lvs gvs : List Value), s' = { s with heap := h', toks := tk } ∧ Fr s.heap L h' m ∧ Cells6 L h' (some (.int n t1)) (some (.ref pg)) none (some (.ref le)) (some (.ref gr)) none ∧ h'.IsList ws wvs.toArray ∧ h'.IsList pg pvs.toArray ∧ @LT.lt Nat _ (L + 6) le ∧ h'.IsList le lvs.toArray ∧ lvs.length = n + 1 ∧
    (∀ i v, lvs[i]? = some v → WsAt w (L + 7) h' v (leadQ ds i)) ∧ @LT.lt Nat _ (L + 6) gr ∧ h'.IsList gr gvs.toArray ∧ Pages (fun b => @LT.lt Nat _ (L + 6) b) h' gvs (grownP (n - 1))) ?_ ?_
  · obtain ⟨led, N, hled⟩ := ledgerAll s.heap L h
    have mcell : ∀ {i : Nat} {o : Obj}, 0 < i → h.get? (L + i) = some o → (L + i, o) ∈ led := fun hi ho => hled _ _ ho (neN (by omega)) (by
      cases e : s.heap.get? _ with
      | none => rfl
      | some o => have := Nat.lt_of_lt_of_le (Heap.lt_size e) hab; exact absurd this (Nat.not_lt.mpr (Nat.le_add_right _ _)))
    obtain ⟨oz, hoz, hdz⟩ := CC.c1
    have mz := mcell (by decide) hoz
    walk_at "go"
    unfold Stop
    refine with_tk (by dsimp only; omega) ?_
    refine' compW (cl := [(Str.ofString "page", L + 2)]) (fun C j ys h' => ys.length = j ∧ ∀ i v, ys[i]? = some v → WsAt w (C + 1) h' v (leadQ ds i)) ?s52 ?s53 ?s54 ?s55 ?s56 ?s50 ?s5a
    case s52 => with_unfolding_all rfl
    case s53 => decide
    case s54 => rfl
    case s55 => decide
    case s56 => decide
    case s5a => (intro _; with_unfolding_all rfl)
    refine with_tk (by dsimp only; omega) ?_
    walk_at "go"
    unfold Tk
    intro htk4
    rename IsRange _ _ _ _ _ _ _ _ => hR
    rename (∀ b o, Heap.get? _ b = some o → Heap.get? _ b = some o) => st
    rename (Fr _ _ _ _) => F1
    rename (News _ _ _ _) => N1
    dsimp only at hR st htk4 ⊢
    have hpl1 := hpl.at fun o ho => st _ o ho
    have hc2 := CC.c2.keeps st
    refine ⟨n + 1, _, srcRangeC rfl hR (by omega) (by omega) (by omega) (by omega), by rw [sizeLine_eq]; omega, ⟨fun _ _ => ⟨rfl, fun i v h => by simp at h⟩, fun _ _ _ _ a => Nat.le_of_eq a.1, fun C j ys h' h'' a hk => ⟨a.1, fun i v hv => (a.2 i v hv).keeps fun b o hb ho => hk b o (Nat.lt_of_succ_le hb) ho⟩, ?_⟩, ?_⟩
    · rintro C j v ys s' m' hj ⟨kt, rfl⟩ hI' F' hx hs'
      obtain ⟨h', tk', rfl, htk'⟩ := hs'
      rw [show (0 + (j : Int) * 1) = j by omega] at hx
      dsimp only at htk' F' hI'
      refine wpAny_tests_nil ⟨Keeps.refl _, ?_⟩
      rw [if_pos rfl]
      dsimp only
      have N' := newsOf F'
      have X' := X.keeps F1.keep
      have T' := T.keeps F1.keep
      have hC : @LT.lt Nat _ C h'.objs.size := by obtain ⟨o, _, _, ho, _⟩ := F'.ns; exact Heap.lt_size ho
      walk_at "go"
      refine lead_c (X'.keeps F'.keep) (T'.keeps F'.keep) (by simp only [depth_deeper]; omega) rfl (hpl1.at fun o ho => F'.keep _ o ho) hpS hd8 (by omega) j kt (by dsimp only; omega) fun v2 h2 tk2 st2 ww => ?_
      refine ⟨⟨_, _, rfl, st2⟩, by rw [List.length_append, hI'.1]; rfl, snocAll hI'.1 (fun i v hv => (hI'.2 i v hv).keeps fun b o _ ho => st2 b o ho) (ww.low hC)⟩
    · intro D C h' tk' ys hD hDC hl hI' st'
      (try unfold Tk)
      intro htk5
      dsimp only at hD st' htk5 ⊢
      have F2 := F1.grownK st'
      have N2 := N1.grown st'
      walk_at "go"
      refine grown_c (X.keeps F2.keep) (T.keeps F2.keep) (by simp only [depth_deeper]; omega) (by simp only [Around.deeper_units]; omega) rfl n (by omega) e hee t1 te (by dsimp only; omega) fun D2 gvs h2 tk2 st2 hD2 hl2 hP2 => ?_
      dsimp only at st2 hD2 hP2 ⊢
      have F3 := F2.grownK st2
      obtain ⟨led2, N3, hled2⟩ := ledgerAll s.heap L h2
      have kbf : ∀ {h' m'}, Fr s.heap L h' m' → News s.heap L h' led2 → KeepB L h2 h' := fun F' N' => keepAll F3 hled2 F' N'
      walk_at "go"
      unfold Stop
      rename (Fr _ _ _ _) => F5
      rename News _ _ _ (_ :: led2) => N5
      have kb := kbf F5 (News.tl N5)
      have CC5 := (((CC.keeps (KeepB.of st)).keeps (KeepB.of st')).keeps (KeepB.of st2)).keeps kb
      refine wpAny_storeName_cell (by with_unfolding_all rfl) (by with_unfolding_all rfl) (by with_unfolding_all rfl) CC5.c4 fun h6 hc6 hs6 => ?_
      have CC6 := CC5.set4 hc6 hs6
      walk_at "go"
      unfold Stop
      refine wpAny_storeName_cell (by with_unfolding_all rfl) (by with_unfolding_all rfl) (by with_unfolding_all rfl) CC6.c5 fun h7 hc7 hs7 => ?_
      have CC7 := CC6.set5 hc7 hs7
      have K27 : ∀ b o, @Ne Nat b L → @Ne Nat b (L + 4) → @Ne Nat b (L + 5) → h2.get? b = some o → h7.get? b = some o := fun b o n1 n2 n3 ho => keepCell hs7 b o n3 (keepCell hs6 b o n2 (kb b o n1 ho))
      have K7 : ∀ b o, @LT.lt Nat _ (L + 6) b → h2.get? b = some o → h7.get? b = some o := fun b o hb ho => K27 b o (by omega) (by omega) (by omega) ho
      have lD : @LT.lt Nat _ (L + 6) D := Nat.lt_of_lt_of_le (IsCell.lt (CC.c6.keeps st)) hD
      have lD2 : @LT.lt Nat _ (L + 6) D2 := Nat.lt_of_lt_of_le (IsCell.lt ((CC.c6.keeps st).keeps st')) hD2
      have lC : @LT.lt Nat _ (L + 6) C := Nat.lt_trans lD hDC
      have lh' : @LT.lt Nat _ (L + 6) h'.objs.size := IsCell.lt ((CC.c6.keeps st).keeps st')
      walk_at "go"
      refine ⟨rfl, h7, _, D, D2, ys, gvs, rfl, Fr.but (Fr.but F5 (by omega) (keepCell hs6)) (by omega) (keepCell hs7), CC7, hwl.at fun o ho => K7 _ o hwL (st2 _ _ (st' _ _ (st _ _ ho))), hpl.at fun o ho => K7 _ o hpL (st2 _ _ (st' _ _ (st _ _ ho))), lD, hl.isList.at fun o ho => K7 _ o lD (st2 _ _ ho), hI'.1, ?_, lD2, hl2.at fun o ho => K7 _ o lD2 ho, ?_⟩
      · intro i v hv
        exact ((hI'.2 i v hv).low (show L + 7 ≤ C + 1 from Nat.succ_le_succ (Nat.le_of_lt lC))).keeps fun b o hb ho => K7 b o (Nat.lt_of_succ_le hb) (st2 _ _ ho)
      · exact (hP2.weak fun b hb => Nat.lt_of_lt_of_le lh' hb).keeps fun b o hb ho => K7 b o hb ho
  clear CC F hwl hpl
  rintro _ ⟨h, tk, le, gr, lvs, gvs, rfl, F, CC, hwl, hpl, hleL, hle, hlvl, hlW, hgrL, hgr, hgP⟩ htk2
  dsimp only at htk2
  have htk0 : 0 < tk := by omega
  clear htk2
  -- bases
  obtain ⟨G, hG⟩ : ∃ G, grownP (n - 1) = G := ⟨_, rfl⟩
  have hGl : G.length ≤ 16 := by rw [← hG, grown_count (n - 1) (by omega)]; exact Nat.le_trans (Nat.pow_le_pow_right (by decide) (show n - 1 ≤ 4 by omega)) (by decide)
  have hGd : ∀ g ∈ G, g.length ≤ 5 ∧ ∀ d ∈ g, d < 8 := fun g hg => by
    have := grown_len5 (n - 1) (by omega) g (by rw [hG]; exact hg)
    exact ⟨by omega, this.2⟩
  rw [hG] at hgP
  have hgvl := hgP.len
  refine seqT (fun s' => ∃ (h' : Heap) (tk : Nat) (ba : Addr) (bvs : List Value), s' = { s with heap := h', toks := tk } ∧ Fr s.heap L h' m ∧ Cells6 L h' (some (.int n t1)) (some (.ref pg)) none (some (.ref le)) (some (.ref gr)) (some (.ref ba)) ∧ (∀ b o, @LT.lt Nat _ (L + 6) b → h.get? b = some o → h'.get? b = some o) ∧ @LT.lt Nat _ (L + 6) ba ∧ h'.IsList ba bvs.toArray ∧ bvs.length = G.length ∧
    (∀ (i : Nat) (v : Value), bvs[i]? = some v → ∃ g, G[i]? = some g ∧ WsAt w (L + 7) h' v (leadQ g 0))) ?_ ?_
  · have hcg := CC.c5
    refine wpAny_Assign_Name ?_ (by with_unfolding_all rfl)
    refine' compW (cl := []) (fun C j ys h' => ys.length = j ∧ ∀ (i : Nat) (v : Value), ys[i]? = some v → ∃ g, G[i]? = some g ∧ WsAt w (C + 1) h' v (leadQ g 0)) ?s62 ?s63 ?s64 ?s65 ?s66 ?s60 ?s6a
    case s62 => with_unfolding_all rfl
    case s63 => decide
    case s64 => rfl
    case s65 => decide
    case s66 => decide
    case s6a => (intro _; with_unfolding_all rfl)
    walk_at "go"
    refine ⟨gvs.length, _, srcList rfl hgr, by rw [sizeLine_eq]; omega, ⟨fun _ _ => ⟨rfl, fun i v h => by simp at h⟩, fun _ _ _ _ a => Nat.le_of_eq a.1, fun C j ys h' h'' a hk => ⟨a.1, fun i v hv => ?_⟩, ?_⟩, ?_⟩
    · obtain ⟨g, hg, hw⟩ := a.2 i v hv
      exact ⟨g, hg, hw.keeps fun b o hb ho => hk b o (Nat.lt_of_succ_le hb) ho⟩
    · intro C j v ys s' m' hj hv hI' F' hx hs'
      obtain ⟨a, xs, g, rfl, hg, _, hxl, hxs⟩ := hgP.get hv
      obtain ⟨h', tk', rfl, htk'⟩ := hs'
      have hgd := hGd g (List.mem_of_getElem? hg)
      dsimp only at htk' F' hI'
      refine wpAny_tests_nil ⟨Keeps.refl _, ?_⟩
      rw [if_pos rfl]
      dsimp only
      have N' := newsOf F'
      have X' := X.keeps F.keep
      have T' := T.keeps F.keep
      have hC : @LT.lt Nat _ C h'.objs.size := by obtain ⟨o, _, _, ho, _⟩ := F'.ns; exact Heap.lt_size ho
      walk_at "go"
      refine lead_c (X'.keeps F'.keep) (T'.keeps F'.keep) (by simp only [depth_deeper]; omega) rfl (hxl.at fun o ho => F'.keep _ o ho) hxs hgd.2 (by omega) 0 _ (by dsimp only; omega) fun v2 h2 tk2 st2 ww => ?_
      refine ⟨⟨_, _, rfl, st2⟩, by rw [List.length_append, hI'.1]; rfl, snocAll hI'.1 (fun i v hv => ?_) ⟨g, hg, ww.low hC⟩⟩
      obtain ⟨g', hg', hw⟩ := hI'.2 i v hv
      exact ⟨g', hg', hw.keeps fun b o _ ho => st2 b o ho⟩
    · intro D C h' tk' ys hD hDC hl hI' st
      dsimp only at hD st ⊢
      refine wpAny_storeName_cell (by with_unfolding_all rfl) (by with_unfolding_all rfl) (by with_unfolding_all rfl) (CC.c6.keeps st) fun h1 hcp hs1 => ?_
      have lD : @LT.lt Nat _ (L + 6) D := Nat.lt_of_lt_of_le (IsCell.lt CC.c6) hD
      have lC : @LT.lt Nat _ (L + 6) C := Nat.lt_trans lD hDC
      refine ⟨rfl, h1, tk', D, ys, rfl, Fr.but (F.grownK st) (by omega) (keepCell hs1), (CC.keeps (KeepB.of st)).set6 hcp hs1, fun b o hb ho => keepCell hs1 b o (neN (by omega)) (st b o ho), lD, hl.isList.at fun o ho => keepCell hs1 _ o (neN (by omega)) ho, hI'.1.trans hgvl, fun i v hv => ?_⟩
      obtain ⟨g, hg, hw⟩ := hI'.2 i v hv
      exact ⟨g, hg, (hw.low (show L + 7 ≤ C + 1 from Nat.succ_le_succ (Nat.le_of_lt lC))).keeps fun b o hb ho => keepCell hs1 b o (Nat.ne_of_gt hb) ho⟩
  clear F
  rintro _ ⟨h', tk', ba, bvs, rfl, F, CC', kp, hbaL, hba, hbvl, hbW⟩ htk2
  dsimp only at htk2
  have htk0' : 0 < tk' := by omega
  clear htk2 htk0
  have hwl := hwl.at fun o ho => kp _ o hwL ho
  have hpl := hpl.at fun o ho => kp _ o hpL ho
  have hle := hle.at fun o ho => kp _ o hleL ho
  have hlW := fun (i : Nat) (v : Value) (hv : lvs[i]? = some v) => (hlW i v hv).keeps fun b o hb ho => kp b o (Nat.lt_of_succ_le hb) ho
  have hgr := hgr.at fun o ho => kp _ o hgrL ho
  have hgP := hgP.keeps fun b o hb ho => kp b o hb ho
  clear CC kp
  -- like
  refine seqT (fun s' => ∃ (h2 : Heap) (tk : Nat) (m' : Str → Option Value) (li : Addr) (kvs : List Value) (ks : List Int), s' = { s with heap := h2, toks := tk } ∧ Fr s.heap L h2 m' ∧ (∀ b o, @Ne Nat b L → h'.get? b = some o → h2.get? b = some o) ∧ m' (Str.ofString "wishes") = some (.ref ws) ∧ m' (Str.ofString "like") = some (.ref li) ∧
    h2.IsList li kvs.toArray ∧ @LT.lt Nat _ (L + 6) li ∧ IntsAre kvs ks ∧ ks.length = (G.filter (likeP ds)).length) ?_ ?_
  · have hcg := CC'.c5
    have hcb := CC'.c6
    have hcl := CC'.c4
    refine' compA (cl := [(Str.ofString "leads", L + 4), (Str.ofString "bases", L + 6)]) (fun C j ys _ => ∃ ks : List Int, IntsAre ys ks ∧ ks.length = ((G.take j).filter (likeP ds)).length) ?s71 ?s72 ?s73 ?s74 ?s75 ?s76 ?s77 ?s78 ?s70
    case s71 => with_unfolding_all rfl
    case s72 => with_unfolding_all rfl
    case s73 => decide
    case s74 => rfl
    case s75 => decide
    case s76 => decide
    case s77 => kernel_rfl!
    case s78 => rfl
    obtain ⟨led, N, hled⟩ := ledgerAll s.heap L h'
    refine with_tk (by dsimp only; omega) ?_
    walk_at "go"
    unfold Tk
    intro htk4
    rename IsRange _ _ _ _ _ _ _ _ => hR
    rename (∀ b o, Heap.get? _ b = some o → Heap.get? _ b = some o) => st
    rename (Fr _ _ _ _) => F1
    dsimp only at hR st htk4 ⊢
    refine ⟨gvs.length, _, m, srcRangeC rfl hR (by omega) (by omega) (by omega) (by omega), by rw [sizeLine_eq]; omega, ⟨fun _ _ => ⟨[], .nil, rfl⟩, fun C j ys h a => ?_, fun _ _ _ _ _ a _ => a, ?_⟩, F1.ns, ?_⟩
    · obtain ⟨ks, hk1, hk2⟩ := a
      rw [hk1.length, hk2]
      exact Nat.le_trans (List.length_filter_le _ _) (by rw [List.length_take]; omega)
    · rintro C j v ys s' m' hj ⟨kt, rfl⟩ hI' F' hx hs'
      obtain ⟨h2, tk2, rfl, htk'⟩ := hs'
      rw [show (0 + (j : Int) * 1) = j by omega] at hx
      dsimp only at htk' F' hI'
      have X' := X.keeps F1.keep
      have T' := T.keeps F1.keep
      have N' := newsOf F'
      have kp2 : ∀ b o, h'.get? b = some o → h2.get? b = some o := fun b o ho => F'.keep b o (st b o ho)
      have hba2 := hba.at fun o ho => kp2 _ o ho
      have hle2 := hle.at fun o ho => kp2 _ o ho
      have hcb2 := hcb.keeps st
      have hcl2 := hcl.keeps st
      obtain ⟨bv, hbv⟩ : ∃ v, bvs[j]? = some v := ⟨_, List.getElem?_eq_getElem (by omega)⟩
      obtain ⟨lv, hlv⟩ : ∃ v, lvs[0]? = some v := ⟨_, List.getElem?_eq_getElem (by omega)⟩
      obtain ⟨g, hg, hbw⟩ := hbW j bv hbv
      have hbw2 := hbw.keeps fun b o _ ho => kp2 b o ho
      have hlw2 := (hlW 0 lv hlv).keeps fun b o _ ho => kp2 b o ho
      have hbv2 : bvs.toArray[(j : Int).toNat]? = some bv := by simpa using hbv
      have hlv2 : lvs.toArray[(0 : Int).toNat]? = some lv := by simpa using hlv
      refine wpAny_tests_one ?_
      walk_at "go"
      refine equal_c (X'.keeps F'.keep) (T'.keeps F'.keep) (by simp only [depth_deeper]; omega) (by simp only [Around.deeper_units]; omega) rfl hbw2 hlw2 fun h3 tk3 st3 => ?_
      have F3 := F'.grownK st3
      have N3 := newsOf F3
      have hlk : decide ((leadQ g 0).2.2.2 = (leadQ ds 0).2.2.2 ∧ (leadQ g 0).2.2.1 = (leadQ ds 0).2.2.1) = likeP ds g := rfl
      rw [hlk]
      walk_at "go"
      obtain ⟨ks, hk1, hk2⟩ := hI'
      have hfl := filter_take (q := likeP ds) hg
      refine ⟨⟨_, _, rfl, st3⟩, ?_⟩
      cases hb : likeP ds g with
      | false =>
        rw [if_neg (by simp)]
        exact ⟨ks, hk1, by rw [hfl, hb, hk2]; simp⟩
      | true =>
        rw [if_pos (by simp)]
        dsimp only
        walk_at "go"
        exact ⟨Keeps.refl _, ks ++ [(j : Int)], ints_snoc hk1, by rw [hfl, hb, List.length_append, List.length_append, hk2]; rfl⟩
    · intro D C h2 tk2 ys hD hDC hl hI' hn' hk'
      dsimp only at hD hk' ⊢
      obtain ⟨ks, hk1, hk2⟩ := hI'
      rw [show G.take gvs.length = G from List.take_of_length_le (by omega)] at hk2
      have lD : @LT.lt Nat _ (L + 6) D := Nat.lt_of_lt_of_le (IsCell.lt (CC'.c6.keeps st)) hD
      exact ⟨rfl, h2, tk2, _, D, ys, ks, rfl, ⟨hn', fun b o ho => hk' b o (Nat.ne_of_lt (Nat.lt_of_lt_of_le (Heap.lt_size ho) F1.above)) (F1.keep b o ho), F1.above⟩, fun b o hb ho => hk' b o hb (st b o ho), hws, rfl, hl.isList, lD, hk1, hk2⟩
  clear F
  rintro _ ⟨h2, tk2, m2, li, kvs, ks, rfl, F, kp, hws, hli, hlil, hliL, hks, hkl⟩ htk2
  dsimp only at htk2
  have htk0 : 0 < tk2 := by omega
  clear htk2 htk0'
  -- over
  have CC2 := CC'.keeps kp
  have hwl := hwl.at fun o ho => kp _ o (neN (by omega)) ho
  have hpl := hpl.at fun o ho => kp _ o (neN (by omega)) ho
  have hle := hle.at fun o ho => kp _ o (neN (by omega)) ho
  have hlW := fun (i : Nat) (v : Value) (hv : lvs[i]? = some v) => (hlW i v hv).keeps fun b o hb ho => kp b o (neN (by omega)) ho
  have hgr := hgr.at fun o ho => kp _ o (neN (by omega)) ho
  have hgP := hgP.keeps fun b o hb ho => kp b o (neN (by omega)) ho
  have hba := hba.at fun o ho => kp _ o (neN (by omega)) ho
  have hbW := fun (i : Nat) (v : Value) (hv : bvs[i]? = some v) => (let ⟨g, hg, hw⟩ := hbW i v hv; (⟨g, hg, hw.keeps fun b o hb ho => kp b o (neN (by omega)) ho⟩ : ∃ g, G[i]? = some g ∧ WsAt w (L + 7) h2 v (leadQ g 0)))
  clear CC' kp
  refine seqT (fun s' => ∃ (h3 : Heap) (tk : Nat) (m' : Str → Option Value) (ov : Addr) (ovs : List Value) (os : List Int), s' = { s with heap := h3, toks := tk } ∧ Fr s.heap L h3 m' ∧ (∀ b o, @Ne Nat b L → h2.get? b = some o → h3.get? b = some o) ∧ m' (Str.ofString "wishes") = some (.ref ws) ∧ m' (Str.ofString "like") = some (.ref li) ∧ m' (Str.ofString "over") = some (.ref ov) ∧
    h3.IsList ov ovs.toArray ∧ @LT.lt Nat _ (L + 6) ov ∧ IntsAre ovs os ∧ os.length = (G.filter (overP n ds)).length) ?_ ?_
  · have hcg := CC2.c5
    have hcb := CC2.c6
    have hcl := CC2.c4
    have hcs := CC2.c1
    refine' compAK (cl := [(Str.ofString "size", L + 1), (Str.ofString "leads", L + 4), (Str.ofString "grown", L + 5), (Str.ofString "bases", L + 6)]) (fun K j ys _ => ∃ ks : List Int, IntsAre ys ks ∧ ks.length = ((G.take j).filter (overP n ds)).length) ?s81 ?s82 ?s83 ?s84 ?s85 ?s86 ?s87 ?s88 ?s89 ?s80 ?s8a
    case s81 => with_unfolding_all rfl
    case s82 => with_unfolding_all rfl
    case s83 => (intro n acc; rfl)
    case s84 => (intro h; rfl)
    case s85 => rfl
    case s86 => decide
    case s87 => (intro K C; kernel_rfl!)
    case s88 => kernel_rfl!
    case s89 => rfl
    case s8a => (intro _; with_unfolding_all rfl)
    obtain ⟨led, N, hled⟩ := ledgerAll s.heap L h2
    refine with_tk (by dsimp only; omega) ?_
    walk_at "go"
    unfold Tk
    intro htk4
    rename IsRange _ _ _ _ _ _ _ _ => hR
    rename (∀ b o, Heap.get? _ b = some o → Heap.get? _ b = some o) => st
    rename (Fr _ _ _ _) => F1
    dsimp only at hR st htk4 ⊢
    refine ⟨gvs.length, _, m2, srcRangeC rfl hR (by omega) (by omega) (by omega) (by omega), by rw [sizeLine_eq]; omega, ⟨fun _ _ => ⟨[], .nil, rfl⟩, fun C j ys h a => ?_, fun _ _ _ _ _ a _ => a, ?_⟩, F1.ns, ?_⟩
    · obtain ⟨ks, hk1, hk2⟩ := a
      rw [hk1.length, hk2]
      exact Nat.le_trans (List.length_filter_le _ _) (by rw [List.length_take]; omega)
    · rintro C j v ys s' hj ⟨kt, rfl⟩ hI' FK hx hs'
      obtain ⟨h4, tk4, rfl, htk'⟩ := hs'
      rw [show (0 + (j : Int) * 1) = j by omega] at hx
      dsimp only at htk' FK hI' hx
      have X' := X.keeps F1.keep
      have T' := T.keeps F1.keep
      have FKK : Stop (Fr _ C h4 _) := FK
      have XK := X'.keeps FK.keep
      have TK := T'.keeps FK.keep
      have N' := newsOf FK
      have kp2 : ∀ b o, h2.get? b = some o → h4.get? b = some o := fun b o ho => FK.keep b o (st b o ho)
      have hba2 := hba.at fun o ho => kp2 _ o ho
      have hle2 := hle.at fun o ho => kp2 _ o ho
      have hgr2 := hgr.at fun o ho => kp2 _ o ho
      have hcb2 := hcb.keeps st
      have hcl2 := hcl.keeps st
      have hcg2 := hcg.keeps st
      have hcs2 := hcs.keeps st
      obtain ⟨bv, hbv⟩ : ∃ v, bvs[j]? = some v := ⟨_, List.getElem?_eq_getElem (by omega)⟩
      obtain ⟨lv, hlv⟩ : ∃ v, lvs[0]? = some v := ⟨_, List.getElem?_eq_getElem (by omega)⟩
      obtain ⟨g, hg, hbw⟩ := hbW j bv hbv
      have hbw2 := hbw.keeps fun b o _ ho => kp2 b o ho
      have hlw2 := (hlW 0 lv hlv).keeps fun b o _ ho => kp2 b o ho
      have hbv2 : bvs.toArray[(j : Int).toNat]? = some bv := by simpa using hbv
      have hlv2 : lvs.toArray[(0 : Int).toNat]? = some lv := by simpa using hlv
      refine wpAny_tests_one ?_
      walk_at "go"
      · unfold Stop
        rename (((leadQ g 0).fst : Nat) : Int) = ((leadQ ds 0).fst : Nat) => hnn
        refine' compW (cl := [(Str.ofString "leads", L + 4), (Str.ofString "k", C + 1), (Str.ofString "grown", L + 5)]) (fun _ i ys _ => ys = ((List.range i).map fun q => decide ((leadQ ds (q + 1)).1 ≤ (leadQ g (q + 1)).1)).map Value.bool) ?t82 ?t83 ?t84 ?t85 ?t86 ?t80 ?t8a
        case t82 => with_unfolding_all rfl
        case t83 => decide
        case t84 => rfl
        case t85 => decide
        case t86 => decide
        case t8a => (intro _; with_unfolding_all rfl)
        refine with_tk (by dsimp only; omega) ?_
        walk_at "go"
        unfold Tk
        intro htk5
        rename IsRange _ _ _ _ _ _ _ _ => hR2
        rename (∀ b o, Heap.get? _ b = some o → Heap.get? _ b = some o) => st2
        rename (Fr _ _ _ _) => F2
        dsimp only at hR2 st2 htk5 ⊢
        have hgl : g ∈ G := List.mem_of_getElem? hg
        have hgd := hGd g hgl
        obtain ⟨gv, hgv⟩ : ∃ v, gvs[j]? = some v := ⟨_, List.getElem?_eq_getElem (by omega)⟩
        obtain ⟨ga, gxs, g', rfl, hg', _, hgxl, hgxs⟩ := hgP.get hgv
        obtain rfl : g = g' := Option.some.inj (hg.symm.trans hg')
        have hgv2 : gvs.toArray[(j : Int).toNat]? = some (.ref ga) := by simpa using hgv
        refine ⟨n, _, srcRangeC rfl hR2 (by omega) (by omega) (by omega) (by omega), by rw [sizeLine_eq]; omega, ⟨fun _ _ => rfl, fun _ i ys h a => by rw [a]; simp, fun _ _ _ _ _ a _ => a, ?_⟩, ?_⟩
        · rintro C2 i v ys2 s' m3 hi ⟨lt, rfl⟩ hI2 F3 hx2 hs'
          obtain ⟨h5, tk5, rfl, htk6⟩ := hs'
          rw [show (1 + (i : Int) * 1) = ((i + 1 : Nat) : Int) by omega] at hx2
          dsimp only at htk6 F3 hI2
          refine wpAny_tests_nil ⟨Keeps.refl _, ?_⟩
          rw [if_pos rfl]
          dsimp only
          have N3 := newsOf F3
          have kp3 : ∀ b o, h4.get? b = some o → h5.get? b = some o := fun b o ho => F3.keep b o (st2 b o ho)
          have kp4 : ∀ b o, h2.get? b = some o → h5.get? b = some o := fun b o ho => kp3 b o (kp2 b o ho)
          have hcg3 := hcg.keeps kp4
          have hcl3 := hcl.keeps kp4
          have hck3 := hx.keeps kp3
          have hgr3 := hgr.at fun o ho => kp4 _ o ho
          have hle3 := hle.at fun o ho => kp4 _ o ho
          have hgx3 := hgxl.at fun o ho => kp4 _ o ho
          have X3 := XK.keeps st2
          have T3 := TK.keeps st2
          obtain ⟨lw, hlw⟩ : ∃ v, lvs[i + 1]? = some v := ⟨_, List.getElem?_eq_getElem (by omega)⟩
          have hlww := hlW (i + 1) lw hlw
          have hlw3 : lvs.toArray[((i + 1 : Nat) : Int).toNat]? = some lw := by simpa using hlw
          walk_at "go"
          refine lead_c (X3.keeps F3.keep) (T3.keeps F3.keep) (by simp only [depth_deeper]; omega) rfl hgx3 hgxs hgd.2 (by omega) (i + 1) lt (by dsimp only; omega) fun v2 h6 tk6 st6 ww => ?_
          have F6 := F3.grownK st6
          have N6 := newsOf F6
          have hcl6 := hcl3.keeps st6
          have hle6 := hle3.at fun o ho => st6 _ o ho
          have hlw6 := hlww.keeps fun b o _ ho => st6 b o (kp4 b o ho)
          walk_at "go"
          refine ⟨⟨_, _, rfl, st6⟩, ?_⟩
          show _ = List.map Value.bool (List.map _ (List.range (i + 1)))
          rw [show ys2 = _ from hI2, List.range_succ, List.map_append, List.map_append]
          simp only [Int.ofNat_le, List.map_cons, List.map_nil]
        · intro D C2 h5 tk5 ys2 hD hDC hl hI2 st3
          dsimp only at hD st3 ⊢
          refine notin_bools (bs := (List.range n).map fun q => decide ((leadQ ds (q + 1)).1 ≤ (leadQ g (q + 1)).1)) (by rw [← show ys2 = _ from hI2]; exact hl.isList) ?_
          have hov : ((List.range n).map fun q => decide ((leadQ ds (q + 1)).1 ≤ (leadQ g (q + 1)).1)).all id = overP n ds g := by
            unfold overP
            rw [decide_eq_true (Int.ofNat_inj.mp hnn), Bool.true_and, List.all_map]
            rfl
          rw [hov]
          obtain ⟨ks, hk1, hk2⟩ := hI'
          have hfl := filter_take (q := overP n ds) hg
          have kp5 : ∀ b o, h4.get? b = some o → h5.get? b = some o := fun b o ho => st3 b o (st2 b o ho)
          have hck5 := hx.keeps kp5
          have FK5 := FKK.out.grownK kp5
          have N5 := newsOf FK5
          cases hb : overP n ds g with
          | false =>
            walk_at "go"
            refine ⟨⟨_, _, rfl, kp5⟩, ?_⟩
            rw [if_neg (by simp)]
            exact ⟨ks, hk1, by rw [hfl, hb, hk2]; simp⟩
          | true =>
            walk_at "go"
            refine ⟨⟨_, _, rfl, kp5⟩, ?_⟩
            rw [if_pos (by simp)]
            (try dsimp only)
            walk_at "go"
            exact ⟨Keeps.refl _, ks ++ [(j : Int)], ints_snoc hk1, by rw [hfl, hb, List.length_append, List.length_append, hk2]; rfl⟩
      · rename (¬ (((leadQ g 0).fst : Nat) : Int) = ((leadQ ds 0).fst : Nat)) => hnn
        obtain ⟨ks, hk1, hk2⟩ := hI'
        have hfl := filter_take (q := overP n ds) hg
        have hb : overP n ds g = false := by
          unfold overP
          rw [decide_eq_false fun e => hnn (Int.ofNat_inj.mpr e), Bool.false_and]
        refine ⟨Keeps.refl _, ?_⟩
        rw [if_neg (by simp)]
        exact ⟨ks, hk1, by rw [hfl, hb, hk2]; simp⟩
    · intro D C h3 tk3 ys hD hDC hl hI' hn' hk'
      dsimp only at hD hk' ⊢
      obtain ⟨os, hk1, hk2⟩ := hI'
      rw [show G.take gvs.length = G from List.take_of_length_le (by omega)] at hk2
      have lD : @LT.lt Nat _ (L + 6) D := Nat.lt_of_lt_of_le (IsCell.lt (CC2.c6.keeps st)) hD
      exact ⟨rfl, h3, tk3, _, D, ys, os, rfl, ⟨hn', fun b o ho => hk' b o (Nat.ne_of_lt (Nat.lt_of_lt_of_le (Heap.lt_size ho) F1.above)) (F1.keep b o ho), F1.above⟩, fun b o hb ho => hk' b o hb (st b o ho), hws, hli, rfl, hl.isList, lD, hk1, hk2⟩
  clear F
  rintro _ ⟨h3, tk3, m3, ov, ovs, os, rfl, F, kp, hws, hli, hov, hovl, hovL, hos, hol⟩ htk2
  dsimp only at htk2
  have htk0' : 0 < tk3 := by omega
  clear htk2 htk0
  have CC := CC2.keeps kp
  have hwl := hwl.at fun o ho => kp _ o (neN (by omega)) ho
  have hpl := hpl.at fun o ho => kp _ o (neN (by omega)) ho
  have hlil := hlil.at fun o ho => kp _ o (neN (by omega)) ho
  have hc1 := CC.c1
  have hc2 := CC.c2
  have hc3 := CC.c3
  clear CC2 CC kp hle hlW hgr hgP hba hbW
  -- due, tight
  obtain ⟨W, hW⟩ : ∃ W, sortA rs = W := ⟨_, rfl⟩
  rw [hW] at hwI
  have hWl : W.length = n := by rw [← hW, (sortA_perm rs).length_eq, hrl]
  have hWn : ∀ r ∈ W, r < n := fun r hr => hrn r ((sortA_perm rs).mem_iff.mp (hW ▸ hr))
  have hwvl : wvs.length = n := by rw [hwI.length, List.length_map, hWl]
  refine seqT (fun s' => ∃ (h4 : Heap) (tk : Nat) (m' : Str → Option Value), s' = { s with heap := h4, toks := tk } ∧ Fr s.heap L h4 m' ∧ (∀ b o, @Ne Nat b L → h3.get? b = some o → h4.get? b = some o) ∧ m' (Str.ofString "wishes") = some (.ref ws) ∧ m' (Str.ofString "like") = some (.ref li) ∧ m' (Str.ofString "over") = some (.ref ov) ∧
    m' (Str.ofString "due") = some (.bool (dtP n W 0).1) ∧ m' (Str.ofString "tight") = some (.bool (dtP n W 0).2)) ?_ ?_
  · obtain ⟨led, N, hled⟩ := ledgerAll s.heap L h3
    have kbf : ∀ {h' m'}, Fr s.heap L h' m' → News s.heap L h' led → KeepB L h3 h' := fun F' N' => keepAll F hled F' N'
    walk_at "go"
    rename (Fr _ _ _ _) => F5
    rename (News _ _ _ _) => N5
    exact ⟨rfl, _, _, _, rfl, F5, kbf F5 (News.tl N5), hws, hli, hov, by rw [show (dtP n W 0).1 = decide (W.sum % 2 = 0) from rfl, ← due_cast]; rfl, rfl⟩
  clear F
  rintro _ ⟨h4, tk4, m4, rfl, F, kp, hws, hli, hov, hdue, htig⟩ htk2
  dsimp only at htk2
  have htk0 : 0 < tk4 := by omega
  clear htk2 htk0'
  have hwl := hwl.at fun o ho => kp _ o (neN (by omega)) ho
  have hpl := hpl.at fun o ho => kp _ o (neN (by omega)) ho
  have hlil := hlil.at fun o ho => kp _ o (neN (by omega)) ho
  have hovl := hovl.at fun o ho => kp _ o (neN (by omega)) ho
  have hc1 := IsCell.at hc1 fun o ho => kp _ o (neN (by omega)) ho
  have hc2 := IsCell.at hc2 fun o ho => kp _ o (neN (by omega)) ho
  have hc3 := IsCell.at hc3 fun o ho => kp _ o (neN (by omega)) ho
  clear kp
  -- the for
  refine seqT (fun s' => ∃ (h5 : Heap) (tk : Nat) (m' : Str → Option Value), s' = { s with heap := h5, toks := tk } ∧ Fr s.heap L h5 m' ∧ (∀ b o, @Ne Nat b L → @Ne Nat b (L + 3) → h4.get? b = some o → h5.get? b = some o) ∧ m' (Str.ofString "like") = some (.ref li) ∧ m' (Str.ofString "over") = some (.ref ov) ∧
    m' (Str.ofString "due") = some (.bool (dtP n W n).1) ∧ m' (Str.ofString "tight") = some (.bool (dtP n W n).2)) ?_ ?_
  · refine forW (J := fun I i s' => ∃ (h : Heap) (tk : Nat) (m' : Str → Option Value) (cv : Option Value), s' = { s with heap := h, toks := tk } ∧ 0 < tk ∧ Fr s.heap L h m' ∧ (∀ b o, @Ne Nat b L → @Ne Nat b (L + 3) → h4.get? b = some o → h.get? b = some o) ∧ h.IsCell (L + 3) cv ∧ (∀ b o, h4.get? b = some o → @LT.lt Nat _ b I) ∧ @LT.lt Nat _ (L + 3) I ∧
      m' (Str.ofString "wishes") = some (.ref ws) ∧ m' (Str.ofString "like") = some (.ref li) ∧ m' (Str.ofString "over") = some (.ref ov) ∧ m' (Str.ofString "due") = some (.bool (dtP n W i).1) ∧ m' (Str.ofString "tight") = some (.bool (dtP n W i).2)) ?_ ?_
    rotate_left
    · intro _; with_unfolding_all rfl
    obtain ⟨led, N, hled⟩ := ledgerAll s.heap L h4
    refine with_tk (by dsimp only; omega) ?_
    walk_at "go"
    unfold Tk
    intro htk5
    rename IsRange _ _ _ _ _ _ _ _ => hR
    rename (∀ b o, Heap.get? _ b = some o → Heap.get? _ b = some o) => st
    rename (Fr _ _ _ _) => F1
    dsimp only at hR st htk5 ⊢
    refine ⟨n, _, srcRangeF rfl hR (by omega) (by omega) (by omega) (by omega), ?_, ?_, ?_, ?_⟩
    · intro o hof
      exact ⟨_, _, m4, none, rfl, htk5, F1.push o, fun b o' _ _ e => Heap.get?_push_of_some _ (st b o' e), hc3.keeps fun b o' e => Heap.get?_push_of_some _ (st b o' e), fun b o' e => Heap.lt_size (st b o' e), IsCell.lt (hc3.keeps st), hws, hli, hov, hdue, htig⟩
    · rintro I i _ h' tk' ⟨h, tk, m, cv, rfl, q1, F, q2, q3, q4, q5, q6⟩ hk _ htk
      dsimp only at hk htk
      exact ⟨h', tk', m, cv, rfl, by omega, Fr.but F (by omega) hk, fun b o n1 n2 e => hk b o (Nat.ne_of_lt (q4 b o e)) (q2 b o n1 n2 e), IsCell.at q3 fun o e => hk _ o (Nat.ne_of_lt q5) e, q4, q5, q6⟩
    · rintro I oI i v _ _ hi ⟨kt, rfl⟩ ⟨h, tk, m, cv, rfl, q1, F, q2, q3, q4, q5, q6, q7, q8, q9, q10⟩ hoI
      rw [show (1 + (i : Int) * 1) = ((i + 1 : Nat) : Int) by omega]
      refine wpAny_assign_Name (wpAny_storeName_cell (by with_unfolding_all rfl) (by with_unfolding_all rfl) (by with_unfolding_all rfl) q3 fun h1 hcp hs1 => ?_)
      have kb1 := keepCell hs1
      have F1 : Fr s.heap L h1 m := Fr.but F (by omega) kb1
      have q2' : ∀ b o, @Ne Nat b L → @Ne Nat b (L + 3) → h4.get? b = some o → h1.get? b = some o := fun b o n1 n2 e => kb1 b o n2 (q2 b o n1 n2 e)
      have roI := kb1 _ _ (Nat.ne_of_gt q5) hoI
      have hc1' := IsCell.at hc1 fun o ho => q2' _ o (neN (by omega)) (neN (by omega)) ho
      have hwl' := hwl.at fun o ho => q2' _ o (neN (by omega)) (neN (by omega)) ho
      clear F q2 kb1 hs1 q3 hoI st hR
      have hdr := hwI.drop (n - (i + 1))
      have htr := hwI.take (n - (i + 1))
      refine seqT (fun s' => ∃ (h2 : Heap) (tk : Nat) (m' : Str → Option Value), s' = { s with heap := h2, toks := tk } ∧ Fr s.heap L h2 m' ∧ KeepB L h1 h2 ∧ m' (Str.ofString "wishes") = some (.ref ws) ∧ m' (Str.ofString "like") = some (.ref li) ∧ m' (Str.ofString "over") = some (.ref ov) ∧ m' (Str.ofString "due") = some (.bool (dtP n W i).1) ∧ m' (Str.ofString "tight") = some (.bool (dtP n W i).2) ∧
        isI m' (Str.ofString "great") (greatP n W (i + 1) : Nat) ∧ isI m' (Str.ofString "room") (roomP n W (i + 1) : Nat)) ?_ ?_
      · obtain ⟨led, N, hled⟩ := ledgerAll s.heap L h1
        have kbf : ∀ {h' m'}, Fr s.heap L h' m' → News s.heap L h' led → KeepB L h1 h' := fun F' N' => keepAll F1 hled F' N'
        have rawOn : RawOn := trivial
        walk_at "go"
        unfold Stop
        rename (News _ _ _ _) => N2
        rename (Fr _ _ _ _) => F2
        refine sum_raw rfl (N2.isList (.head _)) hdr fun h2 tk2 t2 st2 => ?_
        have F3 := F2.grownK st2
        have N3 := N2.grown st2
        have hc1'' := IsCell.at hc1' fun o ho => (kbf F3 (News.tl N3)) _ o (neN (by omega)) ho
        have hcp'' := IsCell.at hcp fun o ho => (kbf F3 (News.tl N3)) _ o (neN (by omega)) ho
        rw [← List.map_drop, sum_cast]
        walk_at "go"
        unfold Stop
        refine' compW (cl := [(Str.ofString "k", L + 3)]) (fun C j ys _ => IntsAre ys (((W.take (n - (i + 1))).take j).map fun x => ((min x (i + 1) : Nat) : Int))) ?t02 ?t03 ?t04 ?t05 ?t06 ?t00 ?t0a
        case t02 => with_unfolding_all rfl
        case t03 => decide
        case t04 => rfl
        case t05 => decide
        case t06 => decide
        case t0a => (intro _; with_unfolding_all rfl)
        have hwl3 := hwl'.at fun o ho => (kbf F3 (News.tl N3)) _ o (neN (by omega)) ho
        walk_at "go"
        rename (News _ _ _ _) => N4
        rename (Fr _ _ _ _) => F4
        have hl4 := N4.isList (.head _)
        rw [show wvs.toArray.toList = wvs from rfl] at hl4
        have htl : (wvs.take (n - (i + 1))).length = n - (i + 1) := by rw [List.length_take]; omega
        have hcp4 := IsCell.at hcp fun o ho => (kbf F4 (News.tl (News.tl N4))) _ o (neN (by omega)) ho
        refine ⟨(wvs.take (n - (i + 1))).length, _, srcList rfl hl4, by rw [sizeLine_eq]; omega, ⟨fun _ _ => .nil, ?_, fun _ _ _ _ _ a _ => a, ?_⟩, ?_⟩
        · intro C j ys h' a
          rw [a.length, List.length_map, List.length_take]
          omega
        · intro C j v ys s' m' hj hv hI' F' hx hs'
          obtain ⟨h', tk', rfl, htk'⟩ := hs'
          obtain ⟨k, t5, hk, rfl⟩ := ints_get htr hv
          rw [← List.map_take, List.getElem?_map] at hk
          obtain ⟨x, hx', rfl⟩ := Option.map_eq_some_iff.mp hk
          dsimp only at htk' F' hI'
          refine wpAny_tests_nil ⟨Keeps.refl _, ?_⟩
          rw [if_pos rfl]
          dsimp only
          have N' := newsOf F'
          have hcp5 := hcp4.keeps F'.keep
          have X5 := X.keeps F4.keep
          have T5 := T.keeps F4.keep
          walk_at "go"
          unfold Stop
          refine min_two_ints rfl fun h6 tk6 st6 => ?_
          have e5 : (if (((i + 1 : Nat) : Int) < (x : Int)) then Value.int ((i + 1 : Nat) : Int) kt else Value.int (x : Int) t5) = .int ((min x (i + 1) : Nat) : Int) (if i + 1 < x then kt else t5) := by
            by_cases hlt : i + 1 < x
            · rw [if_pos (by omega), if_pos hlt, Nat.min_eq_right (by omega)]
            · rw [if_neg (by omega), if_neg hlt, Nat.min_eq_left (by omega)]
          rw [e5]
          refine ⟨⟨_, _, rfl, st6⟩, ?_⟩
          show IntsAre _ (((W.take (n - (i + 1))).take (j + 1)).map fun x => ((min x (i + 1) : Nat) : Int))
          rw [List.take_add_one, hx', List.map_append]
          exact ints_snoc hI'
        · intro D C h6 tk6 ys hD hDC hl6 hI6 st6
          dsimp only at hD st6 ⊢
          have F6 := F4.grownK st6
          have N6 := N4.grown st6
          rw [show (W.take (n - (i + 1))).take (wvs.take (n - (i + 1))).length = W.take (n - (i + 1)) from List.take_of_length_le (by rw [htl, List.length_take]; omega)] at hI6
          walk_at "go"
          unfold Stop
          refine sum_raw rfl hl6.isList hI6 fun h7 tk7 t7 st7 => ?_
          have F7 := F6.grownK st7
          have N7 := N6.grown st7
          rw [show ((W.take (n - (i + 1))).map fun x => ((min x (i + 1) : Nat) : Int)) = ((W.take (n - (i + 1))).map fun x => min x (i + 1)).map (fun (q : Nat) => (q : Int)) by rw [List.map_map]; rfl, sum_cast]
          walk_at "go"
          rename (News _ _ _ _) => N8
          rename (Fr _ _ _ _) => F8
          have hrm : ((i + 1 : Nat) : Int) * (((i + 1 : Nat) : Int) - 1) + (((W.take (n - (i + 1))).map fun x => min x (i + 1)).sum : Nat) = (roomP n W (i + 1) : Nat) := by
            rw [show (((i + 1 : Nat) : Int) - 1) = (i : Int) by omega, ← Int.natCast_mul, ← Int.natCast_add]
            rfl
          exact ⟨rfl, _, _, _, rfl, F8, kbf F8 (News.tl (News.tl (News.tl N8))), q6, q7, q8, q9, q10, ⟨_, rfl⟩, .of rfl hrm⟩
      · clear F1
        rintro _ ⟨h2, tk2, m2, rfl, F, kb, p1, p2, p3, p4, p5, ⟨tg, hg⟩, ⟨tr, hr⟩⟩ htk6
        dsimp only at htk6
        have htk7 : 0 < tk2 := by omega
        clear htk6
        obtain ⟨wv, hwv⟩ : ∃ v, wvs[n - (i + 1)]? = some v := ⟨_, List.getElem?_eq_getElem (by omega)⟩
        obtain ⟨z, tz, hz, rfl⟩ := ints_get hwI hwv
        rw [List.getElem?_map] at hz
        obtain ⟨x, hx, rfl⟩ := Option.map_eq_some_iff.mp hz
        have hwv2 : wvs.toArray[((n : Int) - ((i + 1 : Nat) : Int)).toNat]? = some (.int (x : Int) tz) := by
          rw [show ((n : Int) - ((i + 1 : Nat) : Int)).toNat = n - (i + 1) by omega]
          simpa using hwv
        have hc1b := IsCell.at hc1' fun o ho => kb _ o (neN (by omega)) ho
        have hcpb := IsCell.at hcp fun o ho => kb _ o (neN (by omega)) ho
        have hwlb := hwl'.at fun o ho => kb _ o (neN (by omega)) ho
        have hds : dtP n W (i + 1) = ((dtP n W i).1 && decide (greatP n W (i + 1) ≤ roomP n W (i + 1)), (dtP n W i).2 && (decide (x < i) || decide (greatP n W (i + 1) = roomP n W (i + 1)))) := by
          rw [dtP_succ]
          unfold stepP
          rw [List.getD_eq_getElem?_getD, hx]
          rfl
        obtain ⟨b1, hb1⟩ : ∃ b, (dtP n W i).1 = b := ⟨_, rfl⟩
        obtain ⟨b2, hb2⟩ : ∃ b, (dtP n W i).2 = b := ⟨_, rfl⟩
        rw [hb1, hb2] at hds
        rw [hb1] at p4
        rw [hb2] at p5
        have hget : (W.map fun (q : Nat) => (q : Int)).getD ((n : Int) - ((i + 1 : Nat) : Int)).toNat 0 = (x : Int) := by
          rw [show ((n : Int) - ((i + 1 : Nat) : Int)).toNat = n - (i + 1) by omega, List.getD_eq_getElem?_getD, List.getElem?_map, hx]
          rfl
        obtain ⟨led, N, hled⟩ := ledgerAll s.heap L h2
        have kbf : ∀ {h' m'}, Fr s.heap L h' m' → News s.heap L h' led → KeepB L h2 h' := fun F' N' => keepAll F hled F' N'
        refine wpAny_execs_cons (with_tk (by dsimp only; omega) ?_)
        walk_at "go"
        all_goals (
          unfold Tk
          intro htk8
          walk_at "go"
          rename (News _ _ _ _) => N8
          rename (Fr _ _ _ _) => F8
          have kb8 := kbf F8 (News.tl N8)
          refine ⟨rfl, ⟨_, _, _, _, rfl, htk8, F8, fun b o n1 n2 e => kb8 b o n1 (kb b o n1 (q2' b o n1 n2 e)), IsCell.at hcpb fun o ho => kb8 _ o (neN (by omega)) ho, q4, q5, p1, p2, p3, ?_, ?_⟩, kb8 _ _ (Nat.ne_of_gt (by omega)) (kb _ _ (Nat.ne_of_gt (by omega)) roI)⟩
          · show some (Value.bool _) = some (Value.bool _)
            rw [hds]
            subst_vars
            first | rfl | (rw [cast_le]; rfl)
          · show some (Value.bool _) = some (Value.bool _)
            rw [hds]
            first
              | exact congrArg (fun b => some (Value.bool b)) (tight_lt (by assumption) hget (by assumption))
              | exact congrArg (fun b => some (Value.bool b)) (tight_ge (by assumption) hget (by assumption))
              | exact congrArg (fun b => some (Value.bool b)) (tight_no (by assumption)))
    · rintro I _ h' tk' ⟨h, tk, m, cv, rfl, q1, F, q2, q3, q4, q5, q6, q7, q8, q9, q10⟩ hk
      exact ⟨rfl, h', tk', m, rfl, Fr.but F (by omega) hk, fun b o n1 n2 e => hk b o (Nat.ne_of_lt (q4 b o e)) (q2 b o n1 n2 e), q7, q8, q9, q10⟩
  clear F hc3 hwl
  rintro _ ⟨h5, tk5, m5, rfl, F, kp, hli, hov, hdue, htig⟩ htk2
  dsimp only at htk2
  have htk0' : 0 < tk5 := by omega
  clear htk2
  have hpl := hpl.at fun o ho => kp _ o (neN (by omega)) (neN (by omega)) ho
  have hlil := hlil.at fun o ho => kp _ o (neN (by omega)) (neN (by omega)) ho
  have hovl := hovl.at fun o ho => kp _ o (neN (by omega)) (neN (by omega)) ho
  have hc2 := IsCell.at hc2 fun o ho => kp _ o (neN (by omega)) (neN (by omega)) ho
  clear kp hc1
  -- return
  have hds1 : ∀ d ∈ ds, 1 ≤ d ∧ d < 8 := by
    intro d hd
    refine ⟨?_, hd8 d hd⟩
    rw [← hds] at hd
    obtain ⟨r, _, rfl⟩ := List.mem_map.mp hd
    omega
  have hlaw := pure_law hn45 hrl hrn
  unfold lawP at hlaw
  rw [hds, hW, hG, Bool.and_eq_true, Bool.and_eq_true] at hlaw
  obtain ⟨⟨l1, l2⟩, l3⟩ := hlaw
  have l1 := eq_of_beq l1
  have l2 := eq_of_beq l2
  have l3 := eq_of_beq l3
  rw [← isEmpty_len hol] at l2
  rw [← hkl] at l3
  obtain ⟨b1, hb1⟩ : ∃ b, (dtP n W n).1 = b := ⟨_, rfl⟩
  obtain ⟨b2, hb2⟩ : ∃ b, (dtP n W n).2 = b := ⟨_, rfl⟩
  rw [hb1] at l1 l2 hdue
  rw [hb2] at l3 htig
  have hkvl : kvs.length = ks.length := hks.length
  have hkb : ks.length ≤ 1 := by rw [l3]; split <;> omega
  have X5 := X.keeps F.keep
  have T5 := T.keeps F.keep
  have N := newsOf F
  walk_at "go"
  refine tied_c X5 T5 (by simp only [depth_deeper]; omega) (by simp only [Around.deeper_units]; omega) rfl hpl hpS hds1 (by omega) (by (try dsimp only); omega) fun h6 tk6 st6 => ?_
  have F6 := F.grownK st6
  obtain ⟨led, N6, hled⟩ := ledgerAll s.heap L h6
  have kbf : ∀ {h' m'}, Fr s.heap L h' m' → News s.heap L h' led → KeepB L h6 h' := fun F' N' => keepAll F6 hled F' N'
  have hovl6 := hovl.at fun o ho => st6 _ o ho
  have hlil6 := hlil.at fun o ho => st6 _ o ho
  rw [hdl, l1]
  walk_at "go"
  · rename (News _ _ _ _) => N7
    rename (Fr _ _ _ _) => F7

    have kb7 := kbf F7 (News.tl N7)
    have hovl7 := hovl6.at fun o ho => kb7 _ o (neN (by omega)) ho
    have hlil7 := hlil6.at fun o ho => kb7 _ o (neN (by omega)) ho
    refine ne_ints_nil hovl7 (News.isList N7 (.head _)) hos (by simp only [Around.deeper_units]; omega) ?_
    rw [l2]
    walk_at "go"
    · rename (b2 = true) => hb
      rw [hb, if_pos rfl] at l3
      have e1 : ((kvs.length : Int) == 1) = true := by rw [beq_iff_eq]; omega
      rw [e1]
      exact hR _ _ F7.keep
    · rename (b2 = false) => hb
      rw [hb, if_neg (by simp)] at l3
      have e1 : ((kvs.length : Int) == 0) = true := by rw [beq_iff_eq]; omega
      rw [e1]
      exact hR _ _ F7.keep
  · rename ((b1 == b1) = false) => hbb
    rw [beq_self_eq_true] at hbb
    cases hbb
end
end Mine
end
section
open PySem PySem.W PySem.Spec PySem.Calls PyProof.Rows
namespace Mine
set_option maxHeartbeats 8000000 in
theorem fin : PySem.Challenge.rw_rs0105_01.Holds := hd (by
  k_fill
  intro w s₀ s₁ mg mb G Y fa o pm cd doc dV kV ho hd hcd hD hmg hg args vals as hpre hlay hrd hwl hlo
  have KX := kIn_of Y
  have X := (Ground.X G).1
  have V := (Ground.X G).2
  refine Ground.open G ?_
  intro T B D TE TW
  have hmg2 : mg (Str.ofString "law") = some (.ref fa) := hmg
  clear hD hcd hd hmg ho D TE TW B X V
  have h155 : mg (Str.ofString "law") = some (.ref 155) := mg_of KX T.g (by k_is)
  obtain rfl : fa = 155 := by
    have := hmg2.symm.trans h155
    injection this with this
    injection this
  wrow_args hpre hlay hrd hwl hlo
  all_goals (
    refine enter_call ?_
    refine codeAny_mono ?_ (fun _ _ g => GoodW.toG g)
    rename IntsAre _ _ => hI
    rename Heap.IsList _ _ _ => hL
    refine law_k KX T (by decide) (by rw [cLine_is]; decide) rfl hL hI (by omega) fun h' tk st => ?_
    refine ⟨.inl ⟨.bool true, .bool true, [], rfl, raisesW_false ?_, .bool true, ?_, unshared_nil⟩, st, rfl, hg⟩
    · wrow_none_raised
    · wrow_post))
end Mine
end
theorem PySem.Challenge.cw_rs0105_01_holds : PySem.Challenge.rw_rs0105_01.Holds := by
  exact Mine.fin
