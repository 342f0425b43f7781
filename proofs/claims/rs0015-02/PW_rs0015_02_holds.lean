import PyProof.Rows.All
import Wide.All
import OpenK.AllK
import Wide.FinOn
import PySem.Challenge.RW_rs0015_02
open PySem PySem.W PyProof.Rows PySem.Calls PySem.Spec
set_option Elab.async false
set_option maxRecDepth 100000
set_option linter.unusedVariables false
namespace Mine
/-- a store into a frame's names -/
abbrev up (m : Str → Option Value) (x : Str) (v : Value) : Str → Option Value := fun y => if y = x then some v else m y
theorem up_eq {m : Str → Option Value} {x : Str} {v : Value} : up m x v x = some v := if_pos rfl
theorem up_ne {m : Str → Option Value} {x y : Str} {v : Value} {r : Option Value} (h : y ≠ x) (e : m y = r) : up m x v y = r := (if_neg h).trans e

/-- what stands at the top: the written part, the names, the built-ins -/
structure Gl (K : Frag) (h : Heap) : Prop where
  inn : K.In h
  names : ∃ mg mb, h.Ns mainGlobals mg ∧ h.Ns builtinsNs mb ∧ ∀ x : Str, x ≠ "__name__" → mb x = bootBuiltins x
  lim : h.NoLimit
theorem Gl.keeps {K : Frag} {h h' : Heap} (G : Gl K h) (k : ∀ b o, h.get? b = some o → h'.get? b = some o) : Gl K h' :=
  let ⟨mg, mb, a, b, c⟩ := G.names
  ⟨G.inn.keeps k, ⟨mg, mb, a.keeps k, b.keeps k, c⟩, G.lim.keeps k⟩

/-- the frame at hand: its names, what the call has made; the rest of the state as at the start -/
structure Sf (s₀ : Shared) (h₀ : Heap) (L : Addr) (m : Str → Option Value) (news : List (Addr × Obj)) (s : Shared) : Prop where
  F : Fr h₀ L s.heap m
  N : News h₀ L s.heap news
  D : (news.map (·.1)).Nodup
  g : s.gens = s₀.gens
  d : s.drawn = s₀.drawn
  o : s.os = s₀.os

section
variable {prog : Program} {w : World} {K : Frag} {A : Around} {E : Value → Shared → Prop} {s s₀ : Shared} {h₀ : Heap} {env : Env} {m : Str → Option Value} {news : List (Addr × Obj)} {L : Addr}

theorem Sf.toks (S : Sf s₀ h₀ L m news s) (tk : Nat) : Sf s₀ h₀ L m news { s with toks := tk } := ⟨S.F, S.N, S.D, S.g, S.d, S.o⟩
theorem Sf.push (S : Sf s₀ h₀ L m news s) (ob : Obj) (hf : ob.isFreed = false := by rfl) (tk : Nat := s.toks) :
    Sf s₀ h₀ L m ((s.heap.objs.size, ob) :: news) { s with heap := s.heap.push ob, toks := tk } := by
  refine ⟨S.F.push _, News.push S.F S.N _ hf, ?_, S.g, S.d, S.o⟩
  refine List.nodup_cons.mpr ⟨fun h => ?_, S.D⟩
  obtain ⟨p, hp, e⟩ := List.mem_map.mp h
  exact absurd (Heap.lt_size (S.N p hp).1) (by rw [e]; exact Nat.lt_irrefl _)
theorem Sf.set {h' : Heap} {m' : Str → Option Value} (S : Sf s₀ h₀ L m news s) (hn : h'.Ns L m') (hs : Heap.SameBut L s.heap h') (tk : Nat) : Sf s₀ h₀ L m' news { s with heap := h', toks := tk } :=
  ⟨S.F.set hn hs, S.N.set hs, S.D, S.g, S.d, S.o⟩
theorem Sf.get (S : Sf s₀ h₀ L m news s) {a : Addr} {ob : Obj} (h : (a, ob) ∈ news) : s.heap.get? a = some ob := (S.N _ h).1
theorem Sf.old (S : Sf s₀ h₀ L m news s) {a : Addr} {ob : Obj} (h : h₀.get? a = some ob) : s.heap.get? a = some ob := S.F.keep _ _ h
theorem Sf.gl (S : Sf s₀ h₀ L m news s) (G : Gl K h₀) : Gl K s.heap := G.keeps S.F.keep
theorem Sf.sub (S : Sf s₀ h₀ L m news s) {news' : List (Addr × Obj)} (h : ∀ p ∈ news', p ∈ news) (hd : (news'.map (·.1)).Nodup) : Sf s₀ h₀ L m news' s :=
  ⟨S.F, fun p hp => S.N p (h p hp), hd, S.g, S.d, S.o⟩
theorem Sf.perm (S : Sf s₀ h₀ L m news s) {news' : List (Addr × Obj)} (h : news.Perm news') : Sf s₀ h₀ L m news' s :=
  S.sub (fun p hp => h.mem_iff.mpr hp) ((h.map (·.1)).nodup_iff.mp S.D)
theorem Sf.sublist (S : Sf s₀ h₀ L m news s) {news' : List (Addr × Obj)} (h : news'.Sublist news) : Sf s₀ h₀ L m news' s :=
  S.sub (fun p hp => h.mem hp) ((h.map (·.1)).nodup S.D)
theorem Sf.tail {p : Addr × Obj} (S : Sf s₀ h₀ L m (p :: news) s) : Sf s₀ h₀ L m news s := S.sublist (List.sublist_cons_self _ _)
/-- an object of the call's own is changed -/
theorem Sf.upd {a : Addr} {ob ob' : Obj} {h' : Heap} (S : Sf s₀ h₀ L m ((a, ob) :: news) s) (hs : Heap.SameBut a s.heap h') (ho : h'.get? a = some ob') (tk : Nat := s.toks) :
    Sf s₀ h₀ L m ((a, ob') :: news) { s with heap := h', toks := tk } := by
  have hz := S.N (a, ob) (.head _)
  have hne : ∀ p ∈ news, p.1 ≠ a := fun p hp e => (List.nodup_cons.mp S.D).1 (List.mem_map.mpr ⟨p, hp, e⟩)
  refine ⟨S.F.change hs hz.2.1 hz.2.2, fun p hp => ?_, S.D, S.g, S.d, S.o⟩
  rcases List.mem_cons.mp hp with rfl | hp
  · exact ⟨ho, hz.2⟩
  · have := S.N p (.tail _ hp)
    exact ⟨(hs.2 p.1 (hne p hp)).trans this.1, this.2⟩

theorem nm_local {x : Str} {pos : Pos} {v : Value} {Q : Value → Shared → Prop} (S : Sf s₀ h₀ env.locals m news s) (hv : m x = some v) (h : Q v s)
    (hk : env.scope.kind = .function := by rfl) (hx : env.kindOf x = some .local := by rfl) (hd : (x == ("__debug__" : Str)) = false := by decide) :
    wpAny (model prog w) A (eval (.Name x pos) env) Q E s := wpAny_Name (wpAny_loadName_local hk hx S.F.ns hv h) hd
theorem ld_local {x : Str} {v : Value} {Q : Value → Shared → Prop} (S : Sf s₀ h₀ env.locals m news s) (hv : m x = some v) (h : Q v s)
    (hk : env.scope.kind = .function := by rfl) (hx : env.kindOf x = some .local := by rfl) :
    wpAny (model prog w) A (loadName env x) Q E s := wpAny_loadName_local hk hx S.F.ns hv h
theorem nm_global {x : Str} {pos : Pos} {v : Value} {Q : Value → Shared → Prop} (S : Sf s₀ h₀ env.locals m news s) (G : Gl K h₀) (e : nsIn K mainGlobals x = some (some v)) (h : Q v s)
    (hk : env.scope.kind = .function := by rfl) (hx : env.kindOf x = some .globalImplicit := by rfl) (hg : env.globals = mainGlobals := by rfl) (hd : (x == ("__debug__" : Str)) = false := by decide) :
    wpAny (model prog w) A (eval (.Name x pos) env) Q E s := by
  obtain ⟨mg, mb, a, b, c⟩ := (S.gl G).names
  exact Name_function_global hk hx (loadGlobal_global (hg ▸ a) (mg_of (S.gl G).inn a e) h) hd
theorem nm_builtin {x : Str} {pos : Pos} {v : Value} {Q : Value → Shared → Prop} (S : Sf s₀ h₀ env.locals m news s) (G : Gl K h₀) (e : nsIn K mainGlobals x = some none) (hv : bootBuiltins x = some v) (h : Q v s)
    (hn : x ≠ "__name__" := by decide) (hk : env.scope.kind = .function := by rfl) (hx : env.kindOf x = some .globalImplicit := by rfl) (hg : env.globals = mainGlobals := by rfl) (hb : env.builtins = builtinsNs := by rfl) (hd : (x == ("__debug__" : Str)) = false := by decide) :
    wpAny (model prog w) A (eval (.Name x pos) env) Q E s := by
  obtain ⟨mg, mb, a, b, c⟩ := (S.gl G).names
  exact Name_function_global hk hx (loadGlobal_builtin (hg ▸ a) (mg_none_of (S.gl G).inn a e) (hb ▸ b) ((c x hn).trans hv) h) hd
theorem st_local {x : Str} {v : Value} {Q : Unit → Shared → Prop} (S : Sf s₀ h₀ env.locals m news s) (h : ∀ s', Sf s₀ h₀ env.locals (up m x v) news s' → Q () s')
    (hx : env.kindOf x = some .local := by rfl) (hp : (env.scope.kind == .class || (env.scope.kind == .module && env.locals != env.globals)) = false := by rfl) :
    wpAny (model prog w) A (storeName env x v) Q E s := wpAny_storeName_local hx S.F.ns (fun _ hn hs => h _ (S.set hn hs _)) hp

def retOf : Flow → Value
  | .ret v => v
  | _ => .none

/-- a def is entered; it does not raise -/
theorem enter {Q : Value → Shared → Prop} {name qual : Str} {params : Arguments} {body : List Stmt} {scope : Scope} {dV kV doc pm cdv ct oc : Value} {an od : Option Addr} {osl : Array (Option Value)} {f : Addr} {vs : List Value} {binds : List (Str × Value)}
    (G : Gl K s.heap) (ho : K.lookup f = some ⟨oc, od, .func (fnOf name qual params body scope dV kV doc pm an cdv ct), osl⟩) (hcd : codeIn K cdv qual = true) (hroom : A.depth < recursionLimit)
    (hbind : bindArgs (fnOf name qual params body scope dV kV doc pm an cdv ct) ⟨vs, []⟩ = pure binds) (hloc : ∀ y ∈ binds, scope.names.lookup y.1 = some .local)
    (h : ∀ s' : Shared, Sf s s.heap (envOf qual scope s.heap.objs.size f cdv).locals (fun y => binds.reverse.lookup y) [] s' →
      wpAny (model prog w) (A.deeper (envOf qual scope s.heap.objs.size f cdv)) (execs body (envOf qual scope s.heap.objs.size f cdv)) (fun fl s'' => Q (retOf fl) s'') (fun _ _ => False) s')
    (hco : scope.isCoroutine = false := by rfl) (hgen : scope.isGenerator = false := by rfl) (hk : scope.kind = .function := by rfl)
    (hcell : ∀ x ∈ scope.names, x.2 ≠ .cell := by decide) : wpAny (model prog w) A (call (.ref f) vs) Q E s := by
  refine wpAny_call (codeAny_call_def (fd := fnOf name qual params body scope dV kV doc pm an cdv ct) (body := body) (binds := binds) hroom (G.inn _ _ ho) rfl G.lim (codeRec_of G.inn hcd) rfl (BindsTo.of_eq hbind) hcell hloc (fun h₁ hns hk₁ => ?_) hco hgen hk)
  refine wpAny_mono (h _ ⟨⟨hns, hk₁, Nat.le_refl _⟩, News.nil, List.nodup_nil, rfl, rfl, rfl⟩) (fun fl s' hq => ?_) fun _ _ x => x.elim
  cases fl <;> exact hq
end
section
variable {prog : Program} {w : World} {K : Frag} {A : Around} {E : Value → Shared → Prop} {s s₀ : Shared} {h₀ : Heap} {env : Env} {m : Str → Option Value} {news : List (Addr × Obj)} {L : Addr}
  {a b : Int} {t u : Tok}

theorem c_int {i : Int} {k : Nat} {pos : Pos} {Q : Value → Shared → Prop} (S : Sf s₀ h₀ L m news s) (h : ∀ s' t, Sf s₀ h₀ L m news s' → Q (.int i t) s') : wpAny (model prog w) A (eval (.Constant (.int i) k pos) env) Q E s := wpAny_Constant_int (h _ _ (S.toks _))
theorem o_add {Q : Value → Shared → Prop} (S : Sf s₀ h₀ L m news s) (h : ∀ s' t, Sf s₀ h₀ L m news s' → Q (.int (a + b) t) s') : wpAny (model prog w) A (binaryOp .Add (.int a t) (.int b u)) Q E s := add_int (h _ _ (S.toks _))
theorem o_sub {Q : Value → Shared → Prop} (S : Sf s₀ h₀ L m news s) (h : ∀ s' t, Sf s₀ h₀ L m news s' → Q (.int (a - b) t) s') : wpAny (model prog w) A (binaryOp .Sub (.int a t) (.int b u)) Q E s := sub_int (h _ _ (S.toks _))
theorem o_iadd {Q : Value → Shared → Prop} (S : Sf s₀ h₀ L m news s) (h : ∀ s' t, Sf s₀ h₀ L m news s' → Q (.int (a + b) t) s') : wpAny (model prog w) A (inplaceOp .Add (.int a t) (.int b u)) Q E s := iadd_int (h _ _ (S.toks _))
theorem bits_le {x : Int} {k : Nat} (hx : x.natAbs < 2 ^ k) : Builtin.Int.intBits x ≤ k := by
  unfold Builtin.Int.intBits
  split
  · exact Nat.zero_le _
  · rename_i h
    have h0 : x.natAbs ≠ 0 := by intro e; apply h; simp [Int.natAbs_eq_zero.mp e]
    exact (Nat.log2_lt h0).mpr hx
theorem mulOk_of {a b : Int} {k l : Nat} (ha : a.natAbs < 2 ^ k) (hb : b.natAbs < 2 ^ l) (hk : k + l ≤ 100000) : IntMulOk a b := by
  have h1 := bits_le ha
  have h2 := bits_le hb
  unfold IntMulOk Builtin.Int.intTooBig bitsLine
  intro h
  simp only [Bool.and_eq_true, decide_eq_true_eq] at h
  have h3 := h.2
  have h4 : (2 : Nat) ^ 27 = 134217728 := by decide
  rw [h4] at h3
  omega
theorem o_mul {Q : Value → Shared → Prop} (k l : Nat) (S : Sf s₀ h₀ L m news s) (ha : a.natAbs < 2 ^ k) (hb : b.natAbs < 2 ^ l) (hk : k + l ≤ 100000) (h : ∀ s' t, Sf s₀ h₀ L m news s' → Q (.int (a * b) t) s') : wpAny (model prog w) A (binaryOp .Mult (.int a t) (.int b u)) Q E s :=
  PySem.P.mul_int (h _ _ (S.toks _)) (mulOk_of ha hb hk)
theorem o_mod {Q : Value → Shared → Prop} (S : Sf s₀ h₀ L m news s) (hb : 0 < b) (h : ∀ s' t, Sf s₀ h₀ L m news s' → Q (.int (a % b) t) s') : wpAny (model prog w) A (binaryOp .Mod (.int a t) (.int b u)) Q E s :=
  mod_int' (by omega) (by rw [Int.fmod_eq_emod_of_nonneg _ (by omega)]; exact h _ _ (S.toks _))
theorem noPy {x y : Int} {k : Nat} (h : y.natAbs < 2 ^ k) (hk : k ≤ 8000) : Builtin.divisionGoesByPylong x y = false := by
  refine PyProof.noPylong_of_log2 ?_
  by_cases h0 : y.natAbs = 0
  · rw [h0]; decide +kernel
  · have := (Nat.log2_lt h0).mpr h
    omega
theorem o_div {Q : Value → Shared → Prop} (k : Nat) (S : Sf s₀ h₀ L m news s) (hb : 0 < b) (hk : b.natAbs < 2 ^ k) (hk' : k ≤ 8000) (h : ∀ s' t, Sf s₀ h₀ L m news s' → Q (.int (a / b) t) s') : wpAny (model prog w) A (binaryOp .FloorDiv (.int a t) (.int b u)) Q E s :=
  floordiv_int (by omega) (by rw [Int.fdiv_eq_ediv_of_nonneg _ (by omega)]; exact h _ _ (S.toks _)) (.inl (noPy hk hk'))
theorem o_pow64 {Q : Value → Shared → Prop} (S : Sf s₀ h₀ L m news s) (hb : 0 ≤ b) (hb' : b ≤ 1000) (h : ∀ s' t, Sf s₀ h₀ L m news s' → Q (.int (64 ^ b.toNat) t) s') : wpAny (model prog w) A (binaryOp .Pow (.int 64 t) (.int b u)) Q E s :=
  pow_int hb (by have : Builtin.Int.intBits 64 = 7 := by decide +kernel
                 rw [this]; omega) (h _ _ (S.toks _))
theorem o_and {Q : Value → Shared → Prop} (S : Sf s₀ h₀ L m news s) (h : ∀ s' t, Sf s₀ h₀ L m news s' → Q (.int (Builtin.bitAnd a b) t) s') : wpAny (model prog w) A (binaryOp .BitAnd (.int a t) (.int b u)) Q E s := and_int (h _ _ (S.toks _))
theorem o_ior {Q : Value → Shared → Prop} (S : Sf s₀ h₀ L m news s) (h : ∀ s' t, Sf s₀ h₀ L m news s' → Q (.int (Builtin.bitOr a b) t) s') : wpAny (model prog w) A (inplaceOp .BitOr (.int a t) (.int b u)) Q E s := ior_int (h _ _ (S.toks _))
theorem o_ishl6 {Q : Value → Shared → Prop} (k : Nat) (S : Sf s₀ h₀ L m news s) (ha : a.natAbs < 2 ^ k) (hk : k ≤ 100000) (h : ∀ s' t, Sf s₀ h₀ L m news s' → Q (.int (a * 64) t) s') : wpAny (model prog w) A (inplaceOp .LShift (.int a t) (.int 6 u)) Q E s := by
  refine ilshift_int (by decide) ?_ (by exact h _ _ (S.toks _))
  have := bits_le ha
  omega
theorem o_neg {Q : Value → Shared → Prop} (S : Sf s₀ h₀ L m news s) (h : ∀ s' t, Sf s₀ h₀ L m news s' → Q (.int (-a) t) s') : wpAny (model prog w) A (unaryOp .USub (.int a t)) Q E s := PySem.P.neg_int (h _ _ (S.toks _))
end
section
variable {prog : Program} {w : World} {K : Frag} {A : Around} {s s₀ : Shared} {h₀ : Heap} {env : Env} {m : Str → Option Value} {news : List (Addr × Obj)} {L : Addr}

/-- how a turn ends -/
def TurnEnd (Q : Flow → Shared → Prop) (I : Shared → Prop) (f : Flow) (s : Shared) : Prop :=
  match f with
  | .ret v => Q (.ret v) s
  | .brk => Q .next s
  | _ => I s
abbrev NoE : Value → Shared → Prop := fun _ _ => False

theorem r_while {Q : Flow → Shared → Prop} {test : Expr} {body orelse : List Stmt} {pos : Pos} (I : Nat → Shared → Prop)
    (turn : ∀ n s, I n s → wpAny (model prog w) A (isTrue test env (eval test env)) (fun b s₂ =>
      if b = true then wpAny (model prog w) A (execs body env) (TurnEnd Q fun s₃ => ∃ k, k < n ∧ I k s₃) NoE s₂ else wpAny (model prog w) A (execs orelse env) Q NoE s₂) NoE s)
    (n : Nat) (h : I n s) : wpAny (model prog w) A (exec (.While test body orelse pos) env) Q NoE s := by
  refine wpAny_While (codeAny_whileLoop I (fun n s hI => ?_) n h)
  refine wpAny_mono (turn n s hI) (fun b s₂ h₂ => ?_) fun _ _ e => e.elim
  cases b with
  | false =>
    simp only [Bool.false_eq_true, if_false] at h₂ ⊢
    exact wpAny_mono h₂ (fun _ _ x => x) fun _ _ e => e.elim
  | true =>
    simp only [if_true] at h₂ ⊢
    refine wpAny_mono h₂ (fun f s₃ h₃ => ?_) fun _ _ e => e.elim
    cases f <;> exact h₃

theorem for_any {Q : Flow → Shared → Prop} {x : Str} {px : Pos} {body : List Stmt} {it : Addr} {n : Nat} {V : Nat → Value → Prop} {OK : Nat → Obj → Prop} {ob₀ : Obj} (J : Nat → (Str → Option Value) → List (Addr × Obj) → Prop)
    (S : Sf s₀ h₀ env.locals m ((it, ob₀) :: news) s) (hok : OK 0 ob₀) (h0 : J 0 m news)
    (item : ∀ i m₁ news₁ ob s₁ (P : Option Value → Shared → Prop), i < n → J i m₁ news₁ → OK i ob → Sf s₀ h₀ env.locals m₁ ((it, ob) :: news₁) s₁ → (∀ v ob' s₂, V i v → OK (i + 1) ob' → Sf s₀ h₀ env.locals m₁ ((it, ob') :: news₁) s₂ → P (some v) s₂) →
      wpAny (model prog w) A (pyNext (.ref it)) P NoE s₁)
    (fin : ∀ m₁ news₁ ob s₁ (P : Option Value → Shared → Prop), J n m₁ news₁ → OK n ob → Sf s₀ h₀ env.locals m₁ ((it, ob) :: news₁) s₁ → (∀ s₂, Sf s₀ h₀ env.locals m₁ news₁ s₂ → P none s₂) →
      wpAny (model prog w) A (pyNext (.ref it)) P NoE s₁)
    (turn : ∀ i v m₁ news₁ ob s₁, i < n → V i v → J i m₁ news₁ → Sf s₀ h₀ env.locals (up m₁ x v) ((it, ob) :: news₁) s₁ →
      wpAny (model prog w) A (execs body env) (TurnEnd Q fun s₂ => ∃ m₂ news₂, J (i + 1) m₂ news₂ ∧ Sf s₀ h₀ env.locals m₂ ((it, ob) :: news₂) s₂) NoE s₁)
    (done : ∀ m₁ news₁ s₁, J n m₁ news₁ → Sf s₀ h₀ env.locals m₁ news₁ s₁ → Q .next s₁)
    (hx : env.kindOf x = some .local := by rfl) (hp : (env.scope.kind == .class || (env.scope.kind == .module && env.locals != env.globals)) = false := by rfl) :
    codeAny (model prog w) A (.forLoop (.Name x px) (.ref it) body [] env) (fun r s' => match r with | .ok f => Q f s' | .error e => cameBackBy (model prog w) A env NoE e s') s := by
  refine codeAny_forLoop (fun k s' => ∃ i m₁ news₁ ob, i ≤ n ∧ k = n - i ∧ J i m₁ news₁ ∧ OK i ob ∧ Sf s₀ h₀ env.locals m₁ ((it, ob) :: news₁) s') ?_ n ⟨0, m, news, ob₀, Nat.zero_le _, rfl, h0, hok, S⟩
  rintro k s' ⟨i, m₁, news₁, ob, hi, rfl, hJ, hob, S₁⟩
  by_cases hlt : i < n
  · refine wpAny_mono (item i m₁ news₁ ob s' _ hlt hJ hob S₁ (fun v ob' s₂ hv hob' S₂ => ?_)) (fun _ _ x => x) fun _ _ e => e.elim
    refine wpAny_assign_Name (st_local S₂ (fun s₃ S₃ => ?_) hx hp)
    refine wpAny_mono (turn i v m₁ news₁ ob' s₃ hlt hv hJ S₃) (fun f s₄ h₄ => ?_) fun _ _ e => e.elim
    have go : (∃ m₂ news₂, J (i + 1) m₂ news₂ ∧ Sf s₀ h₀ env.locals m₂ ((it, ob') :: news₂) s₄) → ∃ k', k' < n - i ∧ ∃ i' m₁ news₁ ob, i' ≤ n ∧ k' = n - i' ∧ J i' m₁ news₁ ∧ OK i' ob ∧ Sf s₀ h₀ env.locals m₁ ((it, ob) :: news₁) s₄ := by
      rintro ⟨m₂, news₂, hJ₂, S₄⟩
      exact ⟨n - (i + 1), by omega, i + 1, m₂, news₂, ob', hlt, rfl, hJ₂, hob', S₄⟩
    cases f with
    | next => exact go h₄
    | cont => exact go h₄
    | brk => exact h₄
    | ret v => exact h₄
  · have e : i = n := by omega
    subst e
    refine wpAny_mono (fin m₁ news₁ ob s' _ hJ hob S₁ (fun s₂ S₂ => ?_)) (fun _ _ x => x) fun _ _ e => e.elim
    exact wpAny_execs_nil (done m₁ news₁ s₂ hJ S₂)

/-- what pyNext leaves when the iterator is through -/
theorem Sf.after {it : Addr} {ob : Obj} {h' : Heap} (S : Sf s₀ h₀ L m ((it, ob) :: news) s) (hs : Heap.ExtBut it s.heap h') (tk : Nat) : Sf s₀ h₀ L m news { s with heap := h', toks := tk } := by
  have hz := S.N (it, ob) (.head _)
  have hne : ∀ p ∈ news, p.1 ≠ it := fun p hp e => (List.nodup_cons.mp S.D).1 (List.mem_map.mpr ⟨p, hp, e⟩)
  refine ⟨⟨S.F.ns.at' (fun o e => hs _ o (Ne.symm hz.2.1) e), fun b o e => hs b o (fun q => ?_) (S.F.keep b o e), S.F.above⟩, fun p hp => ?_, (List.nodup_cons.mp S.D).2, S.g, S.d, S.o⟩
  · have := hz.2.2; rw [← q, e] at this; cases this
  · have := S.N p (.tail _ hp)
    exact ⟨hs _ _ (hne p hp) this.1, this.2⟩

def rangeIt (a n : Int) (i : Nat) : Obj := { cls := .type "range_iterator", data := .fields #[rawInt (a + i), rawInt (n - i), rawInt 1] }

/-- a loop over a range, by what holds between its turns -/
theorem for_range {Q : Flow → Shared → Prop} {x : Str} {px : Pos} {body : List Stmt} {r : Addr} {a b : Int} {t u v : Tok} (n : Nat) (J : Nat → (Str → Option Value) → List (Addr × Obj) → Prop)
    (hh : A.handled = none) (S : Sf s₀ h₀ env.locals m news s) (hr : IsRange s.heap r a b 1 t u v) (hn : b - a = (n : Int) ∨ (n = 0 ∧ b ≤ a)) (ha : -1000000 ≤ a) (hb : b ≤ 1000000) (ha2 : a ≤ 1000000) (hb2 : -1000000 ≤ b) (h0 : J 0 m news)
    (turn : ∀ i t m₁ news₁ it ob s₁, i < n → J i m₁ news₁ → Sf s₀ h₀ env.locals (up m₁ x (.int (a + (i : Nat)) t)) ((it, ob) :: news₁) s₁ →
      wpAny (model prog w) A (execs body env) (TurnEnd Q fun s₂ => ∃ m₂ news₂, J (i + 1) m₂ news₂ ∧ Sf s₀ h₀ env.locals m₂ ((it, ob) :: news₂) s₂) NoE s₁)
    (done : ∀ m₁ news₁ s₁, J n m₁ news₁ → Sf s₀ h₀ env.locals m₁ news₁ s₁ → Q .next s₁)
    (hx : env.kindOf x = some .local := by rfl) (hp : (env.scope.kind == .class || (env.scope.kind == .module && env.locals != env.globals)) = false := by rfl) :
    wpAny (model prog w) A (pyIter (.ref r)) (fun it s₂ => codeAny (model prog w) A (.forLoop (.Name x px) it body [] env) (fun r s' => match r with | .ok f => Q f s' | .error e => cameBackBy (model prog w) A env NoE e s') s₂) NoE s := by
  have hsz : Builtin.Range.rangeSize a b 1 = (n : Int) := by
    unfold Builtin.Range.rangeSize
    rw [if_pos (by decide)]
    split <;> omega
  have hsm : Builtin.Range.small a b 1 = true := by
    unfold Builtin.Range.small Builtin.Range.rangeFitsLong
    rw [hsz]
    simp only [Bool.and_eq_true, Bool.or_eq_true, decide_eq_true_eq, beq_iff_eq]
    have : (1 : Int) > 0 := by decide
    simp only [this, if_true, Bool.and_eq_true, decide_eq_true_eq]
    refine ⟨⟨⟨⟨⟨?_, ?_⟩, ?_, ?_⟩, ?_⟩, ?_, ?_⟩, ?_⟩ <;> first | omega | decide | (right; constructor <;> omega)
  refine wpAny_pyIter_range hr hsm ?_
  rw [hsz]
  have S' := S.push { cls := .type "range_iterator", data := .fields #[rawInt a, rawInt n, rawInt 1] }
  refine for_any (OK := fun i ob => ob = rangeIt a n i) (V := fun i v => ∃ t, v = .int (a + (i : Nat)) t) J S' (by simp [rangeIt]) h0 ?_ ?_ ?_ done hx hp
  · rintro i m₁ news₁ ob s₁ P hi hJ rfl S₁ hP
    have hg : IsRangeIter s₁.heap s.heap.objs.size (a + (i : Nat)) ((n : Int) - (i : Nat)) 1 := S₁.get (.head _)
    refine wpAny_pyNext_range_item hg (by omega) fun h' hit hs => hP _ _ _ ⟨_, rfl⟩ rfl (S₁.upd hs ?_ _)
    have e1 : a + (i : Nat) + 1 = a + ((i + 1 : Nat) : Int) := by omega
    have e2 : (n : Int) - (i : Nat) - 1 = n - ((i + 1 : Nat) : Int) := by omega
    rw [e1, e2] at hit
    exact hit
  · rintro m₁ news₁ ob s₁ P hJ rfl S₁ hP
    have hg : IsRangeIter s₁.heap s.heap.objs.size (a + (n : Nat)) ((n : Int) - (n : Nat)) 1 := S₁.get (.head _)
    exact wpAny_pyNext_range_end hh hg (by omega) fun h' hs => hP _ (S₁.after hs _)
  · rintro i v m₁ news₁ ob s₁ hi ⟨t, rfl⟩ hJ S₁
    exact turn i t m₁ news₁ _ _ s₁ hi hJ S₁

/-- an iterator over the list at l, i items taken -/
def LIt (l : Addr) (i : Nat) (ob : Obj) : Prop := ob.cls = .type "list_iterator" ∧ ob.data = .fields #[.ref l, .int i 0]
/-- a loop over a list -/
theorem for_list {Q : Flow → Shared → Prop} {x : Str} {px : Pos} {body : List Stmt} {l : Addr} {vs : List Value} {lo : Obj} {e : Nat} (J : Nat → (Str → Option Value) → List (Addr × Obj) → Prop)
    (hh : A.handled = none) (S : Sf s₀ h₀ env.locals m news s) (hlo : lo = listOf vs.toArray e) (hl : ∀ i m₁ news₁ p s₁, J i m₁ news₁ → Sf s₀ h₀ env.locals m₁ (p :: news₁) s₁ → s₁.heap.get? l = some lo) (hl0 : s.heap.get? l = some lo) (h0 : J 0 m news)
    (turn : ∀ i v m₁ news₁ it ob s₁, i < vs.length → vs[i]? = some v → J i m₁ news₁ → Sf s₀ h₀ env.locals (up m₁ x v) ((it, ob) :: news₁) s₁ →
      wpAny (model prog w) A (execs body env) (TurnEnd Q fun s₂ => ∃ m₂ news₂, J (i + 1) m₂ news₂ ∧ Sf s₀ h₀ env.locals m₂ ((it, ob) :: news₂) s₂) NoE s₁)
    (done : ∀ m₁ news₁ s₁, J vs.length m₁ news₁ → Sf s₀ h₀ env.locals m₁ news₁ s₁ → Q .next s₁)
    (hx : env.kindOf x = some .local := by rfl) (hp : (env.scope.kind == .class || (env.scope.kind == .module && env.locals != env.globals)) = false := by rfl) :
    wpAny (model prog w) A (pyIter (.ref l)) (fun it s₂ => codeAny (model prog w) A (.forLoop (.Name x px) it body [] env) (fun r s' => match r with | .ok f => Q f s' | .error e => cameBackBy (model prog w) A env NoE e s') s₂) NoE s := by
  have isl : ∀ {h : Heap}, h.get? l = some lo → h.IsList l vs.toArray := fun hg => ⟨lo, hg, by rw [hlo], e, by rw [hlo]⟩
  refine wpAny_pyIter_list (isl hl0) ?_
  have S' := S.push { cls := .type "list_iterator", data := .fields #[.ref l, .int 0 0] }
  refine for_any (n := vs.length) (OK := LIt l) (V := fun i v => vs[i]? = some v) J S' ⟨rfl, rfl⟩ h0 ?_ ?_ ?_ done hx hp
  · intro i m₁ news₁ ob s₁ P hi hJ hob S₁ hP
    have hg : s₁.heap.IsListIter s.heap.objs.size l i := ⟨_, S₁.get (.head _), hob.1, hob.2⟩
    refine wpAny_pyNext_list_item hg (isl (hl _ _ _ _ _ hJ S₁)) (x := vs[i]) (by simp [hi]) fun h' hit hs => ?_
    obtain ⟨ob', hob', hc, hd⟩ := hit
    exact hP _ ob' _ (by simp [hi]) ⟨hc, hd⟩ (S₁.upd hs hob' _)
  · intro m₁ news₁ ob s₁ P hJ hob S₁ hP
    have hg : s₁.heap.IsListIter s.heap.objs.size l vs.length := ⟨_, S₁.get (.head _), hob.1, hob.2⟩
    exact wpAny_pyNext_list_end hh hg (isl (hl _ _ _ _ _ hJ S₁)) (by simp) fun h' hs => hP _ (S₁.after hs _)
  · intro i v m₁ news₁ ob s₁ hi hv hJ S₁
    exact turn i v m₁ news₁ _ _ s₁ hi hv hJ S₁
end
/-- a list of whole numbers -/
def IL (o : Obj) (ns : List Int) : Prop := ∃ vs e, o = listOf vs.toArray e ∧ IntsAre vs ns
theorem IL.isList {o : Obj} {ns : List Int} (h : IL o ns) : ∃ vs : List Value, IntsAre vs ns ∧ ∀ {hp : Heap} {l : Addr}, hp.get? l = some o → hp.IsList l vs.toArray := by
  obtain ⟨vs, e, rfl, hi⟩ := h
  exact ⟨vs, hi, fun hg => ⟨_, hg, rfl, e, rfl⟩⟩
theorem IntsAre.item {vs : List Value} {ns : List Int} (h : IntsAre vs ns) {i : Nat} (hi : i < ns.length) : ∃ t, vs[i]? = some (.int (ns.getD i 0) t) := by
  obtain ⟨t, e⟩ := h.get i ns[i] (by simp [hi])
  exact ⟨t, by rw [e]; simp [hi]⟩
theorem IntsAre.setAt : ∀ {vs : List Value} {ns : List Int}, IntsAre vs ns → ∀ (i : Nat) (n : Int) (t : Tok), IntsAre (vs.set i (.int n t)) (ns.set i n)
  | _, _, .nil, _, _, _ => by simpa using IntsAre.nil
  | _, _, .cons a ta r, 0, n, t => by simpa using IntsAre.cons n t r
  | _, _, .cons a ta r, i + 1, n, t => by simpa using IntsAre.cons a ta (IntsAre.setAt r i n t)
section
variable {prog : Program} {w : World} {K : Frag} {A : Around} {E : Value → Shared → Prop} {s s₀ : Shared} {h₀ : Heap} {env : Env} {m : Str → Option Value} {news pre post : List (Addr × Obj)} {L l : Addr} {ns ms : List Int} {o : Obj}

theorem Sf.updAt {a : Addr} {ob ob' : Obj} {h' : Heap} (S : Sf s₀ h₀ L m (pre ++ (a, ob) :: post) s) (hs : Heap.SameBut a s.heap h') (ho : h'.get? a = some ob') (tk : Nat := s.toks) :
    Sf s₀ h₀ L m (pre ++ (a, ob') :: post) { s with heap := h', toks := tk } :=
  ((S.perm List.perm_middle).upd hs ho tk).perm List.perm_middle.symm

theorem l_item {value slice : Expr} {k : Int} {u : Tok} {Q : Value → Shared → Prop} (hg : s.heap.get? l = some o) (hi : IL o ns) (h0 : 0 ≤ k) (h1 : k < ns.length) (hz : ns.length ≤ 1000000) (h : ∀ t, Q (.int (ns.getD k.toNat 0) t) s)
    (hs : subscripted slice false (.ref l) (.int k u) = operate [.ref l, .int k u] (getItem (.ref l) (.int k u)) := by with_unfolding_all rfl) :
    wpAny (model prog w) A (subscriptTail value slice (.ref l) (.int k u)) Q E s := by
  obtain ⟨vs, hvs, hl⟩ := hi.isList
  obtain ⟨t, ht⟩ := IntsAre.item hvs (i := k.toNat) (by omega)
  exact tail_any (hl hg).typeIs slot_list_getitem.lookup (wpAny_getItem_list (hl hg) h0 (by omega) (by simpa using ht) (h t)) hs
theorem l_len {Q : Value → Shared → Prop} (S : Sf s₀ h₀ L m news s) (hg : s.heap.get? l = some o) (hi : IL o ns) (hz : ns.length ≤ 1000000) (h : ∀ s' t, Sf s₀ h₀ L m news s' → Q (.int ns.length t) s') :
    wpAny (model prog w) A (call (.builtin "len") [.ref l]) Q E s := by
  obtain ⟨vs, hvs, hl⟩ := hi.isList
  have e : vs.toArray.size = ns.length := by simp [hvs.length]
  refine len_list (hl hg) (by rw [e]; omega) ?_
  rw [e]
  exact h _ _ (S.toks _)
theorem l_new {vs : List Value} {Q : Value → Shared → Prop} (S : Sf s₀ h₀ L m news s) (hi : IntsAre vs ns) (hz : ns.length ≤ 1000000) (h : ∀ a ob s', IL ob ns → Sf s₀ h₀ L m ((a, ob) :: news) s' → Q (.ref a) s') :
    wpAny (model prog w) A (newList vs) Q E s :=
  wpAny_newObj_type (h _ _ _ ⟨vs, 0, rfl, hi⟩ (S.push _)) (by show vs.toArray.size ≤ sizeLine; rw [List.size_toArray, hi.length]; unfold sizeLine; omega)
theorem l_append {n : Int} {t : Tok} {Q : Value → Shared → Prop} (S : Sf s₀ h₀ L m (pre ++ (l, o) :: post) s) (hi : IL o ns) (hz : ns.length ≤ 1000000) (h : ∀ ob s', IL ob (ns ++ [n]) → Sf s₀ h₀ L m (pre ++ (l, ob) :: post) s' → Q .none s') :
    wpAny (model prog w) A (call (.builtin "list.append") [.ref l, .int n t]) Q E s := by
  obtain ⟨vs, e, rfl, hvs⟩ := hi
  refine append_at (S.get (List.mem_append_right _ (.head _))) (fun h' hs ho => h _ _ ⟨vs ++ [.int n t], e + 1, ?_, hvs.append (.cons n t .nil)⟩ (S.updAt hs ho)) (by rw [List.size_toArray, hvs.length]; unfold sizeLine; omega)
  simp
theorem l_set {k n : Int} {t u : Tok} {Q : Unit → Shared → Prop} (S : Sf s₀ h₀ L m (pre ++ (l, o) :: post) s) (hi : IL o ns) (h0 : 0 ≤ k) (h1 : k < ns.length) (hz : ns.length ≤ 1000000) (h : ∀ ob s', IL ob (ns.set k.toNat n) → Sf s₀ h₀ L m (pre ++ (l, ob) :: post) s' → Q () s') :
    wpAny (model prog w) A (setItem (.ref l) (.int k u) (.int n t)) Q E s := by
  obtain ⟨vs, e, rfl, hvs⟩ := hi
  have hg := S.get (List.mem_append_right pre (.head post))
  refine ki_setAt hg h0 (by omega) (by rw [List.size_toArray, hvs.length]; exact h1) (h _ _ ⟨vs.set k.toNat (.int n t), e, rfl, IntsAre.setAt hvs _ _ _⟩ (S.updAt (Heap.SameBut.update ..) ?_))
  rw [Heap.get?_update_self _ hg rfl]
  simp [Obj.mapSeq]
theorem m_append {pl : Sem Bool} {Q : Value × List Value → Shared → Prop} (hg : s.heap.get? l = some o) (hi : IL o ns) (h : Q (.builtin "list.append", [.ref l]) s) : wpAny (model prog w) A (getMethod (.ref l) (Str.ofString "append") pl) Q E s := by
  obtain ⟨vs, e, rfl, hvs⟩ := hi
  exact getMethod_list_append hg rfl rfl h

theorem call_b {x : Str} {p pos : Pos} {e : Expr} {rest : List Expr} {id : String} {Q : Value → Shared → Prop} (S : Sf s₀ h₀ env.locals m news s) (G : Gl K h₀) (hn : nsIn K mainGlobals x = some none) (hv : bootBuiltins x = some (.builtin id))
    (h : wpAny (model prog w) A (spliced (backTo pos (starEach (e :: rest) env))) (fun vs s₁ => wpAny (model prog w) A (call (.builtin id) vs) Q E s₁) E s)
    (he : eval (.Call (.Name x p) (e :: rest) [] pos) env = (do callWith pos (← eval (.Name x p) env) [] (backTo pos (starEach (e :: rest) env)) (backToKw pos (keywordEach [] env))) := by rfl)
    (hx : x ≠ "__name__" := by decide) (hk : env.scope.kind = .function := by rfl) (hkx : env.kindOf x = some .globalImplicit := by rfl) (hg : env.globals = mainGlobals := by rfl) (hb : env.builtins = builtinsNs := by rfl) (hd : (x == ("__debug__" : Str)) = false := by decide)
    (hse : starEach (e :: rest) env = (false, eval e env) :: starEach rest env := by rfl) (hpl : (backTo pos (starEach rest env)).any (·.1) = false := by rfl) :
    wpAny (model prog w) A (eval (.Call (.Name x p) (e :: rest) [] pos) env) Q E s :=
  Call_ (nm_builtin S G hn hv (callWith_method1 (first := []) h hse hpl) hx hk hkx hg hb hd) he
theorem call_t {x : Str} {p pos : Pos} {e : Expr} {rest : List Expr} {T : String} {Q : Value → Shared → Prop} (S : Sf s₀ h₀ env.locals m news s) (G : Gl K h₀) (hn : nsIn K mainGlobals x = some none) (hv : bootBuiltins x = some (.type T))
    (h : wpAny (model prog w) A (spliced (backTo pos (starEach (e :: rest) env))) (fun vs s₁ => wpAny (model prog w) A (call (.type T) vs) Q E s₁) E s)
    (he : eval (.Call (.Name x p) (e :: rest) [] pos) env = (do callWith pos (← eval (.Name x p) env) [] (backTo pos (starEach (e :: rest) env)) (backToKw pos (keywordEach [] env))) := by rfl)
    (hx : x ≠ "__name__" := by decide) (hk : env.scope.kind = .function := by rfl) (hkx : env.kindOf x = some .globalImplicit := by rfl) (hg : env.globals = mainGlobals := by rfl) (hb : env.builtins = builtinsNs := by rfl) (hd : (x == ("__debug__" : Str)) = false := by decide)
    (hse : starEach (e :: rest) env = (false, eval e env) :: starEach rest env := by rfl) (hpl : (backTo pos (starEach rest env)).any (·.1) = false := by rfl) :
    wpAny (model prog w) A (eval (.Call (.Name x p) (e :: rest) [] pos) env) Q E s :=
  Call_ (nm_builtin S G hn hv (Pv.callWith_type1 h hse hpl) hx hk hkx hg hb hd) he
theorem call_d {x : Str} {p pos : Pos} {e : Expr} {rest : List Expr} {f : Addr} {Q : Value → Shared → Prop} (S : Sf s₀ h₀ env.locals m news s) (G : Gl K h₀) (hn : nsIn K mainGlobals x = some (some (.ref f))) (hf : keepIn K (.ref f) = true)
    (h : wpAny (model prog w) A (spliced (backTo pos (starEach (e :: rest) env))) (fun vs s₁ => K.In s₁.heap ∧ wpAny (model prog w) A (call (.ref f) vs) Q E s₁) E s)
    (he : eval (.Call (.Name x p) (e :: rest) [] pos) env = (do callWith pos (← eval (.Name x p) env) [] (backTo pos (starEach (e :: rest) env)) (backToKw pos (keywordEach [] env))) := by rfl)
    (hk : env.scope.kind = .function := by rfl) (hkx : env.kindOf x = some .globalImplicit := by rfl) (hg : env.globals = mainGlobals := by rfl) (hd : (x == ("__debug__" : Str)) = false := by decide)
    (hse : starEach (e :: rest) env = (false, eval e env) :: starEach rest env := by rfl) (hpl : (backTo pos (starEach rest env)).any (·.1) = false := by rfl) :
    wpAny (model prog w) A (eval (.Call (.Name x p) (e :: rest) [] pos) env) Q E s :=
  Call_ (nm_global S G hn (callWith_K (first := []) (S.gl G).inn hf h hse hpl) hk hkx hg hd) he
/-- range(n), range(a, b) -/
theorem rg_1 {n : Int} {t : Tok} {Q : Value → Shared → Prop} (S : Sf s₀ h₀ L m news s) (h : ∀ r s' t u v, IsRange s'.heap r 0 n 1 t u v → Sf s₀ h₀ L m news s' → Q (.ref r) s') :
    wpAny (model prog w) A (call (.type "range") [.int n t]) Q E s :=
  call_range_1 (h _ _ _ _ _ (IsRange.new ..) (S.push { cls := .type "range", data := .fields #[.int 0 s.toks, .int n t, .int 1 (s.toks + 1)] } rfl _).tail)
theorem rg_2 {a b : Int} {t u : Tok} {Q : Value → Shared → Prop} (S : Sf s₀ h₀ L m news s) (h : ∀ r s' t u v, IsRange s'.heap r a b 1 t u v → Sf s₀ h₀ L m news s' → Q (.ref r) s') :
    wpAny (model prog w) A (call (.type "range") [.int a t, .int b u]) Q E s :=
  call_range_2 (h _ _ _ _ _ (IsRange.new ..) (S.push { cls := .type "range", data := .fields #[.int a t, .int b u, .int 1 s.toks] } rfl _).tail)

/-- what a call leaves: all but W as it was -/
structure Out (W : List Addr) (s s' : Shared) : Prop where
  keep : ∀ b o, b ∉ W → s.heap.get? b = some o → s'.heap.get? b = some o
  g : s'.gens = s.gens
  d : s'.drawn = s.drawn
  o : s'.os = s.os
/-- an object that the call has made -/
def New (s s' : Shared) (a : Addr) (ob : Obj) : Prop := s'.heap.get? a = some ob ∧ s.heap.get? a = none
theorem Sf.out {s' : Shared} (S : Sf s s.heap L m news s') : Out [] s s' := ⟨fun b o _ e => S.F.keep b o e, S.g, S.d, S.o⟩
theorem Sf.new {s' : Shared} {a : Addr} {ob : Obj} (S : Sf s s.heap L m news s') (h : (a, ob) ∈ news) : New s s' a ob := ⟨(S.N _ h).1, (S.N _ h).2.2⟩
theorem Sf.call {s' : Shared} (S : Sf s₀ h₀ L m news s) (O : Out [] s s') : Sf s₀ h₀ L m news s' := by
  refine ⟨⟨S.F.ns.at' (fun o e => O.keep _ o (by simp) e), fun b o e => O.keep b o (by simp) (S.F.keep b o e), S.F.above⟩, fun p hp => ?_, S.D, O.g.trans S.g, O.d.trans S.d, O.o.trans S.o⟩
  exact ⟨O.keep _ _ (by simp) (S.N p hp).1, (S.N p hp).2⟩
theorem Sf.call1 {s' : Shared} {a : Addr} {ob : Obj} (S : Sf s₀ h₀ L m news s) (O : Out [] s s') (N : New s s' a ob) : Sf s₀ h₀ L m ((a, ob) :: news) s' := by
  have S' := S.call O
  have hL : a ≠ L := by
    obtain ⟨oL, _, _, hg, _⟩ := S.F.ns
    intro e
    rw [← e, N.2] at hg
    cases hg
  refine ⟨S'.F, fun p hp => ?_, List.nodup_cons.mpr ⟨fun h => ?_, S'.D⟩, S'.g, S'.d, S'.o⟩
  · rcases List.mem_cons.mp hp with rfl | hp
    · refine ⟨N.1, hL, ?_⟩
      cases q : h₀.get? a with
      | none => rfl
      | some o => have := S.F.keep _ _ q; rw [N.2] at this; cases this
    · exact S'.N p hp
  · obtain ⟨p, hp, e⟩ := List.mem_map.mp h
    have := (S.N p hp).1
    rw [e, N.2] at this
    cases this
end
theorem allT (n : Nat) : ((List.range n).all fun _ => true) = true := List.all_eq_true.mpr fun _ _ => rfl
abbrev tupOf (vs : List Value) : Obj := { cls := .type "tuple", data := .seq vs.toArray }
section
variable {prog : Program} {w : World} {K : Frag} {A : Around} {E : Value → Shared → Prop} {s s₀ : Shared} {h₀ : Heap} {env : Env} {m : Str → Option Value} {news pre post : List (Addr × Obj)} {L l : Addr} {ns ms : List Int} {o : Obj}
theorem t_new {vs : List Value} {Q : Value → Shared → Prop} (S : Sf s₀ h₀ L m news s) (hz : vs.length ≤ 1000) (h : ∀ a s', Sf s₀ h₀ L m ((a, tupOf vs) :: news) s' → Q (.ref a) s') :
    wpAny (model prog w) A (newTuple vs) Q E s :=
  wpAny_newObj_type (h _ _ (S.push _)) (by show vs.toArray.size ≤ sizeLine; rw [List.size_toArray]; unfold sizeLine; omega)
theorem in_tup2 {x a b : Int} {tx ta tb : Tok} {Q : Value → Shared → Prop} (S : Sf s₀ h₀ L m ((l, tupOf [.int a ta, .int b tb]) :: news) s) (h : Q (.bool (decide (x = a ∨ x = b))) s) :
    wpAny (model prog w) A (compareOp .In (.int x tx) (.ref l)) Q E s := by
  refine SeqAt.in_tupleAt (items := #[.int a ta, .int b tb]) (fun y => match y with | .int i _ => i == x | _ => false) ⟨_, S.get (.head _), rfl, 0, rfl⟩ (fun y hy => ?_) ?_
  · simp at hy
    rcases hy with rfl | rfl <;> exact SeqAt.EqAt.int_int _ _ _ _
  · have e : (#[Value.int a ta, Value.int b tb].any fun y => match y with | .int i _ => i == x | _ => false) = decide (x = a ∨ x = b) := by
      rw [List.any_toArray]
      show ((a == x) || ((b == x) || false)) = _
      rw [Bool.or_false, Bool.eq_iff_iff, Bool.or_eq_true, beq_iff_eq, beq_iff_eq, decide_eq_true_eq]
      exact ⟨fun h => h.imp Eq.symm Eq.symm, fun h => h.imp Eq.symm Eq.symm⟩
    rw [e]
    exact h
/-- two lists of the same numbers are not unequal -/
theorem ne_same {l₁ l₂ : Addr} {o₁ o₂ : Obj} {Q : Value → Shared → Prop} (hu : A.units < cLine) (g1 : s.heap.get? l₁ = some o₁) (i1 : IL o₁ ns) (g2 : s.heap.get? l₂ = some o₂) (i2 : IL o₂ ns) (h : Q (.bool false) s) :
    wpAny (model prog w) A (compareOp .NotEq (.ref l₁) (.ref l₂)) Q E s := by
  obtain ⟨v1, e1, r1⟩ := i1.isList
  obtain ⟨v2, e2, r2⟩ := i2.isList
  have hsz : v1.toArray.size = v2.toArray.size := by simp [e1.length, e2.length]
  refine SeqAt.RcNeAt.lists (e := fun _ => true) (r1 g1) (r2 g2) hsz hu (fun j h1 h2 => ?_) prog w E Q (by rw [allT]; exact h)
  obtain ⟨t1, q1⟩ := IntsAre.item e1 (i := j) (by simpa [e1.length] using h1)
  obtain ⟨t2, q2⟩ := IntsAre.item e2 (i := j) (by simpa [e2.length] using h2)
  have a1 : v1.toArray[j] = .int (ns.getD j 0) t1 := by
    have := List.getElem?_eq_some_iff.mp q1
    obtain ⟨_, e⟩ := this
    simpa using e
  have a2 : v2.toArray[j] = .int (ns.getD j 0) t2 := by
    have := List.getElem?_eq_some_iff.mp q2
    obtain ⟨_, e⟩ := this
    simpa using e
  rw [a1, a2]
  have := SeqAt.EqAt.int_int (A := A.in1) (s := s) (ns.getD j 0) t1 (ns.getD j 0) t2
  simpa using this
theorem neT_same {l₁ l₂ : Addr} {a b : Int} {t1 t2 t3 t4 : Tok} {Q : Value → Shared → Prop} (hu : A.units < cLine) (g1 : s.heap.get? l₁ = some (tupOf [.int a t1, .int b t2])) (g2 : s.heap.IsTuple l₂ #[.int a t3, .int b t4]) (h : Q (.bool false) s) :
    wpAny (model prog w) A (compareOp .NotEq (.ref l₁) (.ref l₂)) Q E s := by
  refine SeqAt.RcNeAt.tuples (items := #[.int a t1, .int b t2]) (items2 := #[.int a t3, .int b t4]) (e := fun _ => true) ⟨_, g1, rfl, 0, rfl⟩ g2 hu (fun j h1 h2 => ?_) prog w E Q (by rw [allT]; exact h)
  match j, h1 with
  | 0, _ => simpa using SeqAt.EqAt.int_int (A := A.in1) (s := s) a t1 a t3
  | 1, _ => simpa using SeqAt.EqAt.int_int (A := A.in1) (s := s) b t2 b t4
theorem if_const {c : Prop} [Decidable c] {i j : Int} {k k' : Nat} {p p' : Pos} {Q : Value → Shared → Prop} (S : Sf s₀ h₀ L m news s) (h : ∀ s' t, Sf s₀ h₀ L m news s' → Q (.int (if c then i else j) t) s') :
    if decide c = true then wpAny (model prog w) A (eval (.Constant (.int i) k p) env) Q E s else wpAny (model prog w) A (eval (.Constant (.int j) k' p') env) Q E s := by
  by_cases hc : c
  · rw [if_pos (decide_eq_true hc)]
    exact c_int S fun s' t S' => by have := h s' t S'; rwa [if_pos hc] at this
  · rw [if_neg (by simpa using hc)]
    exact c_int S fun s' t S' => by have := h s' t S'; rwa [if_neg hc] at this
end
/-- a StopIteration that has just been made; all but W stays -/
structure Stop (W : List Addr) (h h' : Heap) (e : Addr) : Prop where
  keep : ∀ b o, b ∉ W → h.get? b = some o → h'.get? b = some o
  new : h.get? e = none
  there : ∃ ob t, h'.get? e = some ob ∧ ob.cls = .type "StopIteration" ∧ ob.data = .fields #[t, .none, .none, .none, .bool false, .none]
section
variable {prog : Program} {w : World} {K : Frag} {A : Around} {E : Value → Shared → Prop} {s s₀ : Shared} {h₀ : Heap} {env : Env} {m : Str → Option Value} {news pre post : List (Addr × Obj)} {L l it : Addr} {ns : List Int} {o ob : Obj}

theorem i_iter {Q : Value → Shared → Prop} (S : Sf s₀ h₀ L m news s) (hg : s.heap.get? l = some o) (hi : IL o ns) (h : ∀ it ob s', LIt l 0 ob → Sf s₀ h₀ L m ((it, ob) :: news) s' → Q (.ref it) s') :
    wpAny (model prog w) A (call (.builtin "iter") [.ref l]) Q E s := by
  obtain ⟨vs, hvs, hl⟩ := hi.isList
  refine call_function_entry (by decide +kernel) (by decide +kernel) kdk_entry_iter (kdk_args_iter _) ?_
  unfold Builtin.«iter»
  refine wpAny_bind (m := someArgs "iter" 1 2 _) (wpAny_of_eq (a := [Value.ref l]) (by first | rfl | kernel_rfl!) ?_)
  show wpAny _ _ (pyIter (.ref l) >>= _) _ _ _
  refine wpAny_bind (wpAny_pyIter_list (hl hg) ?_)
  exact wpAny_pure ⟨_, rfl, h _ _ _ ⟨rfl, rfl⟩ (S.push _)⟩

theorem next_enter {P : Value → Shared → Prop} (hit : s.heap.IsListIter it l i) 
    (h : wpAny (model prog w) A.in1 (callSpecial? (.ref it) (Str.ofString "__next__")) (fun r s' => ∃ v, r = some v ∧ P v s') E s) :
    wpAny (model prog w) A (call (.builtin "next") [.ref it]) P E s := by
  refine call_function_entry (by decide +kernel) (by decide +kernel) kdk_entry_next (kdk_args_next _) ?_
  unfold Builtin.«next»
  refine wpAny_bind (m := someArgs "next" 1 2 _) (wpAny_of_eq (a := [Value.ref it]) (by first | rfl | kernel_rfl!) ?_)
  dsimp only
  refine wpAny_bind (wpAny_specialOf (name := Str.ofString "__next__") hit.typeIs slot_listiter_next.lookup ?_)
  refine wpAny_ite_split (fun hab => absurd hab (by decide)) (fun _ => ?_)
  refine wpAny_bind (wpAny_mono h (fun r s' hr => ?_) fun _ _ x => x)
  obtain ⟨v, rfl, hv⟩ := hr
  exact wpAny_pure ⟨_, rfl, hv⟩

theorem n_item {i : Nat} {lo : Obj} {Q : Value → Shared → Prop} (S : Sf s₀ h₀ L m ((it, ob) :: news) s) (hob : LIt l i ob) (hg : s.heap.get? l = some lo) (hi : IL lo ns) (hlt : i < ns.length)
    (h : ∀ t ob' s', LIt l (i + 1) ob' → Sf s₀ h₀ L m ((it, ob') :: news) s' → Q (.int (ns.getD i 0) t) s') :
    wpAny (model prog w) A (call (.builtin "next") [.ref it]) Q E s := by
  obtain ⟨vs, hvs, hl⟩ := hi.isList
  have hx := S.get (.head _)
  have hit : s.heap.IsListIter it l i := ⟨_, hx, hob.1, hob.2⟩
  obtain ⟨t, ht⟩ := IntsAre.item hvs hlt
  refine next_enter hit ?_
  refine wpAny_callSpecial?_slot (name := Str.ofString "__next__") hit.typeIs slot_listiter_next (wpAny_call_entry slot_listiter_next hit.typeIs entry_listiter_next ?_ (args_listiter_next _))
  obtain ⟨ol, hol, _, nl, hdl⟩ := hl hg
  show wpAny _ _ (field (.ref it) 0 >>= _) _ _ s
  refine wpAny_bind (wpAny_field hx hob.2 (x := .ref l) rfl ?_)
  show wpAny _ _ (if (Value.ref l == Value.none) = true then _ else _) _ _ s
  rw [if_neg (show ¬ ((Value.ref l == Value.none) = true) from Bool.false_ne_true)]
  show wpAny _ _ (field (.ref it) 1 >>= _) _ _ s
  refine wpAny_bind (wpAny_field hx hob.2 (x := .int i 0) rfl ?_)
  show wpAny _ _ (seqItems? (.ref l) >>= _) _ _ s
  refine wpAny_bind (wpAny_seqItems hol hdl ?_)
  have hxs : vs.toArray[i]? = some (.int (ns.getD i 0) t) := by simpa using ht
  simp only [Int.toNat_natCast, hxs]
  refine wpAny_bind (wpAny_setField hx hob.2 (by simp) (wpAny_pure ⟨_, rfl, _, rfl, ?_⟩))
  refine h t _ _ ⟨(Obj.cls_mapFields ..).trans hob.1, ?_⟩ (S.upd (Heap.SameBut.update ..) (Heap.get?_update_self _ hx (Obj.isFreed_of_fields (Obj.data_mapFields hob.2 _))))
  rw [Obj.data_mapFields hob.2]
  simp [rawInt]

theorem n_end {i : Nat} {lo : Obj} {Q : Value → Shared → Prop} (hh : A.handled = none) (hx : s.heap.get? it = some ob) (hob : LIt l i ob) (hg : s.heap.get? l = some lo) (hi : IL lo ns) (hlt : ns.length ≤ i)
    (h : ∀ e h', Stop [it] s.heap h' e → E (.ref e) { s with heap := h' }) :
    wpAny (model prog w) A (call (.builtin "next") [.ref it]) Q E s := by
  obtain ⟨vs, hvs, hl⟩ := hi.isList
  have hit : s.heap.IsListIter it l i := ⟨_, hx, hob.1, hob.2⟩
  refine next_enter hit ?_
  refine wpAny_callSpecial?_slot (name := Str.ofString "__next__") hit.typeIs slot_listiter_next (wpAny_call_entry slot_listiter_next hit.typeIs entry_listiter_next ?_ (args_listiter_next _))
  obtain ⟨ol, hol, _, nl, hdl⟩ := hl hg
  show wpAny _ _ (field (.ref it) 0 >>= _) _ _ s
  refine wpAny_bind (wpAny_field hx hob.2 (x := .ref l) rfl ?_)
  show wpAny _ _ (if (Value.ref l == Value.none) = true then _ else _) _ _ s
  rw [if_neg (show ¬ ((Value.ref l == Value.none) = true) from Bool.false_ne_true)]
  show wpAny _ _ (field (.ref it) 1 >>= _) _ _ s
  refine wpAny_bind (wpAny_field hx hob.2 (x := .int i 0) rfl ?_)
  show wpAny _ _ (seqItems? (.ref l) >>= _) _ _ s
  refine wpAny_bind (wpAny_seqItems hol hdl ?_)
  have hxs : vs.toArray[i]? = none := by simp [hvs.length, hlt]
  simp only [Int.toNat_natCast, hxs]
  refine wpAny_bind (wpAny_rule (wpAny_bind (wpAny_setField hx hob.2 (by simp) ?_)))
  show wpAny _ _ (newExc (.type "StopIteration") [] >>= _) _ _ _
  refine wpAny_bind ?_
  simp only [newExc, newTuple]
  refine wpAny_bind (wpAny_newObj_type ?_ (by size_fits))
  refine wpAny_bind (m := firstArgMember _ _) (wpAny_of_eq (a := Value.none) (by first | rfl | (simp only [firstArgMember]; rfl)) ?_)
  refine wpAny_newObj_type ?_ (by size_fits)
  simp only [raiseNew]
  refine wpAny_bind (wpAny_handled ?_)
  rw [show A.in1.in1.handled = none from hh]
  refine wpAny_bind (wpAny_pure (wpAny_throw ?_))
  refine h _ _ ⟨fun b o' hb e => ?_, ?_, _, _, Heap.get?_push_size _ rfl, rfl, rfl⟩
  · exact Heap.get?_push_of_some _ (Heap.get?_push_of_some _ ((Heap.get?_update_other _ _ (fun q => hb (by simp [q]))).trans e))
  · exact Heap.get?_none_of_le (by simp [Heap.size_push, Heap.size_after_update])
end
section
variable {prog : Program} {w : World} {K : Frag} {A : Around} {E : Value → Shared → Prop} {s s₀ : Shared} {h₀ : Heap} {env : Env} {m : Str → Option Value} {news pre post : List (Addr × Obj)} {L l it : Addr} {ns : List Int} {o ob : Obj}

theorem r_whileE {Q : Flow → Shared → Prop} {test : Expr} {body orelse : List Stmt} {pos : Pos} (I : Nat → Shared → Prop) (hE : PassesOwn (model prog w) A env E)
    (turn : ∀ n s, I n s → wpAny (model prog w) A (isTrue test env (eval test env)) (fun b s₂ =>
      if b = true then wpAny (model prog w) A (execs body env) (TurnEnd Q fun s₃ => ∃ k, k < n ∧ I k s₃) E s₂ else wpAny (model prog w) A (execs orelse env) Q E s₂) E s)
    (n : Nat) (h : I n s) : wpAny (model prog w) A (exec (.While test body orelse pos) env) Q E s := by
  refine wpAny_While (codeAny_whileLoop I (fun n s hI => ?_) n h)
  refine wpAny_mono (turn n s hI) (fun b s₂ h₂ => ?_) hE
  cases b with
  | false =>
    simp only [Bool.false_eq_true, if_false] at h₂ ⊢
    exact wpAny_mono h₂ (fun _ _ x => x) hE
  | true =>
    simp only [if_true] at h₂ ⊢
    refine wpAny_mono h₂ (fun f s₃ h₃ => ?_) hE
    cases f <;> exact h₃

/-- a def is entered that changes the object at it; it may raise -/
theorem enterW {Q : Value → Shared → Prop} {name qual : Str} {params : Arguments} {body : List Stmt} {scope : Scope} {dV kV doc pm cdv ct oc : Value} {an od : Option Addr} {osl : Array (Option Value)} {f : Addr} {vs : List Value} {binds : List (Str × Value)}
    (G : Gl K (s.heap.hide it)) (hx : s.heap.get? it = some ob) (ho : K.lookup f = some ⟨oc, od, .func (fnOf name qual params body scope dV kV doc pm an cdv ct), osl⟩) (hcd : codeIn K cdv qual = true) (hroom : A.depth < recursionLimit)
    (hbind : bindArgs (fnOf name qual params body scope dV kV doc pm an cdv ct) ⟨vs, []⟩ = pure binds) (hloc : ∀ y ∈ binds, scope.names.lookup y.1 = some .local)
    (h : ∀ s' : Shared, Sf s (s.heap.hide it) (envOf qual scope s.heap.objs.size f cdv).locals (fun y => binds.reverse.lookup y) [(it, ob)] s' →
      wpAny (model prog w) (A.deeper (envOf qual scope s.heap.objs.size f cdv)) (execs body (envOf qual scope s.heap.objs.size f cdv)) (fun fl s'' => Q (retOf fl) s'')
        (fun e s'' => wpAny (model prog w) (A.deeper (envOf qual scope s.heap.objs.size f cdv)) (leaving (envOf qual scope s.heap.objs.size f cdv) e) (fun _ s₃ => E e s₃) E s'') s')
    (hco : scope.isCoroutine = false := by rfl) (hgen : scope.isGenerator = false := by rfl) (hk : scope.kind = .function := by rfl)
    (hcell : ∀ x ∈ scope.names, x.2 ≠ .cell := by decide) : wpAny (model prog w) A (call (.ref f) vs) Q E s := by
  have G' : Gl K s.heap := G.keeps fun b o e => Heap.of_hide e
  refine wpAny_call (codeAny_call_def (fd := fnOf name qual params body scope dV kV doc pm an cdv ct) (body := body) (binds := binds) hroom (G'.inn _ _ ho) rfl G'.lim (codeRec_of G'.inn hcd) rfl (BindsTo.of_eq hbind) hcell hloc (fun h₁ hns hk₁ => ?_) hco hgen hk)
  have hlt := Heap.lt_size hx
  refine wpAny_mono (h _ ⟨⟨hns, fun b o e => hk₁ b o (Heap.of_hide e), Nat.le_of_eq (Heap.hide_size ..)⟩, ?_, by simp, rfl, rfl, rfl⟩) (fun fl s' hq => ?_) fun _ _ x => x
  · intro p hp
    rw [List.mem_singleton.mp hp]
    exact ⟨hk₁ _ _ hx, Nat.ne_of_lt hlt, Heap.hide_self ..⟩
  · cases fl <;> exact hq
theorem Sf.outW {s' : Shared} (S : Sf s (s.heap.hide it) L m news s') : Out [it] s s' :=
  ⟨fun b o hb e => S.F.keep b o ((Heap.hide_ne _ (fun q => hb (by simp [q]))).trans e), S.g, S.d, S.o⟩
/-- the caller's side: the object at it is another one now -/
theorem Sf.callW {s' : Shared} {ob' : Obj} (S : Sf s₀ h₀ L m ((it, ob) :: news) s) (O : Out [it] s s') (hx : s'.heap.get? it = some ob') : Sf s₀ h₀ L m ((it, ob') :: news) s' := by
  have hz := S.N (it, ob) (.head _)
  have hne : ∀ p ∈ news, p.1 ≠ it := fun p hp e => (List.nodup_cons.mp S.D).1 (List.mem_map.mpr ⟨p, hp, e⟩)
  refine ⟨⟨S.F.ns.at' (fun o e => O.keep _ o (by simpa using Ne.symm hz.2.1) e), fun b o e => O.keep b o (fun q => ?_) (S.F.keep b o e), S.F.above⟩, fun p hp => ?_, S.D, O.g.trans S.g, O.d.trans S.d, O.o.trans S.o⟩
  · rw [List.mem_singleton.mp q, hz.2.2] at e; cases e
  · rcases List.mem_cons.mp hp with rfl | hp
    · exact ⟨hx, hz.2⟩
    · have := S.N p (.tail _ hp)
      exact ⟨O.keep _ _ (by simpa using hne p hp) this.1, this.2⟩
theorem Sf.glW (S : Sf s₀ h₀ L m ((it, ob) :: news) s) (G : Gl K h₀) : Gl K (s.heap.hide it) := by
  have hz := S.N (it, ob) (.head _)
  refine G.keeps fun b o e => (Heap.hide_ne _ (fun q => ?_)).trans (S.F.keep b o e)
  rw [q, hz.2.2] at e
  cases e
end

/-- a name that holds the number v -/
def IV (m : Str → Option Value) (x : Str) (v : Int) : Prop := ∃ t, m x = some (.int v t)
theorem IV.mk {m : Str → Option Value} {x : Str} {v v' : Int} {t : Tok} (h : m x = some (.int v t)) (e : v = v') : IV m x v' := ⟨t, by rw [h, e]⟩

/-- the number that octets tell: k of them from i on -/
def valL (os : List Int) (i : Nat) : Nat → Int
  | 0 => 0
  | k + 1 => 64 * valL os i k + os.getD (i + k) 0 % 64
theorem valL_lt (os : List Int) (i : Nat) : ∀ k, 0 ≤ valL os i k ∧ valL os i k < 64 ^ k
  | 0 => ⟨Int.le_refl 0, show (0 : Int) < 1 by decide⟩
  | k + 1 => by
    have ih := valL_lt os i k
    have h1 := Int.emod_nonneg (os.getD (i + k) 0) (show (64 : Int) ≠ 0 by decide)
    have h2 := Int.emod_lt_of_pos (os.getD (i + k) 0) (show (0 : Int) < 64 by decide)
    simp only [valL, Int.pow_succ]
    omega
theorem nat64 {a : Int} {n : Nat} (h0 : 0 ≤ a) (h : a < 64 ^ n) : a.natAbs < 2 ^ (6 * n) := by
  obtain ⟨x, rfl⟩ := Int.eq_ofNat_of_zero_le h0
  rw [Nat.pow_mul]
  show x < (2 ^ 6) ^ n
  have e : ((64 : Nat) : Int) ^ n = ((64 ^ n : Nat) : Int) := by simp
  have h' : (x : Int) < ((64 ^ n : Nat) : Int) := by rw [← e]; exact h
  exact Int.ofNat_lt.mp h'
theorem bitOr64 {a b : Int} (ha : 0 ≤ a) (hb : 0 ≤ b) (hb2 : b < 64) : Builtin.bitOr (a * 64) b = a * 64 + b := by
  obtain ⟨x, rfl⟩ := Int.eq_ofNat_of_zero_le ha
  obtain ⟨y, rfl⟩ := Int.eq_ofNat_of_zero_le hb
  have h1 : decide ((0 : Int) ≤ Builtin.bitNot ((x : Int) * 64)) = false := decide_eq_false (by unfold Builtin.bitNot; omega)
  have h2 : decide ((0 : Int) ≤ Builtin.bitNot (y : Int)) = false := decide_eq_false (by unfold Builtin.bitNot; omega)
  have e1 : (Builtin.bitNot (Builtin.bitNot ((x : Int) * 64))).toNat = 2 ^ 6 * x := by unfold Builtin.bitNot; omega
  have e2 : (Builtin.bitNot (Builtin.bitNot (y : Int))).toNat = y := by unfold Builtin.bitNot; omega
  have h3 := Nat.two_pow_add_eq_or_of_lt (i := 6) (b := y) (by omega) x
  unfold Builtin.bitOr Builtin.bitAnd
  rw [h1, h2]
  show Builtin.bitNot (Builtin.bitNot (((Builtin.bitNot (Builtin.bitNot ((x : Int) * 64))).toNat ||| (Builtin.bitNot (Builtin.bitNot (y : Int))).toNat : Nat) : Int)) = _
  rw [e1, e2, ← h3]
  unfold Builtin.bitNot
  omega
theorem and64 {b : Int} (h0 : 0 ≤ b) (h1 : b < 256) : Builtin.bitAnd b 64 = 64 * (b / 64 % 2) := by
  obtain ⟨n, rfl⟩ := Int.eq_ofNat_of_zero_le h0
  have key : ∀ n : Nat, n < 256 → Builtin.bitAnd (n : Int) 64 = 64 * ((n : Int) / 64 % 2) := by decide +kernel
  exact key n (by omega)
/-- a StopIteration that flies through the frames outer -/
structure Flies (base : Heap) (outer : List Env) (s s' : Shared) (e : Addr) : Prop where
  fly : ∃ a0, Heap.FlyingW base outer e (.type "StopIteration") a0 s'.heap
  upto : s.heap.UpToSlots s'.heap
  g : s'.gens = s.gens
  d : s'.drawn = s.drawn
  o : s'.os = s.os
section
variable {prog : Program} {w : World} {K : Frag} {A : Around} {E : Value → Shared → Prop} {s s₀ s₂ : Shared} {h₀ base : Heap} {env : Env} {outer : List Env} {m : Str → Option Value} {news pre post : List (Addr × Obj)} {L l it e : Addr} {ns : List Int} {o ob ob' : Obj} {i : Nat}

theorem stop_leave {h' : Heap} (hx : s.heap.get? it = some ob) (hob : LIt l i ob) (hfr : A.frames = some outer) (hbs : base.StaysIn s.heap) (hbit : base.get? it = none) (hff : s.heap.FunFrames base outer)
    (S : Sf s (s.heap.hide it) L m [(it, ob')] s₂) (hs : Stop [it] s₂.heap h' e) (hL : s.heap.objs.size ≤ L) (hf : env.frame = some L) (hk : env.scope.kind ≠ .module)
    (h : ∀ e s', Flies base outer s s' e → E (.ref e) s') :
    wpAny (model prog w) (A.deeper env) (leaving env (.ref e)) (fun _ s₃ => E (.ref e) s₃) E { s₂ with heap := h' } := by
  have nofields : ∀ b o, s.heap.get? b = some o → (∀ vs, o.data ≠ .fields vs) → b ≠ it := by
    intro b o hb hn q
    rw [q, hx] at hb
    exact hn _ ((Option.some.inj hb) ▸ hob.2)
  have keep : ∀ b o, b ≠ it → s.heap.get? b = some o → h'.get? b = some o := fun b o hb e =>
    hs.keep b o (by simpa using hb) (S.F.keep b o ((Heap.hide_ne _ hb).trans e))
  have bne : ∀ b o, base.get? b = some o → b ≠ it := fun b o e q => by rw [q, hbit] at e; cases e
  have hLit : L ≠ it := fun q => (S.N (it, ob') (.head _)).2.1 q.symm
  have hbL : base.get? L = none := by
    cases hq : base.get? L with
    | none => rfl
    | some o => exact absurd (Heap.lt_size (hbs _ _ hq)) (Nat.not_lt.mpr hL)
  obtain ⟨oe, t, he, hc, hd⟩ := hs.there
  have hns : h'.Ns L m := S.F.ns.at' fun o e => hs.keep _ o (by simpa using hLit) e
  have hen : base.get? e = none := by
    cases hq : base.get? e with
    | none => rfl
    | some o =>
      have := S.F.keep e o ((Heap.hide_ne _ (bne _ _ hq)).trans (hbs _ _ hq))
      rw [hs.new] at this
      cases this
  refine wpAny_leaving_firstW (base := base) (a0 := t) (Around.frames_deeper hfr) (Heap.FunFrames.cons hk hf hns hbL (hff.of_keeps fun b o hb hn => ⟨o, keep b o (nofields b o hb hn) hb, rfl⟩)) hf he
    (fun b o q => keep b o (bne b o q) (hbs b o q)) hen hd rfl rfl fun h'' hLf => ?_
  obtain ⟨k1, ⟨_, _, k2⟩, k3, k4⟩ := hLf
  refine h _ _ ⟨⟨t, k1, hen, k2, hc ▸ k3⟩, fun b o hb hn => k4 b o (keep b o (nofields b o hb hn) hb) hn, S.g, S.d, S.o⟩
end
section
variable {prog : Program} {w : World} {K : Frag} {A : Around} {E : Value → Shared → Prop} {s s₀ : Shared} {h₀ : Heap} {env : Env} {m : Str → Option Value} {news pre post : List (Addr × Obj)} {L l : Addr} {ns ms : List Int} {o : Obj}

theorem Sf.mkN {a : Addr} {ob : Obj} {h' : Heap} (S : Sf s₀ h₀ L m news s) (F' : Fr h₀ L h' m) (N' : News h₀ L h' ((a, ob) :: news)) (ha : ∀ p ∈ news, p.1 ≠ a) (tk : Nat := s.toks) :
    Sf s₀ h₀ L m ((a, ob) :: news) { s with heap := h', toks := tk } :=
  ⟨F', N', List.nodup_cons.mpr ⟨fun h => by obtain ⟨p, hp, e⟩ := List.mem_map.mp h; exact ha p hp e, S.D⟩, S.g, S.d, S.o⟩
theorem Sf.lt (S : Sf s₀ h₀ L m news s) : ∀ p ∈ news, p.1 < s.heap.objs.size := fun p hp => Heap.lt_size (S.N p hp).1
theorem repl_ints {n : Int} {t : Tok} : ∀ k : Nat, IntsAre (List.replicate k (Value.int n t)) (List.replicate k n)
  | 0 => .nil
  | k + 1 => by simpa [List.replicate_succ] using IntsAre.cons n t (repl_ints k)
theorem flat_ints {vs : List Value} (h : IntsAre vs ns) : ∀ k : Nat, IntsAre (List.replicate k vs).flatten (List.replicate k ns).flatten
  | 0 => by simpa using IntsAre.nil
  | k + 1 => by simpa [List.replicate_succ] using h.append (flat_ints h k)
theorem l_mul {n : Int} {t : Tok} {Q : Value → Shared → Prop} (S : Sf s₀ h₀ L m news s) (hg : s.heap.get? l = some o) (hi : IL o ns) (h0 : 0 ≤ n) (hn : n ≤ 1000) (hz : ns.length * n.toNat ≤ 256)
    (h : ∀ a ob s', IL ob (List.replicate n.toNat ns).flatten → Sf s₀ h₀ L m ((a, ob) :: news) s' → Q (.ref a) s') :
    wpAny (model prog w) A (binaryOp .Mult (.ref l) (.int n t)) Q E s := by
  obtain ⟨vs, hvs, hl⟩ := hi.isList
  refine KMa.mul S.F S.N (hl hg) (by omega) (by omega) (by rw [hvs.length]; exact hz) rfl fun D h' F' N' hlt => ?_
  exact h D _ _ ⟨_, 0, rfl, flat_ints hvs _⟩ (S.mkN F' N' fun p hp => Nat.ne_of_lt (hlt p hp))
theorem l_add {l₂ : Addr} {o₂ : Obj} {Q : Value → Shared → Prop} (S : Sf s₀ h₀ L m news s) (hg : s.heap.get? l = some o) (hi : IL o ns) (hg₂ : s.heap.get? l₂ = some o₂) (hi₂ : IL o₂ ms) (hz : ns.length + ms.length ≤ 1000000)
    (h : ∀ a ob s', IL ob (ns ++ ms) → Sf s₀ h₀ L m ((a, ob) :: news) s' → Q (.ref a) s') :
    wpAny (model prog w) A (binaryOp .Add (.ref l) (.ref l₂)) Q E s := by
  obtain ⟨vs, hvs, hl⟩ := hi.isList
  obtain ⟨ws, hws, hl₂⟩ := hi₂.isList
  refine add_arrays_ints S.F S.N (hl hg) (hl₂ hg₂) (by simpa using hvs) (by simpa using hws) (fun h' F' N' hI => ?_) (by unfold sizeLine; omega)
  exact h _ _ _ ⟨_, 0, rfl, hI⟩ (S.mkN F' N' fun p hp => Nat.ne_of_lt (S.lt p hp))
/-- a list of ints, whatever else the object holds -/
def WL (o : Obj) (ns : List Int) : Prop := ∃ vs : List Value, IntsAre vs ns ∧ o.cls = .type "list" ∧ ∃ e, o.data = .seq vs.toArray e
theorem IL.weak {o : Obj} {ns : List Int} (h : IL o ns) : WL o ns := by
  obtain ⟨vs, e, rfl, hi⟩ := h
  exact ⟨vs, hi, rfl, e, rfl⟩
theorem WL.isList {o : Obj} {ns : List Int} (h : WL o ns) : ∃ vs : List Value, IntsAre vs ns ∧ ∀ {hp : Heap} {l : Addr}, hp.get? l = some o → hp.IsList l vs.toArray := by
  obtain ⟨vs, hi, hc, hd⟩ := h
  exact ⟨vs, hi, fun hg => ⟨_, hg, hc, hd⟩⟩
/-- a slice of a list -/
theorem l_sliceL {value slice : Expr} {vl vu : Value} {lo hi : Option Int} {ops : List Value} {Q : Value → Shared → Prop} (S : Sf s₀ h₀ L m news s) (hg : s.heap.get? l = some o) (hi' : WL o ns) (pl : IsPart vl lo) (pu : IsPart vu hi)
    (hm : ∀ vs, IntsAre vs ns → IntsAre (slicePick vs.toArray lo hi none).toList ms) (hz : ns.length ≤ 1000000) (h : ∀ a ob s', IL ob ms → Sf s₀ h₀ L m ((a, ob) :: news) s' → Q (.ref a) s')
    (hs : subscripted slice false (.ref l) (.ref s.heap.objs.size) = operate ops (getItem (.ref l) (.ref s.heap.objs.size)) := by with_unfolding_all rfl) :
    wpAny (model prog w) A (subscriptTail value slice (.ref l) (.ref s.heap.objs.size)) Q E { s with heap := s.heap.push { cls := .type "slice", data := .fields #[vl, vu, .none] } } := by
  obtain ⟨vs, hvs, hl⟩ := hi'.isList
  have S' := S.push { cls := .type "slice", data := .fields #[vl, vu, .none] }
  refine tail_any (Heap.IsList.typeIs (s := { s with heap := s.heap.push { cls := .type "slice", data := .fields #[vl, vu, .none] } }) ((hl hg).push _)) list_getitem_lookup
    (wpAny_getItem_list_slice ((hl hg).push _) (Heap.IsSliceOf.new ..) pl pu .none (by simp) ?_ (by rw [List.size_toArray, hvs.length]; unfold sizeLine; omega)) hs
  have S'' := (S'.tail).push { cls := .type "list", data := .seq (slicePick vs.toArray lo hi none) }
  refine h _ _ _ ⟨(slicePick vs.toArray lo hi none).toList, 0, by simp, hm vs hvs⟩ S''
theorem l_slice {value slice : Expr} {vl vu : Value} {lo hi : Option Int} {ops : List Value} {Q : Value → Shared → Prop} (S : Sf s₀ h₀ L m news s) (hg : s.heap.get? l = some o) (hi' : IL o ns) (pl : IsPart vl lo) (pu : IsPart vu hi)
    (hm : ∀ vs, IntsAre vs ns → IntsAre (slicePick vs.toArray lo hi none).toList ms) (hz : ns.length ≤ 1000000) (h : ∀ a ob s', IL ob ms → Sf s₀ h₀ L m ((a, ob) :: news) s' → Q (.ref a) s')
    (hs : subscripted slice false (.ref l) (.ref s.heap.objs.size) = operate ops (getItem (.ref l) (.ref s.heap.objs.size)) := by with_unfolding_all rfl) :
    wpAny (model prog w) A (subscriptTail value slice (.ref l) (.ref s.heap.objs.size)) Q E { s with heap := s.heap.push { cls := .type "slice", data := .fields #[vl, vu, .none] } } := l_sliceL S hg hi'.weak pl pu hm hz h hs
end
theorem p64_pos (n : Nat) : (0 : Int) < 64 ^ n := Int.pow_pos (by decide)
theorem p64_nat (n : Nat) : ((64 : Int) ^ n).natAbs < 2 ^ (6 * n + 1) := by
  have h := nat64 (a := 64 ^ n) (n := n + 1) (Int.le_of_lt (p64_pos n)) (by rw [Int.pow_succ]; have := p64_pos n; omega)
  have e : ((64 : Int) ^ n).natAbs = 64 ^ n := by rw [Int.natAbs_pow]; rfl
  rw [e, show (64 : Nat) = 2 ^ 6 from rfl, ← Nat.pow_mul]
  exact Nat.pow_lt_pow_right (by decide) (by omega)
section
variable {prog : Program} {w : World} {K : Frag} {A : Around} {E : Value → Shared → Prop} {s s₀ : Shared} {h₀ : Heap} {env : Env} {m : Str → Option Value} {news pre post : List (Addr × Obj)} {L l : Addr} {ns ms : List Int} {o : Obj} {a b : Int} {t u : Tok}
theorem Sf.grown {h' : Heap} (S : Sf s₀ h₀ L m news s) (hk : ∀ c o, s.heap.get? c = some o → h'.get? c = some o) (tk : Nat) : Sf s₀ h₀ L m news { s with heap := h', toks := tk } :=
  ⟨S.F.grownK hk, S.N.grown hk, S.D, S.g, S.d, S.o⟩
theorem o_max {Q : Value → Shared → Prop} (hh : A.handled = none) (S : Sf s₀ h₀ L m news s) (h : ∀ s' t, Sf s₀ h₀ L m news s' → Q (.int (max a b) t) s') : wpAny (model prog w) A (call (.builtin "max") [.int a t, .int b u]) Q E s := by
  refine max_two_ints hh fun h' tk hk => ?_
  by_cases c : b > a
  · rw [if_pos c]
    have e : b = max a b := by omega
    have := h _ u (S.grown hk tk)
    rwa [← e] at this
  · rw [if_neg c]
    have e : a = max a b := by omega
    have := h _ t (S.grown hk tk)
    rwa [← e] at this
theorem o_min {Q : Value → Shared → Prop} (hh : A.handled = none) (S : Sf s₀ h₀ L m news s) (h : ∀ s' t, Sf s₀ h₀ L m news s' → Q (.int (min a b) t) s') : wpAny (model prog w) A (call (.builtin "min") [.int a t, .int b u]) Q E s := by
  refine min_two_ints hh fun h' tk hk => ?_
  by_cases c : b < a
  · rw [if_pos c]
    have e : b = min a b := by omega
    have := h _ u (S.grown hk tk)
    rwa [← e] at this
  · rw [if_neg c]
    have e : a = min a b := by omega
    have := h _ t (S.grown hk tk)
    rwa [← e] at this
theorem o_div64 {n : Nat} {Q : Value → Shared → Prop} (S : Sf s₀ h₀ L m news s) (hn : n ≤ 1000) (h : ∀ s' t, Sf s₀ h₀ L m news s' → Q (.int (a / 64 ^ n) t) s') : wpAny (model prog w) A (binaryOp .FloorDiv (.int a t) (.int (64 ^ n) u)) Q E s :=
  o_div (6 * n + 1) S (p64_pos n) (p64_nat n) (by omega) h
theorem o_mod64 {n : Nat} {Q : Value → Shared → Prop} (S : Sf s₀ h₀ L m news s) (h : ∀ s' t, Sf s₀ h₀ L m news s' → Q (.int (a % 64 ^ n) t) s') : wpAny (model prog w) A (binaryOp .Mod (.int a t) (.int (64 ^ n) u)) Q E s :=
  o_mod S (p64_pos n) h
end
open PySem.AutoSeq1 (wpAny_loadPart')
inductive PairsAre : List (Value × Value) → List (Int × Int) → Prop
  | nil : PairsAre [] []
  | cons (x : Int) (t : Tok) (y : Int) (u : Tok) {r : List (Value × Value)} {ps : List (Int × Int)} : PairsAre r ps → PairsAre ((.int x t, .int y u) :: r) ((x, y) :: ps)
def lexGt : List (Int × Int) → Bool
  | [] => false
  | (x, y) :: r => if x = y then lexGt r else decide (x > y)
set_option maxHeartbeats 1000000 in
theorem gt3 {prog : Program} {w : World} {A : Around} {E : Value → Shared → Prop} {s : Shared} {Q : Value → Shared → Prop} {a b : Addr} {x1 x2 x3 y1 y2 y3 : Int} {t1 t2 t3 u1 u2 u3 : Tok} (hu : A.units < cLine)
    (h1 : s.heap.get? a = some (tupOf [.int x1 t1, .int x2 t2, .int x3 t3])) (h2 : s.heap.get? b = some (tupOf [.int y1 u1, .int y2 u2, .int y3 u3]))
    (h : Q (.bool (lexGt [(x1, y1), (x2, y2), (x3, y3)])) s) : wpAny (model prog w) A (richCompare .Gt (.ref a) (.ref b)) Q E s := by
  refine wpAny_richCompare_same_room (T := "tuple") ⟨_, h1, rfl⟩ ⟨_, h2, rfl⟩ F.slot_tuple_gt (wpAny_call_entry F.slot_tuple_gt ⟨_, h1, rfl⟩ F.entry_tuple_gt ?_ (F.args_tuple_gt_2 _ _)) hu
  obtain ⟨hp, g, d, tk, os⟩ := s
  have f2 := AutoSeq1.sub_tuple_tuple
  wp_walk using wpAny_loadPart' h1, wpAny_loadPart' h2, wpAny_forIn_list _ (fun rest b s' => b.1 = none ∧ s' = ⟨hp, g, d, tk, os⟩ ∧ ∃ ps, PairsAre rest ps ∧ Q (.bool (lexGt ps)) ⟨hp, g, d, tk, os⟩) _
  case turn =>
    rintro ⟨y, x⟩ rest b s' ⟨hb', rfl, ps, hz, hR⟩
    cases hz with
    | cons x t y u hr =>
      refine wpAny_bind (wpAny_eqBool_int ?_)
      by_cases e : x = y
      · subst e
        have e2 : (x == x) = true := by simp
        rw [e2]
        simp only [lexGt, if_true] at hR
        wp_walk
        exact ⟨rfl, rfl, _, hr, hR⟩
      · have e2 : (x == y) = false := by simpa using e
        rw [e2]
        simp only [lexGt, if_neg e] at hR
        rw [if_pos (by rfl)]
        refine wpAny_bind (wpAny_rule (wpAny_bind ?_))
        refine (show wpAny (model prog w) A.in1 (compareOp .Gt (.int x t) (.int y u)) _ _ _ from P.gt_int ?_)
        refine wpAny_bind (wpAny_pure (wpAny_pure ?_))
        exact wpAny_pure ⟨_, rfl, (fun q => nomatch q), hR⟩
  case fin =>
    rintro ⟨b1, b2⟩ s' ⟨hb', rfl, ps, hz, hR⟩
    simp only at hb'
    subst hb'
    cases hz
    wp_walk
    exact ⟨_, rfl, by simpa [Builtin.Tuple.tupleCompareSizes, lexGt] using hR⟩
  case h =>
    exact ⟨rfl, rfl, _, .cons _ _ _ _ (.cons _ _ _ _ (.cons _ _ _ _ .nil)), h⟩
/-- the order of the triples -/
def tle (x y : Int × Int × Int) : Prop := x.1 < y.1 ∨ (x.1 = y.1 ∧ (x.2.1 < y.2.1 ∨ (x.2.1 = y.2.1 ∧ x.2.2 ≤ y.2.2)))
theorem tle_refl (x : Int × Int × Int) : tle x x := by unfold tle; omega
theorem tle_trans {x y z : Int × Int × Int} (a : tle x y) (b : tle y z) : tle x z := by unfold tle at *; omega
theorem lexGt_true {x y : Int × Int × Int} (h : lexGt [(x.1, y.1), (x.2.1, y.2.1), (x.2.2, y.2.2)] = true) : tle y x := by
  simp only [lexGt] at h
  unfold tle
  split at h
  · split at h
    · split at h
      · cases h
      · have := of_decide_eq_true h; omega
    · have := of_decide_eq_true h; omega
  · have := of_decide_eq_true h; omega
theorem lexGt_false {x y : Int × Int × Int} (h : lexGt [(x.1, y.1), (x.2.1, y.2.1), (x.2.2, y.2.2)] = false) : tle x y := by
  simp only [lexGt] at h
  unfold tle
  split at h
  · split at h
    · split at h
      · omega
      · have := of_decide_eq_false h; omega
    · have := of_decide_eq_false h; omega
  · have := of_decide_eq_false h; omega
/-- a triple on the heap -/
def Tri (h : Heap) (a : Addr) (x : Int × Int × Int) : Prop := ∃ t1 t2 t3, h.get? a = some (tupOf [.int x.1 t1, .int x.2.1 t2, .int x.2.2 t3])
section
variable {prog : Program} {w : World} {A : Around} {E : Value → Shared → Prop} {s s₀ : Shared} {h₀ : Heap} {m : Str → Option Value} {news : List (Addr × Obj)} {L l it B : Addr} {rs : List Addr} {tri : Nat → Int × Int × Int} {e : Nat}

theorem mx_loop {R : Result → Shared → Prop} (hh : A.handled = none) (hu : A.units + 1 < cLine)
    (hK : ∀ h : Heap, (∀ p ∈ news, h.get? p.1 = some p.2) → (∀ b o, h₀.get? b = some o → h.get? b = some o) → h.get? l = some (listOf (rs.map Value.ref).toArray e) ∧ ∀ i, i < rs.length → Tri h (rs.getD i 0) (tri i))
    (hR : ∀ b s', b < rs.length → (∀ i, i < rs.length → tle (tri i) (tri b)) → Sf s₀ h₀ L m news s' → R (.ok (.ret (.ref (rs.getD b 0)))) s') :
    ∀ (k j b : Nat) (s : Shared) (c : Nat) (ob : Obj), rs.length - (j + 1) = k → j < rs.length → b ≤ j → (∀ i, i ≤ j → tle (tri i) (tri b)) → LIt l (j + 1) ob →
      Sf s₀ h₀ L m ((B, listOf #[.ref (rs.getD b 0), .ref (rs.getD b 0)] c) :: (it, ob) :: news) s →
      codeAny (model prog w) A (.builtin "max.loop" ⟨[.ref it, .none, .ref B], []⟩) R s := by
  have hname : (toString "max" ++ toString ".loop" : String) = "max.loop" := by decide
  intro k
  induction k with
  | zero =>
    intro j b s c ob hk hj hb hbest hob S
    have hit : s.heap.IsListIter it l (j + 1) := ⟨_, S.get (.tail _ (.head _)), hob.1, hob.2⟩
    have hl := (hK s.heap (fun p hp => (S.N p (.tail _ (.tail _ hp))).1) S.F.keep).1
    refine codeAny_builtin F.entry_max_loop ?_
    rw [Around.under_plainId F.plain_max_loop _]
    show wpAny _ A.in1 (seqItems? (.ref B) >>= _) _ _ s
    refine wpAny_bind (wpAny_seqItems (S.get (.head _)) rfl ?_)
    show wpAny _ A.in1 (tryCatch (pyNext (.ref it)) _ >>= _) _ _ s
    refine wpAny_bind (wpAny_tryCatch (wpAny_pyNext_list_end hh hit ⟨_, hl, rfl, e, rfl⟩ (by simp; omega) fun h' hs => ?_))
    have S' : Sf s₀ h₀ L m ((B, listOf #[.ref (rs.getD b 0), .ref (rs.getD b 0)] c) :: news) { s with heap := h' } := (S.perm (List.Perm.swap ..)).after hs _
    show wpAny _ A.in1 (updateSeq B (fun _ => #[]) >>= _) _ _ _
    refine wpAny_bind ?_
    refine wpAny_updateSeq (S'.get (.head _)) rfl (wpAny_bind (wpAny_letGo (wpAny_pure ?_)))
    refine hR b _ (by omega) (fun i hi => hbest i (by omega)) (S'.upd (Heap.SameBut.update ..) (Heap.get?_update_self _ (S'.get (.head _)) rfl)).tail
  | succ k ih =>
    intro j b s c ob hk hj hb hbest hob S
    have hit : s.heap.IsListIter it l (j + 1) := ⟨_, S.get (.tail _ (.head _)), hob.1, hob.2⟩
    have hl := (hK s.heap (fun p hp => (S.N p (.tail _ (.tail _ hp))).1) S.F.keep).1
    have hj1 : j + 1 < rs.length := by omega
    refine codeAny_builtin F.entry_max_loop ?_
    rw [Around.under_plainId F.plain_max_loop _]
    show wpAny _ A.in1 (seqItems? (.ref B) >>= _) _ _ s
    refine wpAny_bind (wpAny_seqItems (S.get (.head _)) rfl ?_)
    show wpAny _ A.in1 (tryCatch (pyNext (.ref it)) _ >>= _) _ _ s
    refine wpAny_bind (wpAny_tryCatch (wpAny_pyNext_list_item (x := .ref (rs.getD (j + 1) 0)) hit ⟨_, hl, rfl, e, rfl⟩ (by simp [hj1]) fun h' hit' hs => ?_))
    obtain ⟨ob', hob', hc', hd'⟩ := hit'
    have S' : Sf s₀ h₀ L m ((B, listOf #[.ref (rs.getD b 0), .ref (rs.getD b 0)] c) :: (it, ob') :: news) { s with heap := h' } := ((S.perm (List.Perm.swap ..)).upd hs hob' _).perm (List.Perm.swap ..)
    obtain ⟨hl', hT⟩ := hK h' (fun p hp => (S'.N p (.tail _ (.tail _ hp))).1) S'.F.keep
    obtain ⟨p1, p2, p3, hp⟩ := hT (j + 1) hj1
    obtain ⟨q1, q2, q3, hq⟩ := hT b (by omega)
    show wpAny _ A.in1 (tryCatch (holding [_, _] (richCompare .Gt (.ref (rs.getD (j + 1) 0)) (.ref (rs.getD b 0)) >>= _)) _ >>= _) _ _ _
    refine wpAny_bind (wpAny_tryCatch (wpAny_holding (wpAny_bind (gt3 (s := { s with heap := h' }) hu hp hq ?_))))
    refine wpAny_bind (wpAny_holding (wpAny_truthy_bool ?_))
    refine wpAny_bind (wpAny_letGo (wpAny_pure ?_))
    cases hg : lexGt [((tri (j + 1)).1, (tri b).1), ((tri (j + 1)).2.1, (tri b).2.1), ((tri (j + 1)).2.2, (tri b).2.2)] with
    | true =>
      simp only [if_true]
      refine wpAny_bind ?_
      refine wpAny_updateSeq (S'.get (.head _)) rfl (wpAny_bind (wpAny_letGo ?_))
      rw [hname]
      have ht := lexGt_true hg
      refine wpAny_pure ⟨plainId_quiet F.plain_max_loop _, ih (j + 1) (j + 1) _ c ob' (by omega) hj1 (Nat.le_refl _) (fun i hi => ?_) ⟨hc', hd'⟩ (S'.upd (ob' := listOf #[.ref (rs.getD (j + 1) 0), .ref (rs.getD (j + 1) 0)] c) (Heap.SameBut.update ..) (Heap.get?_update_self (Obj.mapSeq fun _ => #[.ref (rs.getD (j + 1) 0), .ref (rs.getD (j + 1) 0)]) (S'.get (.head _)) rfl))⟩
      rcases Nat.lt_or_ge i (j + 1) with c1 | c1
      · exact tle_trans (hbest i (by omega)) ht
      · have : i = j + 1 := by omega
        subst this
        exact tle_refl _
    | false =>
      simp only [Bool.false_eq_true, if_false]
      refine wpAny_bind (wpAny_letGo ?_)
      rw [hname]
      have ht := lexGt_false hg
      refine wpAny_pure ⟨plainId_quiet F.plain_max_loop _, ih (j + 1) b _ c ob' (by omega) hj1 (by omega) (fun i hi => ?_) ⟨hc', hd'⟩ S'⟩
      rcases Nat.lt_or_ge i (j + 1) with c1 | c1
      · exact hbest i (by omega)
      · have : i = j + 1 := by omega
        subst this
        exact ht

theorem mx_call {Q : Value → Shared → Prop} (hh : A.handled = none) (hu : A.units + 2 < cLine) (hn : 0 < rs.length) (S : Sf s₀ h₀ L m news s)
    (hK : ∀ h : Heap, (∀ p ∈ news, h.get? p.1 = some p.2) → (∀ b o, h₀.get? b = some o → h.get? b = some o) → h.get? l = some (listOf (rs.map Value.ref).toArray e) ∧ ∀ i, i < rs.length → Tri h (rs.getD i 0) (tri i))
    (h : ∀ b s', b < rs.length → (∀ i, i < rs.length → tle (tri i) (tri b)) → Sf s₀ h₀ L m news s' → Q (.ref (rs.getD b 0)) s') :
    wpAny (model prog w) A (call (.builtin "max") [.ref l]) Q E s := by
  have hname : (toString "max" ++ toString ".loop" : String) = "max.loop" := by decide
  refine call_function_tree F.kind_max F.plain_max F.entry_max (F.args_max1 _) ?_
  show wpAny _ A.in1 (Builtin.Builtins.bindParams "max" ["key", "default"] 0 ⟨[], []⟩ >>= _) _ _ s
  refine wpAny_bind (wpAny_of_eq (show Builtin.Builtins.bindParams "max" ["key", "default"] 0 ⟨[], []⟩ = pure [none, none] from rfl) ?_)
  refine wpAny_bind (wpAny_pure ?_)
  have hl := (hK s.heap (fun p hp => (S.N p hp).1) S.F.keep).1
  refine wpAny_bind (wpAny_pyIter_list ⟨_, hl, rfl, e, rfl⟩ ?_)
  have S1 := S.push { cls := .type "list_iterator", data := .fields #[.ref l, .int 0 0] }
  refine wpAny_bind (wpAny_newObj_type ?_)
  have S2 := S1.push { cls := .type "list", data := .seq #[] }
  rw [hname]
  refine wpAny_pure ⟨plainId_quiet F.plain_max_loop _, ?_⟩
  have hit : Heap.IsListIter ((s.heap.push { cls := .type "list_iterator", data := .fields #[.ref l, .int 0 0] }).push { cls := .type "list", data := .seq #[] }) s.heap.objs.size l 0 := ⟨_, S2.get (.tail _ (.head _)), rfl, rfl⟩
  have hl2 := (hK _ (fun p hp => (S2.N p (.tail _ (.tail _ hp))).1) S2.F.keep).1
  refine codeAny_builtin F.entry_max_loop ?_
  rw [Around.under_plainId F.plain_max_loop _]
  show wpAny _ A.in1 (seqItems? (.ref _) >>= _) _ _ _
  refine wpAny_bind (wpAny_seqItems (S2.get (.head _)) rfl ?_)
  show wpAny _ A.in1 (tryCatch (pyNext (.ref _)) _ >>= _) _ _ _
  refine wpAny_bind (wpAny_tryCatch (wpAny_pyNext_list_item (x := .ref (rs.getD 0 0)) hit ⟨_, hl2, rfl, e, rfl⟩ (by simp [hn]) fun h' hit' hs => ?_))
  obtain ⟨ob', hob', hc', hd'⟩ := hit'
  have S3 := ((S2.perm (List.Perm.swap ..)).upd hs hob').perm (List.Perm.swap ..)
  show wpAny _ A.in1 (updateSeq _ (fun _ => #[.ref (rs.getD 0 0), .ref (rs.getD 0 0)]) >>= _) _ _ _
  refine wpAny_bind ?_
  refine wpAny_updateSeq (S3.get (.head _)) rfl ?_
  rw [hname]
  refine wpAny_pure ⟨plainId_quiet F.plain_max_loop _, mx_loop (A := A) hh (by omega) hK ?_ (rs.length - 1) 0 0 _ 1 ob' rfl hn (Nat.le_refl _) (fun i hi => ?_) ⟨hc', hd'⟩
    (S3.upd (ob' := listOf #[.ref (rs.getD 0 0), .ref (rs.getD 0 0)] 1) (Heap.SameBut.update ..) (Heap.get?_update_self (Obj.mapSeq fun _ => #[.ref (rs.getD 0 0), .ref (rs.getD 0 0)]) (S3.get (.head _)) rfl))⟩
  · intro b s' hb ht S'
    exact h b s' hb ht S'
  · have : i = 0 := by omega
    subst this
    exact tle_refl _
end
/-- a list of references -/
def RL (o : Obj) (rs : List Addr) : Prop := ∃ e, o = listOf (rs.map Value.ref).toArray e
section
variable {prog : Program} {w : World} {A : Around} {E : Value → Shared → Prop} {s s₀ : Shared} {h₀ : Heap} {m : Str → Option Value} {news pre post : List (Addr × Obj)} {L l a : Addr} {rs : List Addr} {o : Obj}
theorem rl_new {Q : Value → Shared → Prop} (S : Sf s₀ h₀ L m news s) (h : ∀ a ob s', RL ob [] → Sf s₀ h₀ L m ((a, ob) :: news) s' → Q (.ref a) s') :
    wpAny (model prog w) A (newList []) Q E s :=
  wpAny_newObj_type (h _ _ _ ⟨0, rfl⟩ (S.push _)) (by show 0 ≤ sizeLine; omega)
theorem rl_append {Q : Value → Shared → Prop} (S : Sf s₀ h₀ L m (pre ++ (l, o) :: post) s) (hi : RL o rs) (hz : rs.length ≤ 1000000) (h : ∀ ob s', RL ob (rs ++ [a]) → Sf s₀ h₀ L m (pre ++ (l, ob) :: post) s' → Q .none s') :
    wpAny (model prog w) A (call (.builtin "list.append") [.ref l, .ref a]) Q E s := by
  obtain ⟨e, rfl⟩ := hi
  refine append_at (S.get (List.mem_append_right _ (.head _))) (fun h' hs ho => h _ _ ⟨e + 1, ?_⟩ (S.updAt hs ho)) (by simp; unfold sizeLine; omega)
  simp
theorem rm_append {pl : Sem Bool} {Q : Value × List Value → Shared → Prop} (hg : s.heap.get? l = some o) (hi : RL o rs) (h : Q (.builtin "list.append", [.ref l]) s) : wpAny (model prog w) A (getMethod (.ref l) (Str.ofString "append") pl) Q E s := by
  obtain ⟨e, rfl⟩ := hi
  exact getMethod_list_append hg rfl rfl h
theorem tri_2 {value slice : Expr} {x : Int × Int × Int} {u : Tok} {ops : List Value} {Q : Value → Shared → Prop} (hg : Tri s.heap l x) (h : ∀ t, Q (.int x.2.2 t) s)
    (hs : subscripted slice false (.ref l) (.int 2 u) = operate ops (getItem (.ref l) (.int 2 u)) := by with_unfolding_all rfl) :
    wpAny (model prog w) A (subscriptTail value slice (.ref l) (.int 2 u)) Q E s := by
  obtain ⟨t1, t2, t3, hg⟩ := hg
  exact tail_any (T := "tuple") ⟨_, hg, rfl⟩ slot_tuple_getitem.lookup (getItem_tuple (j := 2) (items := #[.int x.1 t1, .int x.2.1 t2, .int x.2.2 t3]) ⟨_, hg, rfl, 0, rfl⟩ (by decide) (by decide) rfl rfl (h t3)) hs
end
def pv (p : Int → Bool) : Value → Bool
  | .int n _ => p n
  | _ => false
def Fv (g : Int → Int) (v y : Value) : Prop := ∃ n t u, v = .int n t ∧ y = .int (g n) u
theorem paired_ints {p : Int → Bool} {g : Int → Int} : ∀ {vs : List Value} {ns : List Int} {ys : List Value}, IntsAre vs ns → Paired (Fv g) (vs.filter (pv p)) ys → IntsAre ys ((ns.filter p).map g)
  | _, _, _, .nil, h => by cases h; exact .nil
  | _, _, _, .cons n t r, h => by
    by_cases hp : p n = true
    · rw [List.filter_cons_of_pos (by simpa [pv] using hp)] at h
      rw [List.filter_cons_of_pos hp]
      cases h with
      | cons a b =>
        obtain ⟨n', t', u', e1, rfl⟩ := a
        cases e1
        exact .cons _ _ (paired_ints r b)
    · rw [List.filter_cons_of_neg (by simpa [pv] using hp)] at h
      rw [List.filter_cons_of_neg hp]
      exact paired_ints r h
section
variable {prog : Program} {w : World} {K : Frag} {A : Around} {E : Value → Shared → Prop} {s s₀ : Shared} {h₀ : Heap} {env : Env} {m : Str → Option Value} {news pre post : List (Addr × Obj)} {L l : Addr} {ns ms : List Int} {o : Obj}

/-- the tests and the element of a comprehension over a list of ints: they make nothing new -/
structure LcOk (prog : Program) (w : World) (A : Around) (env : Env) (scope : Scope) (cl : List (Str × Addr)) (x : Str) (ifs : List Expr) (elt : Expr) (s : Shared) (ns : List Int) (p : Int → Bool) (g : Int → Int) : Prop where
  tests : ∀ C n t s₃ m₃ E', n ∈ ns → s₃.heap.Ns C m₃ → m₃ x = some (.int n t) → (∀ b o, s.heap.get? b = some o → s₃.heap.get? b = some o) →
    wpAny (model prog w) A (forIn ifs true fun c r => if r = true then do let ok ← isTrue c (compEnvC scope cl C env) (eval c (compEnvC scope cl C env)); pure (ForInStep.yield ok) else pure (ForInStep.yield r))
      (fun ok s₄ => ok = p n ∧ Keeps s₃ s₄) E' s₃
  elt : ∀ C n t s₃ m₃ E', n ∈ ns → p n = true → s₃.heap.Ns C m₃ → m₃ x = some (.int n t) → (∀ b o, s.heap.get? b = some o → s₃.heap.get? b = some o) →
    wpAny (model prog w) A (eval elt (compEnvC scope cl C env)) (fun y s₄ => (∃ u, y = .int (g n) u) ∧ Keeps s₃ s₄) E' s₃

theorem LcOk.quiet {scope : Scope} {cl : List (Str × Addr)} {x : Str} {ifs : List Expr} {elt : Expr} {p : Int → Bool} {g : Int → Int} {vs : List Value} (H : LcOk prog w A env scope cl x ifs elt s ns p g) (hvs : IntsAre vs ns) {s₂ : Shared} {I : Addr}
    (hk : ∀ b o, s.heap.get? b = some o → b ≠ I ∧ s₂.heap.get? b = some o) :
    QuietOnC prog w A env scope cl x ifs elt [I] (fun i v => vs.toArray[i]? = some v) (pv p) (Fv g) s₂ := by
  have mem : ∀ (i : Nat) (v : Value), vs.toArray[i]? = some v → ∃ n t, v = Value.int n t ∧ n ∈ ns := by
    intro i v hv
    obtain ⟨n, t, e, hn⟩ := hvs.at i v (by simpa using hv)
    exact ⟨n, t, e, List.mem_of_getElem? hn⟩
  refine ⟨?_, ?_⟩
  · intro C i v s₃ m₃ E' hC hP hns hx hkp _
    obtain ⟨n, t, rfl, hn⟩ := mem i v hP
    exact H.tests C n t s₃ m₃ E' hn hns hx fun b o e => hkp b o (by simpa using (hk b o e).1) (hk b o e).2
  · intro C i v s₃ m₃ E' hC hP hp hns hx hkp _
    obtain ⟨n, t, rfl, hn⟩ := mem i v hP
    refine wpAny_mono (H.elt C n t s₃ m₃ E' hn hp hns hx fun b o e => hkp b o (by simpa using (hk b o e).1) (hk b o e).2) (fun y s₄ hy => ?_) fun _ _ e => e
    obtain ⟨⟨u, rfl⟩, k⟩ := hy
    exact ⟨⟨n, t, u, rfl, rfl⟩, k⟩

/-- a comprehension over a list of ints -/
theorem lc {elt iter : Expr} {x : Str} {px pos : Pos} {ifs : List Expr} {scope : Scope} {cl : List (Str × Addr)} {Q : Value → Shared → Prop}
    (hclos : closureFor scope env = pure cl) (hcell : ∀ y ∈ scope.names, y.2 ≠ .cell) (hkind : scope.kind = .function) (hnames : ∀ y ∈ scope.names, y.2 = .local → scope.names.lookup y.1 = some .local) (hx : scope.names.lookup x = some .local)
    (h : wpAny (model prog w) A (eval iter env) (fun xv s₁ => ∃ l o ns m news p g, xv = .ref l ∧ A.handled = none ∧ Sf s₀ h₀ env.locals m news s₁ ∧ s₁.heap.get? l = some o ∧ IL o ns ∧ ns.length ≤ 1000000 ∧ LcOk prog w A env scope cl x ifs elt s₁ ns p g ∧
      ∀ D ob s', IL ob ((ns.filter p).map g) → Sf s₀ h₀ env.locals m ((D, ob) :: news) s' → Q (.ref D) s') E s)
    (hs : ∀ x, foldedSetIterable iter env x = pure x := by intro _; rfl) :
    wpAny (model prog w) A (eval (.ListComp elt [⟨.Name x px, iter, ifs, 0⟩] scope pos) env) Q E s := by
  have key : wpAny (model prog w) A (eval iter env) (fun xv s₁ => wpAny (model prog w) A (pyIter xv) (fun it s₂ => ∃ I fp wr n P St p F, it = .ref I ∧ Walks prog w A I fp wr n P St ∧ n ≤ sizeLine ∧ St 0 s₂.heap ∧ (∀ b ∈ fp, b < s₂.heap.objs.size) ∧
      QuietOnC prog w A env scope cl x ifs elt wr P p F s₂ ∧
      (∀ D h' tk ys (vs : List Value), s₂.heap.get? D = none → h'.IsList D ys → h'.PlainList D ys → vs.length = n → (∀ j v, vs[j]? = some v → P j v) → Paired F (vs.filter p) ys.toList →
        (∀ b o, b ∉ wr → s₂.heap.get? b = some o → h'.get? b = some o) → Q (.ref D) { s₂ with heap := h', toks := tk })) E s₁) E s := by
    refine wpAny_mono h (fun xv s₁ h₁ => ?_) fun _ _ e => e
    obtain ⟨l, o, ns, m, news, p, g, rfl, hh, S, hg, hi, hz, H, hQ⟩ := h₁
    obtain ⟨vs, hvs, hl⟩ := hi.isList
    have hlt : l < s₁.heap.objs.size := Heap.lt_size hg
    refine wpAny_pyIter_list (hl hg) ?_
    have W := Walks.list (prog := prog) (w := w) (A := A) hh s₁.heap.objs.size l (Nat.ne_of_lt hlt) vs.toArray
    refine ⟨_, _, _, _, _, _, pv p, Fv g, rfl, W, ?_, ⟨⟨_, Heap.get?_push_size _ rfl, rfl, rfl⟩, (hl hg).push _⟩, ?_, H.quiet hvs fun b o e => ⟨Nat.ne_of_lt (Heap.lt_size e), Heap.get?_push_of_some _ e⟩, ?_⟩
    · rw [List.size_toArray, hvs.length]; unfold sizeLine; omega
    · intro b hb
      simp only [List.mem_cons, List.not_mem_nil, or_false] at hb
      show b < (s₁.heap.push _).objs.size
      rw [Heap.size_push]
      rcases hb with rfl | rfl
      · exact Nat.lt_succ_self _
      · exact Nat.lt_succ_of_lt hlt
    · intro D h' tk ys vs' hD _ hpl hlen hP hF hk
      have hsz : vs.toArray.size = vs.length := by simp
      have e : vs' = vs := by
        apply List.ext_getElem?
        intro i
        rcases Nat.lt_or_ge i vs'.length with q | q
        · have h1 := hP i vs'[i] (by simp [q])
          rw [List.getElem?_eq_getElem q]
          simpa using h1.symm
        · rw [List.getElem?_eq_none q, List.getElem?_eq_none (by omega)]
      subst e
      obtain ⟨n, hD'⟩ := hpl
      have hD0 : s₁.heap.get? D = none := by
        cases q : s₁.heap.get? D with
        | none => rfl
        | some ob => have := Heap.get?_push_of_some { cls := .type "list_iterator", data := .fields #[.ref l, .int 0 0] } q; rw [hD] at this; cases this
      have O : Out [] s₁ { s₁ with heap := h', toks := tk } := ⟨fun b o _ e => hk b o (by simpa using Nat.ne_of_lt (Heap.lt_size e)) (Heap.get?_push_of_some _ e), rfl, rfl, rfl⟩
      exact hQ D _ _ ⟨ys.toList, n, by simp, paired_ints hvs hF⟩ (S.call1 O ⟨hD', hD0⟩)
  rw [eval_ListComp]
  refine wpAny_comprehension_free (use := none) rfl hs hclos hkind hnames (wpAny_mono key (fun xv s₁ h₁ => wpAny_mono h₁ (fun it s₂ h₂ => ?_) fun _ _ e => e) fun _ _ e => e)
  obtain ⟨I, fp, wr, n, P, St, p, F, rfl, W, hsz, hst, hfp, hq, hQ⟩ := h₂
  refine comp_block_walkC (RR := fun acc C => compPost (model prog w) A E none Q acc C) W hsz p F hcell hkind hx hst hfp hq ?_
  intro D C h' tk m' ys vs hD hC hDC hn hl hpl hlen hP hF hk
  exact ⟨m', hn, fun h'' hs'' => hQ D h'' tk ys vs hD (hl.extBut hs''.extBut hDC) (hpl.extBut hs''.extBut hDC) hlen hP hF fun b o hbf e => hs''.extBut b o (by rintro rfl; rw [hC] at e; cases e) (hk b o hbf e)⟩
/-- a comprehension over a list of ints that a name takes at once -/
theorem lca {elt iter : Expr} {x y : Str} {px py pos spos : Pos} {ifs : List Expr} {scope : Scope} {cl : List (Str × Addr)} {Q : Flow → Shared → Prop} (p : Int → Bool) (g : Int → Int)
    (hsw : swapsWith (.ListComp elt [⟨.Name x px, iter, ifs, 0⟩] scope pos) (some (.Name y py)) spos.line env = pure true)
    (hclos : closureFor scope env = pure cl) (hcell : ∀ y ∈ scope.names, y.2 ≠ .cell) (hkind : scope.kind = .function) (hnames : ∀ y ∈ scope.names, y.2 = .local → scope.names.lookup y.1 = some .local) (hx : scope.names.lookup x = some .local)
    (h : wpAny (model prog w) A (eval iter env) (fun xv s₁ => ∃ l o ns m news, xv = .ref l ∧ A.handled = none ∧ Sf s₀ h₀ env.locals m news s₁ ∧ s₁.heap.get? l = some o ∧ IL o ns ∧ ns.length ≤ 1000000 ∧ LcOk prog w A env scope cl x ifs elt s₁ ns p g ∧
      ∀ D ob s', IL ob ((ns.filter p).map g) → Sf s₀ h₀ env.locals (up m y (.ref D)) ((D, ob) :: news) s' → Q .next s') E s)
    (hs : ∀ x, foldedSetIterable iter env x = pure x := by intro _; rfl) (hy : env.kindOf y = some .local := by rfl) (hp : (env.scope.kind == .class || (env.scope.kind == .module && env.locals != env.globals)) = false := by rfl) :
    wpAny (model prog w) A (exec (.Assign [.Name y py] (.ListComp elt [⟨.Name x px, iter, ifs, 0⟩] scope pos) spos) env) Q E s := by
  refine wpAny_Assign_ListComp_free (pv p) (Fv g) hsw hclos hcell hkind hnames hx hy hp (wpAny_mono h (fun xv s₁ h₁ => ?_) fun _ _ e => e) hs
  obtain ⟨l, o, ns, m, news, rfl, hh, S, hg, hi, hz, H, hQ⟩ := h₁
  obtain ⟨vs, hvs, hl⟩ := hi.isList
  have hlt : l < s₁.heap.objs.size := Heap.lt_size hg
  refine wpAny_pyIter_list (hl hg) ?_
  have W := Walks.list (prog := prog) (w := w) (A := A) hh s₁.heap.objs.size l (Nat.ne_of_lt hlt) vs.toArray
  have hLlt : env.locals < s₁.heap.objs.size := S.F.ns.lt
  refine ⟨_, _, _, _, _, _, m, rfl, W, ?_, ⟨⟨_, Heap.get?_push_size _ rfl, rfl, rfl⟩, (hl hg).push _⟩, ?_, ?_, (S.push { cls := .type "list_iterator", data := .fields #[.ref l, .int 0 0] }).F.ns, H.quiet hvs fun b o e => ⟨Nat.ne_of_lt (Heap.lt_size e), Heap.get?_push_of_some _ e⟩, ?_⟩
  · rw [List.size_toArray, hvs.length]; unfold sizeLine; omega
  · intro b hb
    simp only [List.mem_cons, List.not_mem_nil, or_false] at hb
    show b < (s₁.heap.push _).objs.size
    rw [Heap.size_push]
    rcases hb with rfl | rfl
    · exact Nat.lt_succ_self _
    · exact Nat.lt_succ_of_lt hlt
  · simpa using Nat.ne_of_lt hLlt
  · intro D h' tk ys vs' hD _ hpl hlen hP hF hns hk
    have e : vs' = vs := by
      apply List.ext_getElem?
      intro i
      rcases Nat.lt_or_ge i vs'.length with q | q
      · have h1 := hP i vs'[i] (by simp [q])
        rw [List.getElem?_eq_getElem q]
        simpa using h1.symm
      · rw [List.getElem?_eq_none q, List.getElem?_eq_none (by simpa [hlen] using q)]
    subst e
    obtain ⟨n, hD'⟩ := hpl
    have hD0 : s₁.heap.get? D = none := by
      cases q : s₁.heap.get? D with
      | none => rfl
      | some ob => have := Heap.get?_push_of_some { cls := .type "list_iterator", data := .fields #[.ref l, .int 0 0] } q; rw [hD] at this; cases this
    have keep : ∀ b o, b ≠ env.locals → s₁.heap.get? b = some o → h'.get? b = some o := fun b o hb e => hk b o hb (by simpa using Nat.ne_of_lt (Heap.lt_size e)) (Heap.get?_push_of_some _ e)
    have old : ∀ b o, h₀.get? b = some o → b ≠ env.locals := fun b o e q => absurd (Heap.lt_size e) (by rw [q]; exact Nat.not_lt.mpr S.F.above)
    refine hQ D (listOf ys n) _ ⟨ys.toList, n, by simp, paired_ints hvs hF⟩ ⟨⟨hns, fun b o e => keep b o (old b o e) (S.F.keep b o e), S.F.above⟩, fun q hq => ?_, List.nodup_cons.mpr ⟨fun hm => ?_, S.D⟩, S.g, S.d, S.o⟩
    · rcases List.mem_cons.mp hq with rfl | hq
      · refine ⟨hD', fun q => ?_, ?_⟩
        · obtain ⟨oL, _, _, hgL, _⟩ := S.F.ns
          rw [← q, hD0] at hgL
          cases hgL
        · cases q : h₀.get? D with
          | none => rfl
          | some o => have := S.F.keep _ _ q; rw [hD0] at this; cases this
      · have := S.N q hq
        exact ⟨keep _ _ this.2.1 this.1, this.2⟩
    · obtain ⟨q, hq, e⟩ := List.mem_map.mp hm
      have := (S.N q hq).1
      rw [e, hD0] at this
      cases this
theorem keeps_toks (s : Shared) (tk : Nat) : Keeps s { s with toks := tk } := ⟨s.heap, tk, rfl, fun _ _ e => e⟩
theorem no_tests {c : Bool} {f : Expr → Bool → Sem (ForInStep Bool)} {Q : Bool → Shared → Prop} (h : Q c s) : wpAny (model prog w) A (forIn ([] : List Expr) c f) Q E s := wpAny_pure h
end
section
variable {prog : Program} {w : World} {K : Frag} {A : Around} {E : Value → Shared → Prop} {s s₀ : Shared} {h₀ : Heap} {env : Env} {m : Str → Option Value} {news pre post : List (Addr × Obj)} {L l b : Addr} {ns ms : List Int} {o o₂ : Obj}
theorem l_extend {Q : Value → Shared → Prop} (S : Sf s₀ h₀ L m (pre ++ (l, o) :: post) s) (hi : IL o ns) (hg : s.heap.get? b = some o₂) (hi₂ : IL o₂ ms) (hz : ns.length + ms.length ≤ 1000000)
    (h : ∀ ob s', IL ob (ns ++ ms) → Sf s₀ h₀ L m (pre ++ (l, ob) :: post) s' → Q .none s') :
    wpAny (model prog w) A (call (.builtin "list.extend") [.ref l, .ref b]) Q E s := by
  obtain ⟨vs, e, rfl, hvs⟩ := hi
  obtain ⟨ws, e2, rfl, hws⟩ := hi₂
  have hx := S.get (List.mem_append_right pre (.head post))
  have z1 : vs.toArray.size = ns.length := by simp [hvs.length]
  have z2 : ws.toArray.size = ms.length := by simp [hws.length]
  refine call_meets PySem.F.slot_list_extend ⟨_, hx, rfl⟩ PySem.F.entry_list_extend (PySem.F.args_list_extend_2 _ _) (PySem.AutoSeq1.list_extend_list_list_0 l vs.toArray e b ws.toArray e2 ?_ ?_ ?_) ⟨hx, hg, ?_⟩
  · rw [z1, z2]
    intro q
    have q2 := (Bool.and_eq_true_iff.mp q).2
    unfold Builtin.List.listTooLong sizeLine at q2
    have := of_decide_eq_true q2
    omega
  · rw [z1]; unfold sizeLine; omega
  · rw [z1, z2]; unfold sizeLine; omega
  · refine h _ _ ⟨vs ++ ws, (if (vs.toArray ++ ws.toArray).size == vs.toArray.size then e else e + 1), ?_, hvs.append hws⟩ (S.updAt (Heap.SameBut.update ..) (Heap.get?_update_self _ hx rfl))
    have q : vs.toArray ++ ws.toArray = (vs ++ ws).toArray := by simp
    show ({ cls := .type "list", data := .seq (vs.toArray ++ ws.toArray) _ } : Obj) = _
    simp only [q]
theorem m_extend {pl : Sem Bool} {Q : Value × List Value → Shared → Prop} (S : Sf s₀ h₀ L m news s) (hm : (l, o) ∈ news) (hi : IL o ns) (h : Q (.builtin "list.extend", [.ref l]) s) : wpAny (model prog w) A (getMethod (.ref l) (Str.ofString "extend") pl) Q E s := by
  obtain ⟨vs, e, rfl, hvs⟩ := hi
  exact kf_method S.N hm PySem.F.slot_list_extend PySem.F.type_list_extend h
theorem l_sumL {Q : Value → Shared → Prop} (hh : A.handled = none) (S : Sf s₀ h₀ L m news s) (hg : s.heap.get? l = some o) (hi : WL o ns) (h : ∀ s' (v : Int) t, Sf s₀ h₀ L m news s' → Q (.int v t) s') :
    wpAny (model prog w) A (call (.builtin "sum") [.ref l]) Q E s := by
  obtain ⟨vs, hvs, hl⟩ := hi.isList
  have hlt : l < s.heap.objs.size := Heap.lt_size hg
  refine call_sum_walkG (wpAny_pyIter_list (hl hg) ?_)
  refine ⟨_, _, _, _, _, _, fun i => ns.getD i 0, rfl, Walks.list (A := A.in1) hh s.heap.objs.size l (Nat.ne_of_lt hlt) vs.toArray, ⟨⟨_, Heap.get?_push_size _ rfl, rfl, rfl⟩, (hl hg).push _⟩, ?_, ?_, ?_⟩
  · intro c hc
    simp only [List.mem_cons, List.not_mem_nil, or_false] at hc
    show c < (s.heap.push _).objs.size
    rw [Heap.size_push]
    rcases hc with rfl | rfl
    · exact Nat.lt_succ_self _
    · exact Nat.lt_succ_of_lt hlt
  · intro i v hv
    exact hvs.int_at i v (by simpa using hv)
  · intro h' tk t' hk
    exact h _ _ _ (S.grown (fun c o e => hk c o (by simpa using Nat.ne_of_lt (Heap.lt_size e)) (Heap.get?_push_of_some _ e)) tk)
theorem l_sum {Q : Value → Shared → Prop} (hh : A.handled = none) (S : Sf s₀ h₀ L m news s) (hg : s.heap.get? l = some o) (hi : IL o ns) (h : ∀ s' (v : Int) t, Sf s₀ h₀ L m news s' → Q (.int v t) s') :
    wpAny (model prog w) A (call (.builtin "sum") [.ref l]) Q E s := l_sumL hh S hg hi.weak h
end
section
variable {prog : Program} {w : World} {K : Frag} {A : Around} {E : Value → Shared → Prop} {s s₀ : Shared} {h₀ : Heap} {env : Env} {m : Str → Option Value} {news pre post : List (Addr × Obj)} {L l b c : Addr} {ns ms : List Int} {o o₂ oc : Obj}
/-- a def with one captured name is entered -/
theorem enterC {Q : Value → Shared → Prop} {name qual : Str} {params : Arguments} {body : List Stmt} {scope : Scope} {dV kV doc pm cdv ct oc : Value} {an od : Option Addr} {osl : Array (Option Value)} {f : Addr} {vs : List Value} {binds : List (Str × Value)} (cn : Str)
    (G : Gl K s.heap) (ho : K.lookup f = some ⟨oc, od, .func (fnOf name qual params body scope dV kV doc pm an cdv ct), osl⟩) (hcd : codeIn K cdv qual = true) (hroom : A.depth < recursionLimit)
    (hbind : bindArgs (fnOf name qual params body scope dV kV doc pm an cdv ct) ⟨vs, []⟩ = pure binds) (hloc : ∀ y ∈ binds, scope.names.lookup y.1 = some .local)
    (hcn : (envOfC qual scope s.heap.objs.size f cdv).cells = [(cn, s.heap.objs.size + 1)]) (hcb : bindC (envOfC qual scope s.heap.objs.size f cdv).kindOf binds (fun _ => none) cn = none)
    (h : ∀ (s' : Shared) (co : Obj), co.data = .cell none → Sf s s.heap (envOfC qual scope s.heap.objs.size f cdv).locals (bindL (envOfC qual scope s.heap.objs.size f cdv).kindOf binds fun _ => none) [(s.heap.objs.size + 1, co)] s' →
      wpAny (model prog w) (A.deeper (envOfC qual scope s.heap.objs.size f cdv)) (execs body (envOfC qual scope s.heap.objs.size f cdv)) (fun fl s'' => Q (retOf fl) s'') (fun _ _ => False) s')
    (hco : scope.isCoroutine = false := by rfl) (hgen : scope.isGenerator = false := by rfl) (hk : scope.kind = .function := by rfl) : wpAny (model prog w) A (call (.ref f) vs) Q E s := by
  refine wpAny_call (codeAny_call_cells (fd := fnOf name qual params body scope dV kV doc pm an cdv ct) (body := body) (binds := binds) hroom (G.inn _ _ ho) rfl G.lim (codeRec_of G.inn hcd) rfl hbind rfl (fun x hx => .inl (hloc x hx)) (fun s₁ X => ?_) hco hgen hk)
  obtain ⟨h', tk, rfl, hkeep⟩ := X.done
  have hl : (callEnvC (fnOf name qual params body scope dV kV doc pm an cdv ct) s.heap.objs.size f).cells = [(cn, s.heap.objs.size + 1)] := hcn
  have hc := X.cell cn (s.heap.objs.size + 1) (by rw [hl]; simp [List.lookup])
  obtain ⟨co, hco1, hco2⟩ := hc
  refine wpAny_mono (h _ co (hco2.trans (congrArg Data.cell hcb)) ⟨⟨X.toInCall.ns, hkeep, Nat.le_refl _⟩, fun p hp => ?_, by simp, rfl, rfl, rfl⟩) (fun fl s' hq => ?_) fun _ _ x => x.elim
  · rw [List.mem_singleton.mp hp]
    exact ⟨hco1, Nat.ne_of_gt (Nat.lt_succ_self _), Heap.get?_none_of_le (Nat.le_succ _)⟩
  · cases fl <;> exact hq
theorem st_cell {x : Str} {v : Value} {v₀ : Option Value} {Q : Unit → Shared → Prop} (S : Sf s₀ h₀ L m (pre ++ (c, oc) :: post) s) (hd : oc.data = .cell v₀) (hc : env.cells.lookup x = some c)
    (h : ∀ s' oc', oc'.data = .cell (some v) → Sf s₀ h₀ L m (pre ++ (c, oc') :: post) s' → Q () s') (hk : env.scope.kind = .function := by rfl) (hx : env.kindOf x = some .cell := by rfl) :
    wpAny (model prog w) A (storeName env x v) Q E s := by
  refine wpAny_storeName_cell hk hx hc ⟨oc, S.get (List.mem_append_right _ (.head _)), hd⟩ fun h' hv hs => ?_
  obtain ⟨oc', ho', hd'⟩ := hv
  exact h _ oc' hd' (S.updAt hs ho')
end
/-- what a caught StopIteration leaves: all but the iterator and the caller's frame stays; the frame up to its slots -/
structure OutX (it LL : Addr) (s s' : Shared) : Prop where
  keep : ∀ b o, b ≠ it → b ≠ LL → s.heap.get? b = some o → s'.heap.get? b = some o
  upto : s.heap.UpToSlots s'.heap
  g : s'.gens = s.gens
  d : s'.drawn = s.drawn
  o : s'.os = s.os
section
variable {prog : Program} {w : World} {K : Frag} {A : Around} {E : Value → Shared → Prop} {s s₀ : Shared} {h₀ : Heap} {env : Env} {m : Str → Option Value} {news pre post : List (Addr × Obj)} {L l it : Addr} {ns ms : List Int} {o ob : Obj} {a b : Int} {t u : Tok}
theorem Sf.brk {s' : Shared} (S : Sf s₀ h₀ L m ((it, ob) :: news) s) (O : OutX it L s s') : Sf s₀ h₀ L m news s' := by
  have hz := S.N (it, ob) (.head _)
  have hne : ∀ p ∈ news, p.1 ≠ it := fun p hp e => (List.nodup_cons.mp S.D).1 (List.mem_map.mpr ⟨p, hp, e⟩)
  refine ⟨⟨Heap.UpToSlots.ns O.upto S.F.ns, fun b o e => O.keep b o (fun q => ?_) (fun q => ?_) (S.F.keep b o e), S.F.above⟩, fun p hp => ?_, (List.nodup_cons.mp S.D).2, O.g.trans S.g, O.d.trans S.d, O.o.trans S.o⟩
  · rw [q, hz.2.2] at e; cases e
  · exact absurd (Heap.lt_size e) (by rw [q]; exact Nat.not_lt.mpr S.F.above)
  · have := S.N p (.tail _ hp)
    exact ⟨O.keep _ _ (hne p hp) this.2.1 this.1, this.2⟩
theorem Sf.glB (S : Sf s₀ h₀ L m ((it, ob) :: news) s) (G : Gl K h₀) : Gl K ((s.heap.hide it).hide L) := by
  have hz := S.N (it, ob) (.head _)
  refine G.keeps fun b o e => (Heap.hide_ne _ (fun q => ?_)).trans ((Heap.hide_ne _ (fun q => ?_)).trans (S.F.keep b o e))
  · exact absurd (Heap.lt_size e) (by rw [q]; exact Nat.not_lt.mpr S.F.above)
  · rw [q, hz.2.2] at e
    cases e
theorem Sf.frameObj (S : Sf s₀ h₀ L m news s) : ∃ oL, s.heap.get? L = some oL ∧ ∀ vs, oL.data ≠ .fields vs := by
  obtain ⟨o, es, ep, h1, h2, _⟩ := S.F.ns
  exact ⟨o, h1, fun vs q => by rw [h2] at q; cases q⟩
theorem o_divmod {Q : Value → Shared → Prop} (k : Nat) (S : Sf s₀ h₀ L m news s) (hb : 0 < b) (hk : b.natAbs < 2 ^ k) (hk' : k ≤ 8000) (h : ∀ D t1 t2 s', Sf s₀ h₀ L m ((D, tupOf [.int (a / b) t1, .int (a % b) t2]) :: news) s' → Q (.ref D) s') :
    wpAny (model prog w) A (call (.builtin "divmod") [.int a t, .int b u]) Q E s := by
  refine divmod_int (by omega) ?_ (.inl (noPy hk hk'))
  rw [Int.fdiv_eq_ediv_of_nonneg _ (by omega), Int.fmod_eq_emod_of_nonneg _ (by omega)]
  exact h _ _ _ _ (S.push _ rfl _)
theorem if_join {c : Bool} {X : Value → Shared → Prop} {e1 e2 : Sem Value} (J : Value → Shared → Prop) (h1 : c = true → wpAny (model prog w) A e1 J E s) (h2 : c = false → wpAny (model prog w) A e2 J E s) (h : ∀ v s', J v s' → X v s') :
    if c = true then wpAny (model prog w) A e1 X E s else wpAny (model prog w) A e2 X E s := by
  cases c with
  | true => exact wpAny_mono (h1 rfl) h fun _ _ x => x
  | false => exact wpAny_mono (h2 rfl) h fun _ _ x => x
theorem if_joinS {c : Bool} {X : Value → Shared → Prop} {e1 e2 : Sem Value} (S : Sf s₀ h₀ L m ((it, ob) :: news) s) (J : Value → Obj → Prop) (h1 : c = true → wpAny (model prog w) A e1 (fun v s' => ∃ ob', J v ob' ∧ Sf s₀ h₀ L m ((it, ob') :: news) s') E s)
    (h2 : c = false → wpAny (model prog w) A e2 (fun v s' => ∃ ob', J v ob' ∧ Sf s₀ h₀ L m ((it, ob') :: news) s') E s) (h : ∀ v ob' s', J v ob' → Sf s₀ h₀ L m ((it, ob') :: news) s' → X v s') :
    if c = true then wpAny (model prog w) A e1 X E s else wpAny (model prog w) A e2 X E s :=
  if_join _ h1 h2 fun v s' ⟨ob', a, b⟩ => h v ob' s' a b
end
section
variable {prog : Program} {w : World} {K : Frag} {A : Around} {E : Value → Shared → Prop} {s s₀ : Shared} {h₀ : Heap} {env : Env} {m : Str → Option Value} {news pre post : List (Addr × Obj)} {L l it : Addr} {ns ms : List Int} {o ob : Obj} {a b : Int} {t u : Tok}
theorem l_rev {value slice : Expr} {ops : List Value} {Q : Value → Shared → Prop} (S : Sf s₀ h₀ L m news s) (hg : s.heap.get? l = some o) (hi : IL o ns) (hz : ns.length ≤ 1000000) (h : ∀ D ob s', IL ob ns.reverse → Sf s₀ h₀ L m ((D, ob) :: news) s' → Q (.ref D) s')
    (hs : subscripted slice false (.ref l) (.ref s.heap.objs.size) = operate ops (getItem (.ref l) (.ref s.heap.objs.size)) := by with_unfolding_all rfl) (ht : ∀ r, letTemporaryGo value (.ref l) r = pure () := by intro _; rfl) :
    wpAny (model prog w) A (subscriptTail value slice (.ref l) (.ref s.heap.objs.size)) Q E { s with heap := s.heap.push { cls := .type "slice", data := .fields #[.none, .none, .int (-1) t] } } := by
  obtain ⟨vs, hvs, hl⟩ := hi.isList
  refine krv_ints S.F S.N (hl hg) (.int _ _) hvs (fun D ws h' F' N' hlt hI _ => ?_) hs ht (by rw [List.size_toArray, hvs.length]; unfold sizeLine; omega)
  exact h D _ _ ⟨ws, 0, rfl, hI⟩ (S.mkN F' N' fun p hp => Nat.ne_of_lt (hlt p hp))
theorem l_maxi {Q : Value → Shared → Prop} (hh : A.handled = none) (S : Sf s₀ h₀ L m news s) (hg : s.heap.get? l = some o) (hi : IL o ns) (hne : 0 < ns.length) (h : ∀ s' M t, Sf s₀ h₀ L m news s' → M ∈ ns → (∀ x, x ∈ ns → x ≤ M) → Q (.int M t) s') :
    wpAny (model prog w) A (call (.builtin "max") [.ref l]) Q E s := by
  obtain ⟨vs, hvs, hl⟩ := hi.isList
  exact kso_max S.F S.N (hl hg) hvs hne hh fun h' M t tk F' N' a b => h _ M t ⟨F', N', S.D, S.g, S.d, S.o⟩ a b
theorem nm_cell {x : Str} {pos : Pos} {c : Addr} {v : Value} {Q : Value → Shared → Prop} (hg : s.heap.get? c = some o) (hd : o.data = .cell (some v)) (hc : env.cells.lookup x = some c) (h : Q v s)
    (hk : env.scope.kind = .function := by rfl) (hx : env.kindOf x = some .cell := by rfl) (hdb : (x == ("__debug__" : Str)) = false := by decide) : wpAny (model prog w) A (eval (.Name x pos) env) Q E s :=
  wpAny_Name (wpAny_loadName_cell hk hx hc ⟨o, hg, hd⟩ h) hdb
theorem nm_builtinG {x : Str} {pos : Pos} {v : Value} {Q : Value → Shared → Prop} (G : Gl K s.heap) (e : nsIn K mainGlobals x = some none) (hv : bootBuiltins x = some v) (h : Q v s)
    (hn : x ≠ "__name__" := by decide) (hk : env.scope.kind = .function := by rfl) (hx : env.kindOf x = some .globalImplicit := by rfl) (hg : env.globals = mainGlobals := by rfl) (hb : env.builtins = builtinsNs := by rfl) (hd : (x == ("__debug__" : Str)) = false := by decide) :
    wpAny (model prog w) A (eval (.Name x pos) env) Q E s := by
  obtain ⟨mg, mb, a, b, c⟩ := G.names
  exact Name_function_global hk hx (loadGlobal_builtin (hg ▸ a) (mg_none_of G.inn a e) (hb ▸ b) ((c x hn).trans hv) h) hd
theorem call_bG {x : Str} {p pos : Pos} {e : Expr} {rest : List Expr} {id : String} {Q : Value → Shared → Prop} (G : Gl K s.heap) (hn : nsIn K mainGlobals x = some none) (hv : bootBuiltins x = some (.builtin id))
    (h : wpAny (model prog w) A (spliced (backTo pos (starEach (e :: rest) env))) (fun vs s₁ => wpAny (model prog w) A (call (.builtin id) vs) Q E s₁) E s)
    (he : eval (.Call (.Name x p) (e :: rest) [] pos) env = (do callWith pos (← eval (.Name x p) env) [] (backTo pos (starEach (e :: rest) env)) (backToKw pos (keywordEach [] env))) := by rfl)
    (hx : x ≠ "__name__" := by decide) (hk : env.scope.kind = .function := by rfl) (hkx : env.kindOf x = some .globalImplicit := by rfl) (hg : env.globals = mainGlobals := by rfl) (hb : env.builtins = builtinsNs := by rfl) (hd : (x == ("__debug__" : Str)) = false := by decide)
    (hse : starEach (e :: rest) env = (false, eval e env) :: starEach rest env := by rfl) (hpl : (backTo pos (starEach rest env)).any (·.1) = false := by rfl) :
    wpAny (model prog w) A (eval (.Call (.Name x p) (e :: rest) [] pos) env) Q E s :=
  Call_ (nm_builtinG G hn hv (callWith_method1 (first := []) h hse hpl) hx hk hkx hg hb hd) he
theorem one_test {c : Expr} {env : Env} {Q : Bool → Shared → Prop} (h : wpAny (model prog w) A (isTrue c env (eval c env)) Q E s) :
    wpAny (model prog w) A (forIn [c] true fun c r => if r = true then do let ok ← isTrue c env (eval c env); pure (ForInStep.yield ok) else pure (ForInStep.yield r)) Q E s := by
  rw [List.forIn_cons]
  simp only [if_true]
  refine wpAny_bind (wpAny_bind (wpAny_mono h (fun b s' hb => ?_) fun _ _ x => x))
  exact wpAny_pure (wpAny_pure hb)
theorem to_env {b : List Stmt} {Q : Flow → Shared → Prop} (S : Sf s₀ h₀ env.locals m news s) (h : Sf s₀ h₀ env.locals m news s → wpAny (model prog w) A (execs b env) Q E s) : wpAny (model prog w) A (execs b env) Q E s := h S
theorem LcOk.quietP {scope : Scope} {cl : List (Str × Addr)} {x : Str} {ifs : List Expr} {elt : Expr} {p : Int → Bool} {g : Int → Int} {P : Nat → Value → Prop} (H : LcOk prog w A env scope cl x ifs elt s ns p g) (mem : ∀ i v, P i v → ∃ n t, v = Value.int n t ∧ n ∈ ns) {s₂ : Shared} {I : Addr}
    (hk : ∀ b o, s.heap.get? b = some o → b ≠ I ∧ s₂.heap.get? b = some o) :
    QuietOnC prog w A env scope cl x ifs elt [I] P (pv p) (Fv g) s₂ := by
  refine ⟨?_, ?_⟩
  · intro C i v s₃ m₃ E' hC hP hns hx hkp _
    obtain ⟨n, t, rfl, hn⟩ := mem i v hP
    exact H.tests C n t s₃ m₃ E' hn hns hx fun b o e => hkp b o (by simpa using (hk b o e).1) (hk b o e).2
  · intro C i v s₃ m₃ E' hC hP hp hns hx hkp _
    obtain ⟨n, t, rfl, hn⟩ := mem i v hP
    refine wpAny_mono (H.elt C n t s₃ m₃ E' hn hp hns hx fun b o e => hkp b o (by simpa using (hk b o e).1) (hk b o e).2) (fun y s₄ hy => ?_) fun _ _ e => e
    obtain ⟨⟨u, rfl⟩, k⟩ := hy
    exact ⟨⟨n, t, u, rfl, rfl⟩, k⟩
theorem ints_of_range {a : Int} : ∀ {n : Nat} {vs : List Value}, vs.length = n → (∀ (j : Nat) v, vs[j]? = some v → ∃ t, v = Value.int (a + j) t) → IntsAre vs ((List.range n).map fun (j : Nat) => a + (j : Int)) := by
  intro n
  induction n with
  | zero =>
    intro vs hl _
    rw [List.length_eq_zero_iff.mp hl]
    exact .nil
  | succ n ih =>
    intro vs hl hv
    have hne : vs ≠ [] := fun q => by rw [q] at hl; cases hl
    have e := List.dropLast_concat_getLast hne
    obtain ⟨t, ht⟩ := hv n (vs.getLast hne) (by rw [List.getLast_eq_getElem, List.getElem?_eq_getElem (by omega)]; congr 2; omega)
    rw [← e, List.range_succ, List.map_append]
    refine IntsAre.append (ih (by rw [List.length_dropLast]; omega) fun j v hj => ?_) (by rw [ht]; exact .cons _ _ .nil)
    have : j < vs.dropLast.length := (List.getElem?_eq_some_iff.mp hj).1
    refine hv j v ?_
    rw [← hj, List.getElem?_dropLast, if_pos (by rw [List.length_dropLast] at this; exact this)]
/-- a comprehension over a range -/
theorem lcr {elt iter : Expr} {x : Str} {px pos : Pos} {ifs : List Expr} {scope : Scope} {cl : List (Str × Addr)} {Q : Value → Shared → Prop}
    (hclos : closureFor scope env = pure cl) (hcell : ∀ y ∈ scope.names, y.2 ≠ .cell) (hkind : scope.kind = .function) (hnames : ∀ y ∈ scope.names, y.2 = .local → scope.names.lookup y.1 = some .local) (hx : scope.names.lookup x = some .local)
    (h : wpAny (model prog w) A (eval iter env) (fun xv s₁ => ∃ r a b t u v k m news p g, xv = .ref r ∧ A.handled = none ∧ Sf s₀ h₀ env.locals m news s₁ ∧ IsRange s₁.heap r a b 1 t u v ∧ b - a = ((k : Nat) : Int) ∧ -1000000 ≤ a ∧ b ≤ 1000000 ∧ LcOk prog w A env scope cl x ifs elt s₁ ((List.range k).map fun (j : Nat) => a + (j : Int)) p g ∧
      ∀ D ob s', IL ob ((((List.range k).map fun (j : Nat) => a + (j : Int)).filter p).map g) → Sf s₀ h₀ env.locals m ((D, ob) :: news) s' → Q (.ref D) s') E s)
    (hs : ∀ x, foldedSetIterable iter env x = pure x := by intro _; rfl) :
    wpAny (model prog w) A (eval (.ListComp elt [⟨.Name x px, iter, ifs, 0⟩] scope pos) env) Q E s := by
  have key : wpAny (model prog w) A (eval iter env) (fun xv s₁ => wpAny (model prog w) A (pyIter xv) (fun it s₂ => ∃ I fp wr n P St p F, it = .ref I ∧ Walks prog w A I fp wr n P St ∧ n ≤ sizeLine ∧ St 0 s₂.heap ∧ (∀ b ∈ fp, b < s₂.heap.objs.size) ∧
      QuietOnC prog w A env scope cl x ifs elt wr P p F s₂ ∧
      (∀ D h' tk ys (vs : List Value), s₂.heap.get? D = none → h'.IsList D ys → h'.PlainList D ys → vs.length = n → (∀ j v, vs[j]? = some v → P j v) → Paired F (vs.filter p) ys.toList →
        (∀ b o, b ∉ wr → s₂.heap.get? b = some o → h'.get? b = some o) → Q (.ref D) { s₂ with heap := h', toks := tk })) E s₁) E s := by
    refine wpAny_mono h (fun xv s₁ h₁ => ?_) fun _ _ e => e
    obtain ⟨r, a, b, t, u, v, k, m, news, p, g, rfl, hh, S, hr, hn, ha, hb, H, hQ⟩ := h₁
    have hsz : Builtin.Range.rangeSize a b 1 = (k : Int) := by
      unfold Builtin.Range.rangeSize
      rw [if_pos (by decide)]
      split <;> omega
    have hsm : Builtin.Range.small a b 1 = true := by
      unfold Builtin.Range.small Builtin.Range.rangeFitsLong
      rw [hsz]
      simp only [Bool.and_eq_true, Bool.or_eq_true, decide_eq_true_eq, beq_iff_eq]
      have : (1 : Int) > 0 := by decide
      simp only [this, if_true, Bool.and_eq_true, decide_eq_true_eq]
      refine ⟨⟨⟨⟨⟨?_, ?_⟩, ?_, ?_⟩, ?_⟩, ?_, ?_⟩, ?_⟩ <;> first | omega | decide | (right; constructor <;> omega)
    refine wpAny_pyIter_range hr hsm ?_
    rw [hsz]
    have W : Walks prog w A s₁.heap.objs.size [s₁.heap.objs.size] [s₁.heap.objs.size] k (fun i v => i < k ∧ ∃ t, v = .int (a + i * 1) t) (fun i h => IsRangeIter h s₁.heap.objs.size (a + (i : Nat) * 1) ((k : Int) - (i : Nat)) 1) := (Walks.range hh s₁.heap.objs.size a 1 k).bound
    refine ⟨_, _, _, _, _, _, pv p, Fv g, rfl, W, ?_, ?_, ?_, H.quietP ?_ fun b o e => ⟨Nat.ne_of_lt (Heap.lt_size e), Heap.get?_push_of_some _ e⟩, ?_⟩
    · unfold sizeLine; omega
    · show (s₁.heap.push _).get? _ = some _
      rw [Heap.get?_push_size _ rfl]
      simp
    · intro b hb
      simp only [List.mem_cons, List.not_mem_nil, or_false] at hb
      show b < (s₁.heap.push _).objs.size
      rw [Heap.size_push, hb]
      exact Nat.lt_succ_self _
    · rintro i v ⟨hi, t, rfl⟩
      exact ⟨_, t, rfl, List.mem_map.mpr ⟨i, List.mem_range.mpr hi, by omega⟩⟩
    · intro D h' tk ys vs' hD _ hpl hlen hP hF hk
      have hvs : IntsAre vs' ((List.range k).map fun (j : Nat) => a + (j : Int)) := ints_of_range hlen fun j v hv => by
        obtain ⟨_, t, e⟩ := hP j v hv
        exact ⟨t, by rw [e, Int.mul_one]⟩
      obtain ⟨n, hD'⟩ := hpl
      have hD0 : s₁.heap.get? D = none := by
        cases q : s₁.heap.get? D with
        | none => rfl
        | some ob => have := Heap.get?_push_of_some { cls := .type "range_iterator", data := .fields #[rawInt a, rawInt k, rawInt 1] } q; rw [hD] at this; cases this
      have O : Out [] s₁ { s₁ with heap := h', toks := tk } := ⟨fun b o _ e => hk b o (by simpa using Nat.ne_of_lt (Heap.lt_size e)) (Heap.get?_push_of_some _ e), rfl, rfl, rfl⟩
      exact hQ D _ _ ⟨ys.toList, n, by simp, paired_ints hvs hF⟩ (S.call1 O ⟨hD', hD0⟩)
  rw [eval_ListComp]
  refine wpAny_comprehension_free (use := none) rfl hs hclos hkind hnames (wpAny_mono key (fun xv s₁ h₁ => wpAny_mono h₁ (fun it s₂ h₂ => ?_) fun _ _ e => e) fun _ _ e => e)
  obtain ⟨I, fp, wr, n, P, St, p, F, rfl, W, hsz, hst, hfp, hq, hQ⟩ := h₂
  refine comp_block_walkC (RR := fun acc C => compPost (model prog w) A E none Q acc C) W hsz p F hcell hkind hx hst hfp hq ?_
  intro D C h' tk m' ys vs hD hC hDC hn hl hpl hlen hP hF hk
  exact ⟨m', hn, fun h'' hs'' => hQ D h'' tk ys vs hD (hl.extBut hs''.extBut hDC) (hpl.extBut hs''.extBut hDC) hlen hP hF fun b o hbf e => hs''.extBut b o (by rintro rfl; rw [hC] at e; cases e) (hk b o hbf e)⟩
end
noncomputable def bodyIn (K : Frag) (a : Addr) : List Stmt := match K.lookup a with
  | some ⟨_, _, .func fd, _⟩ => (match fd.body with | .stmts b => b | _ => [])
  | _ => []
noncomputable def scopeIn (K : Frag) (a : Addr) : Scope := match K.lookup a with
  | some ⟨_, _, .func fd, _⟩ => fd.scope
  | _ => default
/-- p is a period of the first n figures -/
def Per (f : Nat → Int) (n p : Nat) : Prop := ∀ j, j + p < n → f j = f (j + p)
/-- p is the least one -/
structure LP (f : Nat → Int) (n p : Nat) : Prop where
  pos : 1 ≤ p
  le : p ≤ n
  per : Per f n p
  least : ∀ q, 1 ≤ q → q < p → ¬ Per f n q
theorem LP.uniq {f : Nat → Int} {n p q : Nat} (a : LP f n p) (b : LP f n q) : p = q := by
  rcases Nat.lt_trichotomy p q with h | h | h
  · exact absurd a.per (b.least p a.pos h)
  · exact h
  · exact absurd b.per (a.least q b.pos h)
theorem LP.one (f : Nat → Int) : LP f 1 1 := ⟨Nat.le_refl _, Nat.le_refl _, fun j h => absurd h (by omega), fun q h1 h2 => absurd h2 (by omega)⟩
theorem Per.congr {f g : Nat → Int} {n p : Nat} (h : Per f n p) (e : ∀ j, j < n → f j = g j) : Per g n p := fun j hj => by
  rw [← e j (by omega), ← e (j + p) hj]; exact h j hj
theorem LP.congr {f g : Nat → Int} {n p : Nat} (h : LP f n p) (e : ∀ j, j < n → f j = g j) : LP g n p :=
  ⟨h.pos, h.le, h.per.congr e, fun q h1 h2 hq => h.least q h1 h2 (hq.congr fun j hj => (e j hj).symm)⟩
/-- the inner loop of the table: idx figures come again at the end of the first i, no shorter period serves i + 1 -/
structure Inv (f : Nat → Int) (i idx : Nat) : Prop where
  lt : idx < i
  per : Per f i (i - idx)
  no : ∀ q, 1 ≤ q → q < i - idx → ¬ Per f (i + 1) q
theorem inv_start {f : Nat → Int} {i p : Nat} (h : LP f i p) (hi : 1 ≤ i) : Inv f i (i - p) := by
  have := h.pos
  have := h.le
  have e : i - (i - p) = p := by omega
  exact ⟨by omega, by rw [e]; exact h.per, fun q h1 h2 hq => h.least q h1 (by omega) fun j hj => hq j (by omega)⟩
theorem inv_hit {f : Nat → Int} {i idx : Nat} (h : Inv f i idx) (e : f i = f idx) : LP f (i + 1) (i - idx) := by
  have hlt := h.lt
  refine ⟨by omega, by omega, fun j hj => ?_, h.no⟩
  rcases Nat.lt_or_ge (j + (i - idx)) i with q | q
  · exact h.per j q
  · have e1 : j = idx := by omega
    have e2 : j + (i - idx) = i := by omega
    rw [e2, e1, e]
theorem inv_zero {f : Nat → Int} {i : Nat} (h : Inv f i 0) (e : f i ≠ f 0) : LP f (i + 1) (i + 1) := by
  refine ⟨by omega, Nat.le_refl _, fun j hj => absurd hj (by omega), fun q h1 h2 hq => ?_⟩
  rcases Nat.lt_or_ge q i with c | c
  · exact h.no q h1 (by omega) hq
  · have : q = i := by omega
    subst this
    exact e ((hq 0 (by omega)).symm ▸ by simp)
theorem inv_next {f : Nat → Int} {i idx p : Nat} (h : Inv f i idx) (e : f i ≠ f idx) (hl : LP f idx p) : Inv f i (idx - p) := by
  have hlt := h.lt
  have hp := hl.pos
  have hle := hl.le
  have e0 : i - (idx - p) = (i - idx) + p := by omega
  refine ⟨by omega, ?_, ?_⟩
  · rw [e0]
    intro j hj
    have a := hl.per j (by omega)
    have b := h.per (j + p) (by omega)
    rw [a, b]
    congr 1
    omega
  · rw [e0]
    intro q h1 h2 hq
    rcases Nat.lt_trichotomy q (i - idx) with c | c | c
    · exact h.no q h1 c hq
    · have := hq idx (by omega)
      rw [c, show idx + (i - idx) = i by omega] at this
      exact e this.symm
    · refine hl.least (q - (i - idx)) (by omega) (by omega) fun j hj => ?_
      have a := hq j (by omega)
      have b := h.per (j + (q - (i - idx))) (by omega)
      rw [show j + (q - (i - idx)) + (i - idx) = j + q by omega] at b
      rw [a, b]
/-- the first k places of the table -/
def Tbl (f : Nat → Int) (k : Nat) (T : List Int) : Prop := ∀ i, i < k → ∃ p, LP f (i + 1) p ∧ T.getD i 0 = (i : Int) + 1 - p
theorem Tbl.set {f : Nat → Int} {k p : Nat} {T : List Int} {v : Int} (h : Tbl f (k + 1) T) (hk : k + 1 < T.length) (hl : LP f (k + 2) p) (hv : v = (k : Int) + 2 - p) : Tbl f (k + 2) (T.set (k + 1) v) := by
  intro i hi
  rcases Nat.lt_or_ge i (k + 1) with c | c
  · obtain ⟨q, h1, h2⟩ := h i c
    refine ⟨q, h1, ?_⟩
    rw [← h2]
    simp [List.getD_eq_getElem?_getD, List.getElem?_set, show k + 1 ≠ i by omega]
  · have e : i = k + 1 := by omega
    subst e
    refine ⟨p, hl, ?_⟩
    rw [hv]
    simp [List.getD_eq_getElem?_getD, List.getElem?_set, hk]
    omega
theorem Tbl.first {f : Nat → Int} {T : List Int} (h : T.getD 0 0 = 0) : Tbl f 1 T := by
  intro i hi
  have e : i = 0 := by omega
  subst e
  exact ⟨1, LP.one f, by rw [h]; rfl⟩
/-- the number that k figures from a on tell -/
def val (f : Nat → Int) (a : Nat) : Nat → Int
  | 0 => 0
  | k + 1 => 64 * val f a k + f (a + k)
theorem q64_pos (n : Nat) : (0 : Int) < 64 ^ n := Int.pow_pos (by decide)
theorem val_split (f : Nat → Int) (a k : Nat) : ∀ l, val f a (k + l) = val f a k * 64 ^ l + val f (a + k) l
  | 0 => by simp [val]
  | l + 1 => by
    have ih := val_split f a k l
    show 64 * val f a (k + l) + f (a + (k + l)) = _
    rw [ih]
    simp only [val, Int.pow_succ, Nat.add_assoc]
    grind
theorem val_lt {f : Nat → Int} (hf : ∀ j, 0 ≤ f j ∧ f j < 64) (a : Nat) : ∀ k, 0 ≤ val f a k ∧ val f a k < 64 ^ k
  | 0 => ⟨Int.le_refl 0, show (0 : Int) < 1 by decide⟩
  | k + 1 => by
    have ih := val_lt hf a k
    have := hf (a + k)
    simp only [val, Int.pow_succ]
    omega
theorem val_congr {f g : Nat → Int} {a b : Nat} : ∀ {k}, (∀ j, j < k → f (a + j) = g (b + j)) → val f a k = val g b k
  | 0, _ => rfl
  | k + 1, h => by
    simp only [val]
    rw [val_congr (fun j hj => h j (by omega)), h k (by omega)]
theorem val_inj {f : Nat → Int} (hf : ∀ j, 0 ≤ f j ∧ f j < 64) {a b : Nat} : ∀ {k}, val f a k = val f b k → ∀ j, j < k → f (a + j) = f (b + j)
  | 0, _, j, hj => absurd hj (by omega)
  | k + 1, h, j, hj => by
    simp only [val] at h
    have h1 := hf (a + k)
    have h2 := hf (b + k)
    rcases Nat.lt_or_ge j k with c | c
    · exact val_inj hf (k := k) (by omega) j c
    · have : j = k := by omega
      subst this
      omega
theorem val_neg (f : Nat → Int) (a : Nat) : ∀ k, val (fun j => 63 - f j) a k = 64 ^ k - 1 - val f a k
  | 0 => rfl
  | k + 1 => by
    simp only [val, Int.pow_succ]
    rw [val_neg f a k]
    omega
theorem div_lem {x y M : Int} (h0 : 0 ≤ y) (h1 : y < M) : (x * M + y) / M = x := by
  rw [Int.add_comm, Int.add_mul_ediv_right _ _ (by omega), Int.ediv_eq_zero_of_lt h0 h1]
  omega
theorem mod_lem {x y M : Int} (h0 : 0 ≤ y) (h1 : y < M) : (x * M + y) % M = y := by
  rw [Int.add_comm, Int.add_mul_emod_self_right]
  exact Int.emod_eq_of_lt h0 h1
theorem val_div {f : Nat → Int} (hf : ∀ j, 0 ≤ f j ∧ f j < 64) (a k l : Nat) : val f a (k + l) / 64 ^ l = val f a k := by
  rw [val_split]
  exact div_lem (val_lt hf _ _).1 (val_lt hf _ _).2
theorem val_mod {f : Nat → Int} (hf : ∀ j, 0 ≤ f j ∧ f j < 64) (a k l : Nat) : val f a (k + l) % 64 ^ l = val f (a + k) l := by
  rw [val_split]
  exact mod_lem (val_lt hf _ _).1 (val_lt hf _ _).2
/-- q figures ahead of the cut c come again behind it -/
def Loc (f : Nat → Int) (n c q : Nat) : Prop := ∀ i, i < c → c ≤ i + q → i + q < n → f i = f (i + q)
theorem Per.loc {f : Nat → Int} {n q : Nat} (h : Per f n q) (c : Nat) : Loc f n c q := fun i _ _ h3 => h i h3
/-- span figures ahead of the cut come again behind it, as far as there are figures -/
def SpanOk (left ahead right behind span : Int) : Prop :=
  (left / 64 ^ (max 0 (span - behind)).toNat) % 64 ^ (min span behind - max 0 (span - ahead)).toNat = (right / 64 ^ (max 0 (behind - span)).toNat) % 64 ^ (min span behind - max 0 (span - ahead)).toNat
theorem span_loc {f : Nat → Int} (hf : ∀ j, 0 ≤ f j ∧ f j < 64) {n c q : Nat} (hc : c ≤ n) (hq : q ≤ n) : SpanOk (val f 0 c) c (val f c (n - c)) (n - c : Nat) q ↔ Loc f n c q := by
  unfold SpanOk
  have e1 : (max 0 ((q : Int) - (n - c : Nat))).toNat = q - (n - c) := by omega
  have e2 : (min (q : Int) (n - c : Nat) - max 0 ((q : Int) - c)).toNat = min q (n - c) - (q - c) := by omega
  have e3 : (max 0 (((n - c : Nat) : Int) - q)).toNat = (n - c) - q := by omega
  rw [e1, e2, e3]
  have a1 : val f 0 c = val f 0 (((c - q) + (min q (n - c) - (q - c))) + (q - (n - c))) := by congr 1; omega
  have a2 : val f c (n - c) = val f c (((q - c) + (min q (n - c) - (q - c))) + ((n - c) - q)) := by congr 1; omega
  rw [a1, a2, val_div hf, val_div hf, val_mod hf, val_mod hf]
  constructor
  · intro h i h1 h2 h3
    have := val_inj hf h (i - (c - q)) (by omega)
    rw [show 0 + (c - q) + (i - (c - q)) = i by omega, show c + (q - c) + (i - (c - q)) = i + q by omega] at this
    exact this
  · intro h
    refine val_congr fun j hj => ?_
    have := h (c - q + j) (by omega) (by omega) (by omega)
    rw [show c - q + j + q = c + (q - c) + j by omega] at this
    rw [← this]
    congr 1
    omega
/-- the rest behind a, as a fraction -/
def Dv (f : Nat → Int) (n a : Nat) : Int := val f a (n - a) * 64 ^ a
structure Top1 (f : Nat → Int) (n x : Nat) : Prop where
  lt : x < n
  le : ∀ i, i < n → Dv f n i ≤ Dv f n x
  first : ∀ i, i < x → Dv f n i < Dv f n x
theorem Top1.le' {f : Nat → Int} {n x : Nat} (h : Top1 f n x) (hf : ∀ j, 0 ≤ f j ∧ f j < 64) {i : Nat} (hi : i ≤ n) : Dv f n i ≤ Dv f n x := by
  rcases Nat.lt_or_ge i n with c | c
  · exact h.le i c
  · have : i = n := by omega
    subst this
    unfold Dv
    rw [Nat.sub_self]
    show 0 * _ ≤ _
    rw [Int.zero_mul]
    exact Int.mul_nonneg (val_lt hf _ _).1 (Int.le_of_lt (q64_pos _))
theorem Top1.pref {f : Nat → Int} {n x r : Nat} (h : Top1 f n x) (hf : ∀ j, 0 ≤ f j ∧ f j < 64) (hr : x + r < n) : val f (x + r) (n - x - r) ≤ val f x (n - x - r) := by
  have h1 := h.le (x + r) hr
  unfold Dv at h1
  rw [show n - (x + r) = n - x - r by omega, Int.pow_add, Int.mul_comm (64 ^ x), ← Int.mul_assoc] at h1
  have h2 := Int.le_of_mul_le_mul_right h1 (q64_pos x)
  rw [show n - x = (n - x - r) + r by omega, val_split] at h2
  rw [show n - x - r + r - r = n - x - r by omega] at h2
  have h3 := (val_lt hf (x + (n - x - r)) r).2
  have h4 : val f (x + r) (n - x - r) * 64 ^ r < (val f x (n - x - r) + 1) * 64 ^ r := by
    rw [Int.add_mul, Int.one_mul]
    omega
  have := Int.lt_of_mul_lt_mul_right h4 (Int.le_of_lt (q64_pos r))
  omega
theorem no_short {f : Nat → Int} {n c r : Nat} (T : Top1 f n c) (hf : ∀ j, 0 ≤ f j ∧ f j < 64) (h1 : 1 ≤ r) (hrc : r ≤ c) (hl : Loc f n c r) : False := by
  have hcn := T.lt
  have hlt := T.first (c - r) (by omega)
  unfold Dv at hlt
  rcases Nat.lt_or_ge (n - c) r with q | q
  · have eW : val f (c - r) (n - c) = val f c (n - c) := by
      refine val_congr fun j hj => ?_
      rw [hl (c - r + j) (by omega) (by omega) (by omega)]
      congr 1; omega
    rw [show n - (c - r) = (n - c) + r by omega, val_split, eW] at hlt
    have h2 := (val_lt hf (c - r + (n - c)) r).1
    have h3 : (64 : Int) ^ c = 64 ^ r * 64 ^ (c - r) := by rw [← Int.pow_add]; congr 1; omega
    rw [h3, ← Int.mul_assoc] at hlt
    have := Int.lt_of_mul_lt_mul_right hlt (Int.le_of_lt (q64_pos (c - r)))
    omega
  · have eW : val f (c - r) r = val f c r := by
      refine val_congr fun j hj => ?_
      rw [hl (c - r + j) (by omega) (by omega) (by omega)]
      congr 1; omega
    have hle := T.le' hf (i := c + r) (by omega)
    unfold Dv at hle
    have a1 : val f (c - r) (n - (c - r)) * 64 ^ (c - r) * 64 ^ r = val f c r * 64 ^ n + val f c (n - c) * 64 ^ c := by
      rw [show n - (c - r) = r + (n - c) by omega, val_split, eW, show c - r + r = c by omega]
      have h3 : (64 : Int) ^ c = 64 ^ r * 64 ^ (c - r) := by rw [← Int.pow_add]; congr 1; omega
      have h4 : (64 : Int) ^ n = 64 ^ (n - c) * 64 ^ c := by rw [← Int.pow_add]; congr 1; omega
      rw [h4, h3]
      grind
    have a2 : val f c (n - c) * 64 ^ c * 64 ^ r = val f c r * 64 ^ n + val f (c + r) (n - (c + r)) * 64 ^ (c + r) := by
      have e : val f c (n - c) = val f c r * 64 ^ (n - (c + r)) + val f (c + r) (n - (c + r)) := by
        rw [← val_split]; congr 1; omega
      have h4 : (64 : Int) ^ n = 64 ^ (n - (c + r)) * 64 ^ (c + r) := by rw [← Int.pow_add]; congr 1; omega
      rw [e, h4, Int.pow_add]
      grind
    have a3 := Int.mul_lt_mul_of_pos_right hlt (q64_pos r)
    rw [a1, a2] at a3
    omega
theorem crit {f : Nat → Int} {n c b r : Nat} (T : Top1 f n c) (T' : Top1 (fun j => 63 - f j) n b) (hb : b ≤ c) (hf : ∀ j, 0 ≤ f j ∧ f j < 64) (h1 : 1 ≤ r) (hl : Loc f n c r) : Per f n r := by
  have hcn := T.lt
  rcases Nat.lt_or_ge c r with hcr | hcr
  · rcases Nat.lt_or_ge r (n - c) with q | q
    · have p1 := T.pref hf (r := r) (by omega)
      have p2 := T'.pref (fun j => by have := hf j; omega) (r := r) (by omega)
      rw [val_neg, val_neg] at p2
      have e1 : val f b (n - b - r) = val f b (c - b) * 64 ^ (n - c - r) + val f c (n - c - r) := by
        rw [show n - b - r = (c - b) + (n - c - r) by omega, val_split]
        congr 2; omega
      have e2 : val f (b + r) (n - b - r) = val f b (c - b) * 64 ^ (n - c - r) + val f (c + r) (n - c - r) := by
        rw [show n - b - r = (c - b) + (n - c - r) by omega, val_split]
        congr 2
        · refine val_congr fun j hj => ?_
          rw [hl (b + j) (by omega) (by omega) (by omega)]
          congr 1; omega
        · omega
      have e3 : val f c (n - c - r) = val f (c + r) (n - c - r) := by omega
      intro j hj
      rcases Nat.lt_or_ge j c with k | k
      · exact hl j k (by omega) hj
      · have := val_inj hf e3 (j - c) (by omega)
        rw [show c + (j - c) = j by omega, show c + r + (j - c) = j + r by omega] at this
        exact this
    · exact fun j hj => hl j (by omega) (by omega) hj
  · exact (no_short T hf h1 hcr hl).elim
theorem Loc.neg {f : Nat → Int} {n c r : Nat} (h : Loc f n c r) : Loc (fun j => 63 - f j) n c r := fun i a b d => by
  show 63 - f i = 63 - f (i + r)
  rw [h i a b d]
theorem Per.neg {f : Nat → Int} {n r : Nat} (h : Per (fun j => 63 - f j) n r) : Per f n r := fun i d => by
  have := h i d
  simp only at this
  omega
theorem crit2 {f : Nat → Int} {n c b r : Nat} (T : Top1 f n c) (T' : Top1 (fun j => 63 - f j) n b) (hf : ∀ j, 0 ≤ f j ∧ f j < 64) (h1 : 1 ≤ r) (hl : Loc f n (max c b) r) : Per f n r := by
  rcases Nat.le_total b c with h | h
  · rw [Nat.max_eq_left h] at hl
    exact crit T T' h hf h1 hl
  · rw [Nat.max_eq_right h] at hl
    refine (crit T' (b := c) ?_ h (fun j => by have := hf j; omega) h1 hl.neg).neg
    have e : (fun j => 63 - (63 - f j)) = f := funext fun j => by omega
    rw [e]
    exact T
theorem span_lp {f : Nat → Int} {n c b r : Nat} (T : Top1 f n c) (T' : Top1 (fun j => 63 - f j) n b) (hf : ∀ j, 0 ≤ f j ∧ f j < 64) (h1 : 1 ≤ r) (hr : r ≤ n) (hl : Loc f n (max c b) r ∨ r = n) (hno : ∀ q, 1 ≤ q → q < r → ¬ Loc f n (max c b) q) : LP f n r := by
  refine ⟨h1, hr, ?_, fun q q1 q2 hq => hno q q1 q2 (hq.loc _)⟩
  refine crit2 T T' hf h1 ?_
  rcases hl with h | h
  · exact h
  · exact fun i _ _ h3 => absurd h3 (by omega)
theorem odd_cop {d : Nat} (h : d % 2 = 1) (k : Nat) : Nat.Coprime (2 ^ k) d := by
  refine Nat.Coprime.pow_left k ?_
  show Nat.gcd 2 d = 1
  rw [Nat.gcd_rec, h]
  decide
theorem m64_odd {s : Nat} (h : 1 ≤ s) : (64 ^ s - 1) % 2 = 1 := by
  obtain ⟨k, rfl⟩ : ∃ k, s = k + 1 := ⟨s - 1, by omega⟩
  have : 0 < 64 ^ k := Nat.pow_pos (by decide)
  rw [Nat.pow_succ]
  omega
theorem p64_two (s : Nat) : 64 ^ s = 2 ^ (6 * s) := by rw [Nat.pow_mul]
theorem mod_one_iff {d x : Nat} (hx : 1 ≤ x) : x % d = 1 % d ↔ d ∣ x - 1 := by
  constructor
  · intro h
    have := Nat.sub_mod_eq_zero_of_mod_eq h
    exact Nat.dvd_of_mod_eq_zero this
  · rintro ⟨k, hk⟩
    have : x = 1 + d * k := by omega
    rw [this, Nat.add_mul_mod_self_left]
theorem lowest_nat {top bottom N start sg twos odd step M R : Nat} (hb : 0 < bottom) (hx : top * (64 ^ start * (64 ^ sg - 1)) = N * bottom) (hs1 : 1 ≤ sg) (hbe : bottom / Nat.gcd top bottom = 2 ^ twos * odd) (ho : odd % 2 = 1)
    (hN : start = 0 ∨ N % 64 ≠ 0) (hNR : N = M * (64 ^ sg - 1) + R) (h1 : 1 ≤ step) (hs : 64 ^ step % odd = 1 % odd) (hno : ∀ q, 1 ≤ q → q < step → 64 ^ q % odd ≠ 1 % odd)
    (hmin : ∀ s, 1 ≤ s → s < sg → ¬ ((64 ^ sg - 1) ∣ (64 ^ s - 1) * R)) : (twos + 5) / 6 = start ∧ step = sg := by
  have hg : 0 < Nat.gcd top bottom := Nat.gcd_pos_of_pos_right _ hb
  obtain ⟨u, hu⟩ := Nat.gcd_dvd_left top bottom
  obtain ⟨b, hbb⟩ := Nat.gcd_dvd_right top bottom
  have hcop : Nat.Coprime u b := by
    have := Nat.coprime_div_gcd_div_gcd hg
    rwa [show top / Nat.gcd top bottom = u by conv => lhs; arg 1; rw [hu]
                                              exact Nat.mul_div_cancel_left _ hg,
      show bottom / Nat.gcd top bottom = b by conv => lhs; arg 1; rw [hbb]
                                              exact Nat.mul_div_cancel_left _ hg] at this
  have eb : b = 2 ^ twos * odd := by
    rw [← hbe]
    conv => rhs; arg 1; rw [hbb]
    exact (Nat.mul_div_cancel_left _ hg).symm
  generalize Nat.gcd top bottom = g at hg hu hbb
  have hD0 : 0 < 64 ^ sg - 1 := by
    have := m64_odd hs1
    omega
  have hD : 0 < 64 ^ start * (64 ^ sg - 1) := Nat.mul_pos (Nat.pow_pos (by decide)) hD0
  have hx2 : u * (64 ^ start * (64 ^ sg - 1)) = N * b := by
    refine Nat.eq_of_mul_eq_mul_left hg ?_
    rw [← Nat.mul_assoc, ← hu, hx]
    conv => lhs; rw [hbb]
    rw [Nat.mul_left_comm]
  have hbD : b ∣ 64 ^ start * (64 ^ sg - 1) := hcop.symm.dvd_of_dvd_mul_left ⟨N, by rw [hx2, Nat.mul_comm]⟩
  obtain ⟨e, he⟩ := hbD
  have hbpos : 0 < b := Nat.pos_of_ne_zero fun q => by rw [q, Nat.mul_zero] at hbb; omega
  have hNe : N = u * e := by
    refine Nat.eq_of_mul_eq_mul_right hbpos ?_
    rw [← hx2, he, Nat.mul_assoc, Nat.mul_comm e b]
  have hmo := m64_odd hs1
  have ht : twos ≤ 6 * start := by
    have h2 : 2 ^ twos ∣ (64 ^ sg - 1) * 2 ^ (6 * start) := by
      refine Nat.dvd_trans ⟨odd, eb⟩ ⟨e, ?_⟩
      rw [← he, p64_two start, Nat.mul_comm]
    have := (odd_cop hmo twos).dvd_of_dvd_mul_left h2
    exact (Nat.pow_dvd_pow_iff_le_right (by decide)).mp this
  have hodd_m : odd ∣ 64 ^ sg - 1 := by
    have h2 : odd ∣ 64 ^ start * (64 ^ sg - 1) := by
      rw [he, eb]
      exact ⟨2 ^ twos * e, by rw [Nat.mul_comm (2 ^ twos) odd, Nat.mul_assoc]⟩
    rw [p64_two] at h2
    exact (odd_cop ho (6 * start)).symm.dvd_of_dvd_mul_left h2
  constructor
  · rcases hN with h0 | h0
    · subst h0
      have : twos = 0 := by omega
      subst this
      rfl
    · have : 6 * start < twos + 6 := by
        rcases Nat.lt_or_ge (6 * start) (twos + 6) with q | q
        · exact q
        · exfalso
          have h2 : 2 ^ (6 * start - twos) ∣ odd * e := by
            refine ⟨64 ^ sg - 1, ?_⟩
            refine Nat.eq_of_mul_eq_mul_left (show 0 < 2 ^ twos from Nat.pow_pos (by decide)) ?_
            rw [← Nat.mul_assoc, ← eb, ← he, ← Nat.mul_assoc, ← Nat.pow_add, p64_two start]
            congr 2
            omega
          have h3 := (odd_cop ho (6 * start - twos)).dvd_of_dvd_mul_left h2
          have h4 : 64 ∣ e := Nat.dvd_trans (Nat.pow_dvd_pow 2 (show 6 ≤ 6 * start - twos by omega)) h3
          obtain ⟨c, hc⟩ := h4
          rw [hNe, hc] at h0
          apply h0
          rw [Nat.mul_left_comm]
          exact Nat.mul_mod_right ..
      omega
  · rcases Nat.lt_trichotomy step sg with q | q | q
    · exfalso
      refine hmin step h1 q ?_
      have h2 : odd ∣ 64 ^ step - 1 := (mod_one_iff (Nat.pow_pos (by decide))).mp hs
      have h3 : b ∣ 64 ^ start * (64 ^ step - 1) := by
        rw [eb]
        refine Nat.mul_dvd_mul ?_ h2
        rw [p64_two]
        exact Nat.pow_dvd_pow 2 ht
      have h4 : 64 ^ start * (64 ^ sg - 1) ∣ 64 ^ start * ((64 ^ step - 1) * N) := by
        rw [he, hNe]
        have := Nat.mul_dvd_mul h3 (Nat.dvd_mul_left e u)
        rw [← Nat.mul_assoc]
        exact this
      have h5 := Nat.dvd_of_mul_dvd_mul_left (Nat.pow_pos (by decide)) h4
      rw [hNR, Nat.mul_add] at h5
      exact (Nat.dvd_add_right ⟨(64 ^ step - 1) * M, by rw [Nat.mul_comm (64 ^ sg - 1), Nat.mul_assoc]⟩).mp h5
    · exact q
    · exact absurd ((mod_one_iff (Nat.pow_pos (by decide))).mpr hodd_m) (hno sg hs1 q)
/-- the code's test of a step: a fraction with the denominator 64 ^ s - 1 begins with the figures of W -/
def LeastOk (W : Int) (n s : Nat) : Prop := -(-W * (64 ^ s - 1) / 64 ^ n) * 64 ^ n ≤ (W + 1) * (64 ^ s - 1)
theorem least_ex {W : Int} {n s : Nat} : LeastOk W n s ↔ ∃ y : Int, W * (64 ^ s - 1) ≤ y * 64 ^ n ∧ y * 64 ^ n ≤ (W + 1) * (64 ^ s - 1) := by
  have hp := q64_pos n
  unfold LeastOk
  generalize hM : (64 : Int) ^ n = M at *
  have e0 : -W * ((64 : Int) ^ s - 1) = -(W * (64 ^ s - 1)) := by rw [Int.neg_mul]
  rw [e0]
  generalize hX : W * ((64 : Int) ^ s - 1) = X
  have d1 := Int.mul_ediv_add_emod (-X) M
  have d2 := Int.emod_nonneg (-X) (show M ≠ 0 by omega)
  have d3 := Int.emod_lt_of_pos (-X) hp
  generalize hq : -X / M = q at *
  generalize -X % M = rr at *
  rw [Int.mul_comm] at d1
  constructor
  · intro h
    exact ⟨-q, by rw [Int.neg_mul]; omega, h⟩
  · rintro ⟨y, h1, h2⟩
    refine Int.le_trans ?_ h2
    have : -q ≤ y := by
      have h4 : -q * M < (y + 1) * M := by
        rw [Int.neg_mul, Int.add_mul, Int.one_mul]
        omega
      have := Int.lt_of_mul_lt_mul_right h4 (Int.le_of_lt hp)
      omega
    exact Int.mul_le_mul_of_nonneg_right this (Int.le_of_lt hp)
theorem zero_of_lt {z M : Int} (hM : 0 < M) (h1 : -M < z * M) (h2 : z * M < M) : z = 0 := by
  have a : -1 < z := by
    have : -1 * M < z * M := by omega
    exact Int.lt_of_mul_lt_mul_right this (Int.le_of_lt hM)
  have b : z < 1 := by
    have : z * M < 1 * M := by omega
    exact Int.lt_of_mul_lt_mul_right this (Int.le_of_lt hM)
  omega
theorem least_iff {f : Nat → Int} (hf : ∀ j, 0 ≤ f j ∧ f j < 64) {n s : Nat} (hs : s ≤ n) : LeastOk (val f 0 n) n s ↔ Per f n s := by
  rw [least_ex]
  have a1 : val f 0 n = val f 0 s * 64 ^ (n - s) + val f s (n - s) := by
    have := val_split f 0 s (n - s)
    rwa [show s + (n - s) = n by omega, Nat.zero_add] at this
  have a2 : val f 0 n = val f 0 (n - s) * 64 ^ s + val f (n - s) s := by
    have := val_split f 0 (n - s) s
    rwa [show n - s + s = n by omega, Nat.zero_add] at this
  have a3 : (64 : Int) ^ n = 64 ^ (n - s) * 64 ^ s := by rw [← Int.pow_add]; congr 1; omega
  have key : val f 0 n * (64 ^ s - 1) = val f 0 s * 64 ^ n + (val f s (n - s) - val f 0 (n - s)) * 64 ^ s - val f (n - s) s := by
    have : val f 0 n * (64 ^ s - 1) = val f 0 n * 64 ^ s - val f 0 n := by grind
    rw [this]
    conv => lhs; arg 1; rw [a1]
    conv => lhs; arg 2; rw [a2]
    rw [a3]
    grind
  have hM := val_lt hf (n - s) s
  have hT := val_lt hf 0 (n - s)
  have hL := val_lt hf s (n - s)
  have key2 : (val f 0 n + 1) * (64 ^ s - 1) = val f 0 n * (64 ^ s - 1) + 64 ^ s - 1 := by grind
  rw [key2, key]
  have hp := q64_pos s
  have hpn := q64_pos n
  have perI : Per f n s ↔ val f s (n - s) = val f 0 (n - s) := by
    constructor
    · intro h
      refine val_congr fun j hj => ?_
      have := h j (by omega)
      rw [Nat.zero_add, this, Nat.add_comm]
    · intro h j hj
      have := val_inj hf h j (by omega)
      rw [Nat.zero_add, Nat.add_comm] at this
      exact this.symm
  rw [perI]
  generalize hd : val f s (n - s) - val f 0 (n - s) = d
  generalize val f (n - s) s = M at *
  generalize hH : val f 0 s = H at *
  generalize hPs : (64 : Int) ^ s = Ps at *
  generalize hPr : (64 : Int) ^ (n - s) = Pr at *
  have hub : d * Ps ≤ (Pr - 1) * Ps := Int.mul_le_mul_of_nonneg_right (by omega) (by omega)
  have hlb : (-(Pr - 1)) * Ps ≤ d * Ps := Int.mul_le_mul_of_nonneg_right (by omega) (by omega)
  have e1 : (Pr - 1) * Ps = 64 ^ n - Ps := by rw [Int.sub_mul, ← a3]; omega
  have e2 : (-(Pr - 1)) * Ps = Ps - 64 ^ n := by rw [Int.neg_mul, e1]; omega
  rw [e1] at hub
  rw [e2] at hlb
  constructor
  · rintro ⟨y, h1, h2⟩
    have ez : (y - H) * 64 ^ n = y * 64 ^ n - H * 64 ^ n := by rw [Int.sub_mul]
    have hz : y - H = 0 := zero_of_lt hpn (by rw [ez]; omega) (by rw [ez]; omega)
    rw [hz, Int.zero_mul] at ez
    have h3 : d * Ps < 1 * Ps := by omega
    have h4 : -1 * Ps < d * Ps := by omega
    have h5 := Int.lt_of_mul_lt_mul_right h3 (by omega)
    have h6 := Int.lt_of_mul_lt_mul_right h4 (by omega)
    omega
  · intro h
    have : d = 0 := by omega
    subst this
    exact ⟨H, by omega, by omega⟩
/-- q is a period from b on -/
def PerI (F : Nat → Int) (b q : Nat) : Prop := ∀ i, b ≤ i → F (i + q) = F i
def PerS (F : Nat → Int) (n b q : Nat) : Prop := ∀ i, b ≤ i → i + q < n → F i = F (i + q)
section
variable {F : Nat → Int} {a b n p q s start sg : Nat}
theorem PerI.mono (h : PerI F b q) (hb : b ≤ a) : PerI F a q := fun i hi => h i (by omega)
theorem PerI.mul (h : PerI F b q) : ∀ k, PerI F b (k * q)
  | 0 => fun i _ => by simp
  | k + 1 => fun i hi => by
    rw [show i + (k + 1) * q = (i + k * q) + q by rw [Nat.add_mul]; omega, h _ (by omega), h.mul k i hi]
theorem PerI.sub (h1 : PerI F b p) (h2 : PerI F b q) (hle : q ≤ p) : PerI F b (p - q) := fun i hi => by
  rw [← h2 (i + (p - q)) (by omega), show i + (p - q) + q = i + p by omega, h1 i hi]
theorem PerI.gcd (p q : Nat) : PerI F b p → PerI F b q → PerI F b (Nat.gcd p q) := by
  refine Nat.gcd.induction (P := fun p q => PerI F b p → PerI F b q → PerI F b (Nat.gcd p q)) p q ?_ ?_
  · intro n _ h
    rwa [Nat.gcd_zero_left]
  · intro m n hm ih h1 h2
    rw [Nat.gcd_rec]
    refine ih ?_ h1
    have e : n % m = n - n / m * m := by
      have := Nat.div_add_mod n m
      rw [Nat.mul_comm] at this
      omega
    rw [e]
    exact h2.sub (h1.mul _) (Nat.div_mul_le_self ..)
theorem PerI.toS (h : PerI F b q) : PerS F n b q := fun i hi _ => (h i hi).symm
theorem suffix_per (hP : PerI F a p) (hp : 1 ≤ p) (hn : n = 2 * (a + p)) (hs : start ≤ a) (h2 : 2 * sg ≤ n - start) (hS : PerS F n start sg) : PerI F start sg := by
  have A : PerI F a sg := by
    intro i hi
    have e : i = (a + (i - a) % p) + (i - a) / p * p := by
      have := Nat.div_add_mod (i - a) p
      rw [Nat.mul_comm] at this
      omega
    have hlt := Nat.mod_lt (i - a) hp
    have e1 : F i = F (a + (i - a) % p) := by
      conv => lhs; rw [e]
      exact hP.mul _ _ (by omega)
    have e2 : F (i + sg) = F (a + (i - a) % p + sg) := by
      rw [show i + sg = (a + (i - a) % p + sg) + (i - a) / p * p by omega]
      exact hP.mul _ _ (by omega)
    rw [e1, e2]
    exact (hS _ (by omega) (by omega)).symm
  intro i hi
  rcases Nat.lt_or_ge (i + sg) n with c | c
  · exact (hS i hi c).symm
  · exact A i (by omega)
theorem sg_dvd (hP : PerI F a p) (hp : 1 ≤ p) (hs : start ≤ a) (h1 : 1 ≤ sg) (hI : PerI F start sg) (hmin : ∀ q, 1 ≤ q → q < sg → ¬ PerS F n start q) : sg ∣ p := by
  have hg : PerI F a (Nat.gcd p sg) := PerI.gcd p sg hP (hI.mono hs)
  have hg2 : PerI F start (Nat.gcd p sg) := by
    intro i hi
    have ha : a ≤ a * sg := Nat.le_mul_of_pos_right _ h1
    rw [← hI.mul a (i + Nat.gcd p sg) (by omega), ← hI.mul a i hi, show i + Nat.gcd p sg + a * sg = i + a * sg + Nat.gcd p sg by omega]
    exact hg _ (by omega)
  have hpos : 1 ≤ Nat.gcd p sg := Nat.gcd_pos_of_pos_left _ hp
  have hle : Nat.gcd p sg ≤ sg := Nat.le_of_dvd h1 (Nat.gcd_dvd_right ..)
  have : Nat.gcd p sg = sg := by
    rcases Nat.lt_or_ge (Nat.gcd p sg) sg with c | c
    · exact absurd hg2.toS (hmin _ hpos c)
    · omega
  rw [← this]
  exact Nat.gcd_dvd_left ..
/-- the numerator to the denominator 64 ^ s * (64 ^ q - 1) -/
def num (F : Nat → Int) (s q : Nat) : Int := val F 0 (s + q) - val F 0 s
theorem num_eq (F : Nat → Int) (s q : Nat) : num F s q = val F 0 s * (64 ^ q - 1) + val F s q := by
  unfold num
  rw [val_split, Nat.zero_add]
  grind
theorem num_step (h : F (s + q) = F s) : num F (s + 1) q = 64 * num F s q := by
  unfold num
  rw [show s + 1 + q = (s + q) + 1 by omega]
  simp only [val, Nat.zero_add]
  rw [h]
  omega
theorem num_shift (h : PerI F b q) (hs : b ≤ s) : ∀ j, num F (s + j) q = 64 ^ j * num F s q
  | 0 => by simp
  | j + 1 => by
    rw [show s + (j + 1) = (s + j) + 1 by omega, num_step (h _ (by omega)), num_shift h hs j, Int.pow_succ]
    grind
theorem num_mul (h : PerI F b q) (hs : b ≤ s) : ∀ m, num F s (m * q) * (64 ^ q - 1) = num F s q * (64 ^ (m * q) - 1)
  | 0 => by simp [num]
  | m + 1 => by
    have ih := num_mul h hs m
    have e : num F s ((m + 1) * q) = num F (s + m * q) q + num F s (m * q) := by
      unfold num
      rw [show s + (m + 1) * q = s + m * q + q by rw [Nat.add_mul]; omega]
      omega
    rw [e, num_shift h hs, Int.add_mul, ih, Nat.add_mul, Nat.one_mul, Int.pow_add]
    grind
theorem frac_eq (hI : PerI F start sg) (hs : start ≤ a) (hd : sg ∣ p) : num F start sg * (64 ^ a * (64 ^ p - 1)) = num F a p * (64 ^ start * (64 ^ sg - 1)) := by
  obtain ⟨m, rfl⟩ := hd
  have h1 := num_shift (q := m * sg) (hI.mul m) (Nat.le_refl start) (a - start)
  rw [show start + (a - start) = a by omega] at h1
  have h2 := num_mul hI (Nat.le_refl start) m
  have h3 : (64 : Int) ^ a = 64 ^ (a - start) * 64 ^ start := by rw [← Int.pow_add]; congr 1; omega
  rw [Nat.mul_comm sg m, h1, h3]
  grind
theorem rot (hf : ∀ j, 0 ≤ F j ∧ F j < 64) (hI : PerI F start sg) (h1 : 1 ≤ s) (h2 : s < sg) (hd : ((64 : Int) ^ sg - 1) ∣ (64 ^ s - 1) * val F start sg) : PerI F start s := by
  have a1 : val F start sg = val F start s * 64 ^ (sg - s) + val F (start + s) (sg - s) := by
    rw [← val_split]; congr 1; omega
  have a3 : (64 : Int) ^ sg = 64 ^ (sg - s) * 64 ^ s := by rw [← Int.pow_add]; congr 1; omega
  have hH := val_lt hf start s
  have hL := val_lt hf (start + s) (sg - s)
  have hR := val_lt hf start sg
  have e : (64 ^ s - 1) * val F start sg = val F start s * (64 ^ sg - 1) + (val F start s + val F (start + s) (sg - s) * 64 ^ s - val F start sg) := by
    have : (64 ^ s - 1) * val F start sg = val F start sg * 64 ^ s - val F start sg := by grind
    rw [this]
    conv => lhs; arg 1; rw [a1]
    rw [a3]
    grind
  rw [e] at hd
  have hd2 := (Int.dvd_add_right (Int.dvd_mul_left ..)).mp hd
  obtain ⟨z, hz⟩ := hd2
  have hlo : val F (start + s) (sg - s) * 64 ^ s ≤ (64 ^ (sg - s) - 1) * 64 ^ s := Int.mul_le_mul_of_nonneg_right (by omega) (Int.le_of_lt (q64_pos s))
  have hlo0 : 0 ≤ val F (start + s) (sg - s) * 64 ^ s := Int.mul_nonneg hL.1 (Int.le_of_lt (q64_pos s))
  rw [Int.sub_mul, ← a3] at hlo
  have hm : (63 : Int) ≤ 64 ^ sg - 1 := by
    obtain ⟨k, rfl⟩ : ∃ k, sg = k + 1 := ⟨sg - 1, by omega⟩
    have := q64_pos k
    rw [Int.pow_succ]
    omega
  have eq : val F (start + s) (sg - s) * 64 ^ s + val F start s = val F start sg := by
    rcases Int.lt_trichotomy z 0 with c | c | c
    · exfalso
      have h3 : (64 ^ sg - 1) * z ≤ (64 ^ sg - 1) * -1 := Int.mul_le_mul_of_nonneg_left (by omega) (by omega)
      have hH0 : val F start s = 0 := by omega
      have hL0 : val F (start + s) (sg - s) * 64 ^ s = 0 := by omega
      have hL1 : val F (start + s) (sg - s) = 0 := by
        rcases Int.mul_eq_zero.mp hL0 with q | q
        · exact q
        · have := q64_pos s; omega
      rw [hH0, hL1] at a1
      omega
    · subst c
      rw [Int.mul_zero] at hz
      omega
    · exfalso
      have h3 : (64 ^ sg - 1) * 1 ≤ (64 ^ sg - 1) * z := Int.mul_le_mul_of_nonneg_left (by omega) (by omega)
      have hR0 : val F start sg = 0 := by omega
      have h4 : 0 ≤ val F start s * 64 ^ (sg - s) := Int.mul_nonneg hH.1 (Int.le_of_lt (q64_pos _))
      have hL1 : val F (start + s) (sg - s) = 0 := by omega
      have hH1 : val F start s * 64 ^ (sg - s) = 0 := by omega
      have hH2 : val F start s = 0 := by
        rcases Int.mul_eq_zero.mp hH1 with q | q
        · exact q
        · have := q64_pos (sg - s); omega
      rw [hL1, Int.zero_mul, hH2] at hz
      omega
  have a2 : val F start sg = val F start (sg - s) * 64 ^ s + val F (start + (sg - s)) s := by
    rw [← val_split]; congr 1; omega
  have hT := val_lt hf (start + (sg - s)) s
  have e1 : val F (start + s) (sg - s) = val F start (sg - s) := by
    have := div_lem (x := val F (start + s) (sg - s)) hH.1 hH.2
    rw [eq, a2, div_lem hT.1 hT.2] at this
    exact this.symm
  have e2 : val F start s = val F (start + (sg - s)) s := by
    rw [a2, e1] at eq
    omega
  have d1 := val_inj hf e1
  have d2 := val_inj hf e2
  intro i hi
  have ei : i = (start + (i - start) % sg) + (i - start) / sg * sg := by
    have := Nat.div_add_mod (i - start) sg
    rw [Nat.mul_comm] at this
    omega
  have hlt := Nat.mod_lt (i - start) (show 0 < sg by omega)
  have f1 : F i = F (start + (i - start) % sg) := by
    conv => lhs; rw [ei]
    exact hI.mul _ _ (by omega)
  have f2 : F (i + s) = F (start + (i - start) % sg + s) := by
    rw [show i + s = (start + (i - start) % sg + s) + (i - start) / sg * sg by omega]
    exact hI.mul _ _ (by omega)
  rw [f1, f2]
  generalize (i - start) % sg = j at hlt
  rcases Nat.lt_or_ge (j + s) sg with c | c
  · have := d1 j (by omega)
    rw [← this]
    congr 1; omega
  · have := d2 (j + s - sg) (by omega)
    rw [show start + (sg - s) + (j + s - sg) = start + j by omega] at this
    rw [← this, show start + j + s = (start + (j + s - sg)) + sg by omega]
    exact hI _ (by omega)
end
theorem c64 (s : Nat) : ((64 ^ s - 1 : Nat) : Int) = (64 : Int) ^ s - 1 := by
  have : 1 ≤ 64 ^ s := Nat.pow_pos (by decide)
  rw [Int.ofNat_sub this]
  simp
theorem num_nonneg {F : Nat → Int} (hf : ∀ j, 0 ≤ F j ∧ F j < 64) (s q : Nat) : 0 ≤ num F s q := by
  rw [num_eq]
  have := (val_lt hf 0 s).1
  have := (val_lt hf s q).1
  have := q64_pos q
  have : 0 ≤ val F 0 s * (64 ^ q - 1) := Int.mul_nonneg (by omega) (by omega)
  omega
theorem law2_end {F : Nat → Int} {a p n start sg twos odd step top bottom : Nat} (hf : ∀ j, 0 ≤ F j ∧ F j < 64) (hP : PerI F a p) (hp : 1 ≤ p) (hn : n = 2 * (a + p)) (hs : start ≤ a) (h1 : 1 ≤ sg) (h2 : 2 * sg ≤ n - start) (hS : PerS F n start sg)
    (hmin : ∀ q, 1 ≤ q → q < sg → ¬ PerS F n start q) (hmax : start = 0 ∨ F (start - 1) ≠ F (start - 1 + sg)) (ht : (top : Int) = num F a p) (hb : bottom = 64 ^ a * (64 ^ p - 1))
    (hbe : bottom / Nat.gcd top bottom = 2 ^ twos * odd) (ho : odd % 2 = 1) (h1s : 1 ≤ step) (hst : 64 ^ step % odd = 1 % odd) (hno : ∀ q, 1 ≤ q → q < step → 64 ^ q % odd ≠ 1 % odd) :
    (twos + 5) / 6 = start ∧ step = sg := by
  have hI : PerI F start sg := suffix_per hP hp hn hs h2 hS
  have hd := sg_dvd (n := n) hP hp hs h1 hI hmin
  have hfr := frac_eq hI hs hd
  have hN0 := num_nonneg hf start sg
  have hV0 := (val_lt hf 0 start).1
  have hR0 := (val_lt hf start sg).1
  have eN : (((num F start sg).toNat : Nat) : Int) = num F start sg := Int.toNat_of_nonneg hN0
  have eV : (((val F 0 start).toNat : Nat) : Int) = val F 0 start := Int.toNat_of_nonneg hV0
  have eR : (((val F start sg).toNat : Nat) : Int) = val F start sg := Int.toNat_of_nonneg hR0
  have hb0 : 0 < bottom := by
    rw [hb]
    have := m64_odd hp
    exact Nat.mul_pos (Nat.pow_pos (by decide)) (by omega)
  refine lowest_nat (N := (num F start sg).toNat) (M := (val F 0 start).toNat) (R := (val F start sg).toNat) hb0 ?_ h1 hbe ho ?_ ?_ h1s hst hno ?_
  · apply Int.ofNat_inj.mp
    rw [hb]
    simp only [Int.natCast_mul, Int.natCast_pow, c64, eN]
    rw [ht]
    exact hfr.symm
  · rcases hmax with h | h
    · exact .inl h
    · rcases Nat.eq_zero_or_pos start with h0 | h0
      · exact .inl h0
      · right
        obtain ⟨k, rfl⟩ : ∃ k, start = k + 1 := ⟨start - 1, by omega⟩
        rw [show k + 1 - 1 = k by omega] at h
        intro q
        have q' : num F (k + 1) sg % 64 = 0 := by
          rw [← eN]
          omega
        unfold num at q'
        rw [show k + 1 + sg = (k + sg) + 1 by omega] at q'
        simp only [val, Nat.zero_add] at q'
        have r1 := hf k
        have r2 := hf (k + sg)
        omega
  · apply Int.ofNat_inj.mp
    rw [Int.natCast_add, Int.natCast_mul, c64, eN, eV, eR]
    exact num_eq ..
  · intro s s1 s2 hdv
    refine hmin s s1 s2 (PerI.toS (rot hf hI s1 s2 ?_))
    have := Int.natCast_dvd_natCast.mpr hdv
    rwa [Int.natCast_mul, c64, c64, eR] at this
theorem low_ex {a p top twos odd : Nat} (hp : 1 ≤ p) (hbe : 64 ^ a * (64 ^ p - 1) / Nat.gcd top (64 ^ a * (64 ^ p - 1)) = 2 ^ twos * odd) (ho : odd % 2 = 1) : 64 ^ p % odd = 1 % odd := by
  refine (mod_one_iff (Nat.pow_pos (by decide))).mpr ?_
  have h2 : odd ∣ 64 ^ a * (64 ^ p - 1) := by
    refine Nat.dvd_trans (Nat.dvd_mul_left odd (2 ^ twos)) ?_
    rw [← hbe]
    exact Nat.div_dvd_of_dvd (Nat.gcd_dvd_right ..)
  rw [p64_two a] at h2
  exact (odd_cop ho (6 * a)).symm.dvd_of_dvd_mul_left h2
theorem per_rev {F g : Nat → Int} {n k q : Nat} {c : Int} (hg : ∀ j, j < n → g j = F (n - 1 - j) + c) (hk : k ≤ n) : Per g k q ↔ PerS F n (n - k) q := by
  constructor
  · intro h i h1 h2
    have := h (n - 1 - i - q) (by omega)
    rw [hg _ (by omega), hg _ (by omega), show n - 1 - (n - 1 - i - q) = i + q by omega, show n - 1 - (n - 1 - i - q + q) = i by omega] at this
    omega
  · intro h j hj
    have := h (n - 1 - j - q) (by omega) (by omega)
    rw [hg _ (by omega), hg _ (by omega), show n - 1 - (j + q) = n - 1 - j - q by omega, this, show n - 1 - j - q + q = n - 1 - j by omega]
theorem tail_ok {F g : Nat → Int} {T : List Int} {n a p t : Nat} {c : Int} (hP : PerI F a p) (hp : 1 ≤ p) (hn : n = 2 * (a + p)) (hg : ∀ j, j < n → g j = F (n - 1 - j) + c) (hT : Tbl g n T) (ht1 : 1 ≤ t) (htn : t ≤ n)
    (hq : 2 * ((t : Int) - T.getD (t - 1) 0) ≤ t) (hmax : ∀ k : Nat, 1 ≤ k → k ≤ n → 2 * ((k : Int) - T.getD (k - 1) 0) ≤ k → k ≤ t) :
    ∃ sg : Nat, (t : Int) - T.getD (t - 1) 0 = sg ∧ 1 ≤ sg ∧ n - t ≤ a ∧ 2 * sg ≤ n - (n - t) ∧ PerS F n (n - t) sg ∧ (∀ q, 1 ≤ q → q < sg → ¬ PerS F n (n - t) q) ∧ (n - t = 0 ∨ F (n - t - 1) ≠ F (n - t - 1 + sg)) := by
  have lp : ∀ k, 1 ≤ k → k ≤ n → ∃ q, LP g k q ∧ (k : Int) - T.getD (k - 1) 0 = q := by
    intro k k1 k2
    obtain ⟨q, h1, h2⟩ := hT (k - 1) (by omega)
    rw [show k - 1 + 1 = k by omega] at h1
    exact ⟨q, h1, by rw [h2]; omega⟩
  have small : ∀ k q, 1 ≤ k → k ≤ n → 1 ≤ q → PerS F n (n - k) q → 2 * q ≤ k → k ≤ t := by
    intro k q k1 k2 q1 hS h2
    obtain ⟨r, hr, er⟩ := lp k k1 k2
    have : r ≤ q := by
      rcases Nat.lt_or_ge q r with z | z
      · exact absurd ((per_rev hg k2).mpr hS) (hr.least q q1 z)
      · exact z
    exact hmax k k1 k2 (by omega)
  obtain ⟨sg, hr, er⟩ := lp t ht1 htn
  have h2 : 2 * sg ≤ t := by omega
  have ha : n - a ≤ t := small (n - a) p (by omega) (by omega) hp (by rw [show n - (n - a) = a by omega]; exact hP.toS) (by omega)
  refine ⟨sg, er, hr.pos, by omega, by omega, (per_rev hg htn).mp hr.per, fun q q1 q2 hS => hr.least q q1 q2 ((per_rev hg htn).mpr hS), ?_⟩
  rcases Nat.eq_zero_or_pos (n - t) with z | z
  · exact .inl z
  · right
    intro e
    have := small (t + 1) sg (by omega) (by omega) hr.pos (fun i i1 i2 => ?_) (by omega)
    · omega
    · rcases Nat.lt_or_ge i (n - t) with w | w
      · rw [show i = n - t - 1 by omega]
        exact e
      · exact (per_rev hg htn).mp hr.per i w i2
set_option maxHeartbeats 8000000 in
open_top hd for PySem.Challenge.rw_rs0015_02
noncomputable abbrev KK (w : World) : Frag := hd.heap_39 w.params
section
variable (w : World)
theorem g_parse : nsIn (KK w) mainGlobals (Str.ofString "_parse_varint") = some (some (.ref 21)) := by rfl
theorem g_overlap : nsIn (KK w) mainGlobals (Str.ofString "_generate_overlap_table") = some (some (.ref 28)) := by rfl
theorem g_parts : nsIn (KK w) mainGlobals (Str.ofString "_law_parts") = some (some (.ref 33)) := by rfl
theorem g_number : nsIn (KK w) mainGlobals (Str.ofString "_law_number") = some (some (.ref 40)) := by rfl
theorem g_octets : nsIn (KK w) mainGlobals (Str.ofString "_law_octets") = some (some (.ref 47)) := by rfl
theorem g_breaks : nsIn (KK w) mainGlobals (Str.ofString "_law_breaks") = some (some (.ref 54)) := by rfl
theorem g_least : nsIn (KK w) mainGlobals (Str.ofString "_law_least") = some (some (.ref 61)) := by rfl
theorem g_lowest : nsIn (KK w) mainGlobals (Str.ofString "_law_lowest") = some (some (.ref 68)) := by rfl
theorem k_parse : keepIn (KK w) (.ref 21) = true := by rfl
theorem k_overlap : keepIn (KK w) (.ref 28) = true := by rfl
theorem k_parts : keepIn (KK w) (.ref 33) = true := by rfl
theorem k_number : keepIn (KK w) (.ref 40) = true := by rfl
theorem k_octets : keepIn (KK w) (.ref 47) = true := by rfl
theorem k_breaks : keepIn (KK w) (.ref 54) = true := by rfl
theorem k_least : keepIn (KK w) (.ref 61) = true := by rfl
theorem k_lowest : keepIn (KK w) (.ref 68) = true := by rfl
theorem n_len : nsIn (KK w) mainGlobals (Str.ofString "len") = some none := by rfl
theorem n_range : nsIn (KK w) mainGlobals (Str.ofString "range") = some none := by rfl
theorem n_iter : nsIn (KK w) mainGlobals (Str.ofString "iter") = some none := by rfl
theorem n_next : nsIn (KK w) mainGlobals (Str.ofString "next") = some none := by rfl
theorem n_max : nsIn (KK w) mainGlobals (Str.ofString "max") = some none := by rfl
theorem n_min : nsIn (KK w) mainGlobals (Str.ofString "min") = some none := by rfl
theorem n_sum : nsIn (KK w) mainGlobals (Str.ofString "sum") = some none := by rfl
theorem n_divmod : nsIn (KK w) mainGlobals (Str.ofString "divmod") = some none := by rfl
theorem n_isinstance : nsIn (KK w) mainGlobals (Str.ofString "isinstance") = some none := by rfl
theorem n_bool : nsIn (KK w) mainGlobals (Str.ofString "bool") = some none := by rfl
theorem n_int : nsIn (KK w) mainGlobals (Str.ofString "int") = some none := by rfl
theorem n_stop : nsIn (KK w) mainGlobals (Str.ofString "StopIteration") = some none := by rfl
end
theorem b_len : bootBuiltins (Str.ofString "len") = some (.builtin "len") := by boot_by_name
theorem b_range : bootBuiltins (Str.ofString "range") = some (.type "range") := by boot_by_name
theorem b_iter : bootBuiltins (Str.ofString "iter") = some (.builtin "iter") := by boot_by_name
theorem b_next : bootBuiltins (Str.ofString "next") = some (.builtin "next") := by boot_by_name
theorem b_max : bootBuiltins (Str.ofString "max") = some (.builtin "max") := by boot_by_name
theorem b_min : bootBuiltins (Str.ofString "min") = some (.builtin "min") := by boot_by_name
theorem b_sum : bootBuiltins (Str.ofString "sum") = some (.builtin "sum") := by boot_by_name
theorem b_divmod : bootBuiltins (Str.ofString "divmod") = some (.builtin "divmod") := by boot_by_name
theorem b_isinstance : bootBuiltins (Str.ofString "isinstance") = some (.builtin "isinstance") := by boot_by_name
theorem b_bool : bootBuiltins (Str.ofString "bool") = some (.type "bool") := by boot_by_name
theorem b_int : bootBuiltins (Str.ofString "int") = some (.type "int") := by boot_by_name
theorem b_stop : bootBuiltins (Str.ofString "StopIteration") = some (.type "StopIteration") := by boot_by_name
local macro_rules | `(tactic| walk_at "mem") => `(tactic| first | exact List.Mem.head _ | (refine List.Mem.tail _ ?_; walk_at "mem") | assumption)
local macro_rules | `(tactic| walk_at "rd") => `(tactic| first | with_reducible exact up_eq | (with_reducible refine up_ne ?rdn ?_; (case rdn => decide); walk_at "rd") | with_reducible assumption | rfl)
local macro_rules | `(tactic| walk_at "hg") => `(tactic| first | with_reducible assumption | exact Sf.get (by with_reducible assumption) (by walk_at "mem") | exact Sf.old (by with_reducible assumption) (by with_reducible assumption))
local macro_rules | `(tactic| walk_at "sz") => `(tactic| first | assumption | omega | (simp only [List.length_append, List.length_map, List.length_range, List.length_take, List.length_drop, List.length_replicate, List.length_set, List.length_cons, List.length_nil] at *; omega))
local macro_rules | `(tactic| walk_at "callb") => `(tactic| first
  | ((with_reducible show wpAny _ _ (eval (Expr.Call (Expr.Name (Str.ofString "len") _) _ _ _) _) _ _ _); refine call_b (by with_reducible assumption) (by with_reducible assumption) (n_len _) b_len ?_)
  | ((with_reducible show wpAny _ _ (eval (Expr.Call (Expr.Name (Str.ofString "max") _) _ _ _) _) _ _ _); refine call_b (by with_reducible assumption) (by with_reducible assumption) (n_max _) b_max ?_)
  | ((with_reducible show wpAny _ _ (eval (Expr.Call (Expr.Name (Str.ofString "min") _) _ _ _) _) _ _ _); refine call_b (by with_reducible assumption) (by with_reducible assumption) (n_min _) b_min ?_)
  | ((with_reducible show wpAny _ _ (eval (Expr.Call (Expr.Name (Str.ofString "iter") _) _ _ _) _) _ _ _); refine call_b (by with_reducible assumption) (by with_reducible assumption) (n_iter _) b_iter ?_)
  | ((with_reducible show wpAny _ _ (eval (Expr.Call (Expr.Name (Str.ofString "next") _) _ _ _) _) _ _ _); refine call_b (by with_reducible assumption) (by with_reducible assumption) (n_next _) b_next ?_)
  | ((with_reducible show wpAny _ _ (eval (Expr.Call (Expr.Name (Str.ofString "sum") _) _ _ _) _) _ _ _); refine call_b (by with_reducible assumption) (by with_reducible assumption) (n_sum _) b_sum ?_)
  | ((with_reducible show wpAny _ _ (eval (Expr.Call (Expr.Name (Str.ofString "divmod") _) _ _ _) _) _ _ _); refine call_b (by with_reducible assumption) (by with_reducible assumption) (n_divmod _) b_divmod ?_)
  | ((with_reducible show wpAny _ _ (eval (Expr.Call (Expr.Name (Str.ofString "isinstance") _) _ _ _) _) _ _ _); refine call_b (by with_reducible assumption) (by with_reducible assumption) (n_isinstance _) b_isinstance ?_)
  | ((with_reducible show wpAny _ _ (eval (Expr.Call (Expr.Name (Str.ofString "range") _) _ _ _) _) _ _ _); refine call_t (by with_reducible assumption) (by with_reducible assumption) (n_range _) b_range ?_)
  | ((with_reducible show wpAny _ _ (eval (Expr.Call (Expr.Name (Str.ofString "_generate_overlap_table") _) _ _ _) _) _ _ _); refine call_d (by with_reducible assumption) (by with_reducible assumption) (g_overlap _) (k_overlap _) ?_)
  | ((with_reducible show wpAny _ _ (eval (Expr.Call (Expr.Name (Str.ofString "_parse_varint") _) _ _ _) _) _ _ _); refine call_d (by with_reducible assumption) (by with_reducible assumption) (g_parse _) (k_parse _) ?_)
  | ((with_reducible show wpAny _ _ (eval (Expr.Call (Expr.Name (Str.ofString "_law_parts") _) _ _ _) _) _ _ _); refine call_d (by with_reducible assumption) (by with_reducible assumption) (g_parts _) (k_parts _) ?_)
  | ((with_reducible show wpAny _ _ (eval (Expr.Call (Expr.Name (Str.ofString "_law_octets") _) _ _ _) _) _ _ _); refine call_d (by with_reducible assumption) (by with_reducible assumption) (g_octets _) (k_octets _) ?_)
  | ((with_reducible show wpAny _ _ (eval (Expr.Call (Expr.Name (Str.ofString "_law_breaks") _) _ _ _) _) _ _ _); refine call_d (by with_reducible assumption) (by with_reducible assumption) (g_breaks _) (k_breaks _) ?_)
  | ((with_reducible show wpAny _ _ (eval (Expr.Call (Expr.Name (Str.ofString "_law_number") _) _ _ _) _) _ _ _); refine call_d (by with_reducible assumption) (by with_reducible assumption) (g_number _) (k_number _) ?_)
  | ((with_reducible show wpAny _ _ (eval (Expr.Call (Expr.Name (Str.ofString "_law_least") _) _ _ _) _) _ _ _); refine call_d (by with_reducible assumption) (by with_reducible assumption) (g_least _) (k_least _) ?_)
  | ((with_reducible show wpAny _ _ (eval (Expr.Call (Expr.Name (Str.ofString "_law_lowest") _) _ _ _) _) _ _ _); refine call_d (by with_reducible assumption) (by with_reducible assumption) (g_lowest _) (k_lowest _) ?_))
local macro_rules | `(tactic| walk_at "op") => `(tactic| ((with_reducible rename Sf _ _ _ _ _ _ => S0); (first
  | ((with_reducible show wpAny _ _ (eval (Expr.Constant (Const.int _) _ _) _) _ _ _); refine c_int S0 ?_)
  | ((with_reducible show wpAny _ _ (binaryOp Operator.Add (Value.int _ _) (Value.int _ _)) _ _ _); refine o_add S0 ?_)
  | ((with_reducible show wpAny _ _ (binaryOp Operator.Sub (Value.int _ _) (Value.int _ _)) _ _ _); refine o_sub S0 ?_)
  | ((with_reducible show wpAny _ _ (inplaceOp Operator.Add (Value.int _ _) (Value.int _ _)) _ _ _); refine o_iadd S0 ?_)
  | ((with_reducible show wpAny _ _ (unaryOp UnaryOp.USub (Value.int _ _)) _ _ _); refine o_neg S0 ?_)
  | ((with_reducible show wpAny _ _ (binaryOp Operator.BitAnd (Value.int _ _) (Value.int _ _)) _ _ _); refine o_and S0 ?_)
  | ((with_reducible show wpAny _ _ (inplaceOp Operator.BitOr (Value.int _ _) (Value.int _ _)) _ _ _); refine o_ior S0 ?_)
  | ((with_reducible show wpAny _ _ (binaryOp Operator.Mod (Value.int _ _) (Value.int (64 ^ _) _)) _ _ _); refine o_mod64 S0 ?_)
  | ((with_reducible show wpAny _ _ (binaryOp Operator.Mod (Value.int _ _) (Value.int _ _)) _ _ _); refine o_mod S0 (by first | decide | omega) ?_)
  | ((with_reducible show wpAny _ _ (binaryOp Operator.FloorDiv (Value.int _ _) (Value.int (64 ^ _) _)) _ _ _); refine o_div64 S0 (by omega) ?_)
  | ((with_reducible show wpAny _ _ (call (Value.builtin "max") [Value.int _ _, Value.int _ _]) _ _ _); refine o_max (by assumption) S0 ?_)
  | ((with_reducible show wpAny _ _ (call (Value.builtin "min") [Value.int _ _, Value.int _ _]) _ _ _); refine o_min (by assumption) S0 ?_)
  | ((with_reducible show wpAny _ _ (binaryOp Operator.Pow (Value.int 64 _) (Value.int _ _)) _ _ _); refine o_pow64 S0 (by omega) (by omega) ?_)
  | ((with_reducible show wpAny _ _ (call (Value.builtin "len") [Value.ref _]) _ _ _); refine l_len S0 (by walk_at "hg") (by with_reducible assumption) (by walk_at "sz") ?_)); intro s' t' S'; clear S0))
local macro_rules | `(tactic| walk_at "store") => `(tactic| ((with_reducible show wpAny _ _ (storeName _ _ _) _ _ _); (with_reducible rename Sf _ _ _ _ _ _ => S0); (refine st_local S0 ?_); intro s' S'; clear S0))
local macro_rules | `(tactic| walk_at "me") => `(tactic| first
  | ((with_reducible show wpAny _ _ (execs [] _) _ _ _); refine wpAny_execs_nil ?_)
  | ((with_reducible show wpAny _ _ (execs (_ :: _) _) _ _ _); refine wpAny_execs_cons ?_)
  | ((with_reducible show wpAny _ _ (exec (Stmt.Assign [Expr.Name _ _] _ _) _) _ _ _); refine wpAny_Assign_Name ?_)
  | ((with_reducible show wpAny _ _ (exec (Stmt.AugAssign (Expr.Name _ _) _ _ _) _) _ _ _); refine wpAny_AugAssign_Name ?_)
  | ((with_reducible show wpAny _ _ (exec (Stmt.Assign [Expr.Subscript _ _ _] _ _) _) _ _ _); refine wpAny_Assign_Subscript ?_)
  | ((with_reducible show wpAny _ _ (exec (Stmt.Expr _ _) _) _ _ _); refine wpAny_Expr ?_)
  | ((with_reducible show wpAny _ _ (exec (Stmt.If _ _ _ _) _) _ _ _); refine wpAny_If ?_)
  | ((with_reducible show wpAny _ _ (exec (Stmt.Return (some _) _) _) _ _ _); refine wpAny_Return_some ?_)
  | ((with_reducible show wpAny _ _ (isTrue (Expr.Compare _ [_] [_] _) _ _) _ _ _); refine wpAny_isTrue_Compare1 ?_)
  | ((with_reducible show wpAny _ _ (eval (Expr.Compare _ [_] [_] _) _) _ _ _); refine wpAny_Compare1 ?_)
  | ((with_reducible show wpAny _ _ (eval (Expr.BinOp _ _ _ _) _) _ _ _); refine wpAny_BinOp ?_)
  | ((with_reducible show wpAny _ _ (eval (Expr.UnaryOp _ _ _) _) _ _ _); refine UnaryOp_ ?_)
  | ((with_reducible show wpAny _ _ (eval (Expr.IfExp _ _ _ _) _) _ _ _); refine IfExp_ ?_)
  | ((with_reducible show wpAny _ _ (eval (Expr.Subscript _ _ _) _) _ _ _); refine Subscript_ ?_)
  | ((with_reducible show wpAny _ _ (eval (Expr.Name _ _) _) _ _ _); refine nm_local (by with_reducible assumption) (by walk_at "rd") ?_)
  | ((with_reducible show wpAny _ _ (loadName _ _) _ _ _); refine ld_local (by with_reducible assumption) (by walk_at "rd") ?_)
  | ((with_reducible show wpAny _ _ (spliced (backTo _ (starEach [] _))) _ _ _); refine spliced_none ?_)
  | ((with_reducible show wpAny _ _ (spliced (backTo _ (starEach (_ :: _) _))) _ _ _); refine spliced_more ?_)
  | ((with_reducible show wpAny _ _ (truthy (Value.bool _)) _ _ _); refine wpAny_truthy_bool ?_)
  | ((with_reducible show wpAny _ _ (compareOp CmpOp.Eq (Value.int _ _) (Value.int _ _)) _ _ _); refine PyProof.Rows.eq_int ?_)
  | ((with_reducible show wpAny _ _ (compareOp CmpOp.NotEq (Value.int _ _) (Value.int _ _)) _ _ _); refine PyProof.Rows.ne_int ?_)
  | ((with_reducible show wpAny _ _ (compareOp CmpOp.Lt (Value.int _ _) (Value.int _ _)) _ _ _); refine PyProof.Rows.lt_int ?_)
  | ((with_reducible show wpAny _ _ (compareOp CmpOp.Gt (Value.int _ _) (Value.int _ _)) _ _ _); refine PyProof.Rows.gt_int ?_)
  | ((with_reducible show wpAny _ _ (compareOp CmpOp.LtE (Value.int _ _) (Value.int _ _)) _ _ _); refine PySem.P.le_int ?_)
  | ((with_reducible show wpAny _ _ (compareOp CmpOp.GtE (Value.int _ _) (Value.int _ _)) _ _ _); refine PySem.P.ge_int ?_)
  | ((with_reducible show wpAny _ _ (eval (Expr.Call (Expr.Attribute _ _ _) _ _ _) _) _ _ _); refine MethodCall_ ?_)
  | ((with_reducible show wpAny _ _ (callWith _ (Value.builtin _) _ (backTo _ (starEach (_ :: _) _)) _) _ _ _); refine callWith_method1 ?_)
  | ((with_reducible show wpAny _ _ (getMethod (Value.ref _) (Str.ofString "append") _) _ _ _); first | refine m_append (by walk_at "hg") (by with_reducible assumption) ?_ | refine rm_append (by walk_at "hg") (by with_reducible assumption) ?_)
  | ((with_reducible show wpAny _ _ (eval (Expr.List _ _) _) _ _ _); refine List_ ?_)
  | ((with_reducible show wpAny _ _ (eval (Expr.Tuple _ _ _) _) _ _ _); refine Tuple_ ?_)
  | ((with_reducible show wpAny _ _ (eval (Expr.Constant (Const.bool _) _ _) _) _ _ _); refine PyProof.Rows.Constant_bool ?_)
  | ((with_reducible show wpAny _ _ (exec (Stmt.Break _) _) _ _ _); refine wpAny_Break ?_)
  | ((with_reducible show wpAny _ _ (eval (Expr.Slice _ _ _ _) _) _ _ _); refine wpAny_Slice ?_)
  | ((with_reducible show wpAny _ _ (evalPart none _) _ _ _); refine evalPart_none_step ?_)
  | ((with_reducible show wpAny _ _ (evalPart (some _) _) _ _ _); refine evalPart_some_step ?_)
  | ((with_reducible show wpAny _ _ (getMethod (Value.ref _) (Str.ofString "extend") _) _ _ _); refine m_extend (by with_reducible assumption) (by walk_at "mem") (by with_reducible assumption) ?_)
  | ((with_reducible show wpAny _ _ (isTrue (Expr.BinOp _ _ _ _) _ _) _ _ _); refine isTrue_plain ?_)
  | ((with_reducible show wpAny _ _ (isTrue (Expr.Call _ _ _ _) _ _) _ _ _); refine isTrue_plain ?_)
  | ((with_reducible show wpAny _ _ (isTrue (Expr.UnaryOp UnaryOp.Not _ _) _ _) _ _ _); refine isTrue_not ?_)
  | ((with_reducible show wpAny _ _ (isTrue (Expr.BoolOp BoolOp.Or (_ :: _) _) _ _) _ _ _); refine isTrue_or ?_)
  | ((with_reducible show wpAny _ _ (isTrue (Expr.BoolOp BoolOp.Or [] _) _ _) _ _ _); refine isTrue_or_nil ?_)
  | ((with_reducible show wpAny _ _ (isTrue (Expr.BoolOp BoolOp.And (_ :: _) _) _ _) _ _ _); refine isTrue_and ?_)
  | ((with_reducible show wpAny _ _ (isTrue (Expr.BoolOp BoolOp.And [] _) _ _) _ _ _); refine isTrue_and_nil ?_)
  | ((with_reducible show wpAny _ _ (truthy (Value.int _ _)) _ _ _); refine PySem.P.truthy_int ?_)
  | ((with_reducible show wpAny _ _ (exec (Stmt.For (Expr.Name _ _) _ _ _ _) _) _ _ _); refine wpAny_For ?_)
  | ((with_reducible show wpAny _ _ (call (Value.type "range") [Value.int _ _]) _ _ _); ((with_reducible rename Sf _ _ _ _ _ _ => S0); refine rg_1 S0 ?_; intro r' s' t' u' v' hr' S'; clear S0))
  | ((with_reducible show wpAny _ _ (call (Value.type "range") [Value.int _ _, Value.int _ _]) _ _ _); ((with_reducible rename Sf _ _ _ _ _ _ => S0); refine rg_2 S0 ?_; intro r' s' t' u' v' hr' S'; clear S0))
  | ((with_reducible show wpAny _ _ (subscriptTail _ _ (Value.ref _) (Value.int _ _)) _ _ _); (refine l_item (by walk_at "hg") (by with_reducible assumption) (by omega) (by walk_at "sz") (by walk_at "sz") ?_; intro t'))
  | ((with_reducible show TurnEnd _ _ _ _); dsimp only [TurnEnd])
  | walk_at "store"
  | walk_at "op"
  | walk_at "callb")
theorem parse_ok {prog : Program} {w : World} {A : Around} {E : Value → Shared → Prop} {s : Shared} {Q : Value → Shared → Prop} {l it : Addr} {lo ob : Obj} {os : List Int} {i k : Nat}
    (G : Gl (KK w) (s.heap.hide it)) (hx : s.heap.get? it = some ob) (hob : LIt l i ob) (hl : (s.heap.hide it).get? l = some lo) (hi : IL lo os) (hr : ∀ x ∈ os, 0 ≤ x ∧ x < 256) (hz : i + k < os.length) (hz2 : os.length ≤ 1000)
    (hmore : ∀ j, j < k → os.getD (i + j) 0 / 64 % 2 = 1) (hlast : os.getD (i + k) 0 / 64 % 2 = 0) (hd : A.depth < recursionLimit)
    (h : ∀ t ob' s', LIt l (i + k + 1) ob' → s'.heap.get? it = some ob' → Out [it] s s' → Q (.int (valL os i (k + 1)) t) s') :
    wpAny (model prog w) A (call (.ref 21) [.ref it]) Q E s := by
  refine enterW (binds := [(Str.ofString "iterator", .ref it)]) G hx (by rfl) (by rfl) hd (by rfl) (locs rfl) ?_
  intro s1 S
  have rng : ∀ j, j < os.length → 0 ≤ os.getD j 0 ∧ os.getD j 0 < 256 := by
    intro j hj
    have e : os.getD j 0 = os[j] := by simp [hj]
    rw [e]; exact hr _ (List.getElem_mem _)
  repeat (walk_at "me")
  refine n_item S hob (S.old hl) hi (by omega) ?_
  intro t2 ob2 s2 hob2 S2
  clear S
  repeat (walk_at "me")
  rename_i s' S'
  refine r_whileE (fun n s' => ∃ (j : Nat) (m : Str → Option Value) (ob' : Obj), j ≤ k ∧ n = k - j ∧ m (Str.ofString "iterator") = some (.ref it) ∧ IV m (Str.ofString "b") (os.getD (i + j) 0) ∧ IV m (Str.ofString "val") (valL os i (j + 1)) ∧ LIt l (i + j + 1) ob' ∧ Sf s (s.heap.hide it) _ m [(it, ob')] s')
    PassesOwn.leaving ?_ k ⟨0, _, ob2, by omega, by omega, by walk_at "rd", .mk (by walk_at "rd") rfl, .mk (by walk_at "rd") ?_, hob2, S'⟩
  · rintro n s3 ⟨j, m, ob', hj, rfl, h1, ⟨tb, h2⟩, ⟨tv, h3⟩, hob', S3⟩
    repeat (walk_at "me")
    obtain ⟨r1, r2⟩ := rng (i + j) (by omega)
    rw [and64 r1 r2]
    refine split_bool ?_ ?_
    · intro hc
      have hjk : j < k := by
        rcases Nat.lt_or_ge j k with q | q
        · exact q
        · have : j = k := by omega
          subst this
          rw [hlast] at hc
          simp at hc
      repeat (walk_at "me")
      have hv := valL_lt os i (j + 1)
      refine o_ishl6 (6 * (j + 1)) (by assumption) (nat64 hv.1 hv.2) (by omega) ?_
      intro s5 t5 S5
      repeat (walk_at "me")
      rename_i S6
      refine n_item S6 hob' (S6.old hl) hi (by omega) ?_
      intro t7 ob7 s7 hob7 S7
      repeat (walk_at "me")
      rename_i s8 S8
      rw [show i + j + 1 = i + (j + 1) from by omega, bitAnd_m6, bitOr64 hv.1 (Int.emod_nonneg _ (by decide)) (Int.emod_lt_of_pos _ (by decide))] at S8
      refine ⟨k - (j + 1), by omega, j + 1, _, ob7, by omega, rfl, by walk_at "rd", .mk (by walk_at "rd") ?_, .mk (by walk_at "rd") ?_, hob7, S8⟩
      · rfl
      · simp only [valL]
        omega
    · intro hc
      have hjk : j = k := by
        rcases Nat.lt_or_ge j k with q | q
        · rw [hmore j q] at hc
          simp at hc
        · omega
      subst hjk
      repeat (walk_at "me")
      exact h _ ob' _ hob' ((by assumption : Sf _ _ _ _ _ _).get (.head _)) (by assumption : Sf _ _ _ _ _ _).outW
  · simp [valL, bitAnd_m6]

theorem parse_stop {prog : Program} {w : World} {A : Around} {E : Value → Shared → Prop} {s : Shared} {Q : Value → Shared → Prop} {l it : Addr} {lo ob : Obj} {os : List Int} {i : Nat} {base : Heap} {outer : List Env}
    (G : Gl (KK w) (s.heap.hide it)) (hx : s.heap.get? it = some ob) (hob : LIt l i ob) (hl : (s.heap.hide it).get? l = some lo) (hi : IL lo os) (hr : ∀ x ∈ os, 0 ≤ x ∧ x < 256) (hz2 : os.length ≤ 1000)
    (hmore : ∀ j, i ≤ j → j < os.length → os.getD j 0 / 64 % 2 = 1) (hd : A.depth < recursionLimit) (hh : A.handled = none)
    (hfr : A.frames = some outer) (hbs : base.StaysIn s.heap) (hbit : base.get? it = none) (hff : s.heap.FunFrames base outer)
    (h : ∀ e s', Flies base outer s s' e → E (.ref e) s') :
    wpAny (model prog w) A (call (.ref 21) [.ref it]) Q E s := by
  refine enterW (binds := [(Str.ofString "iterator", .ref it)]) G hx (by rfl) (by rfl) hd (by rfl) (locs rfl) ?_
  intro s1 S
  have rng : ∀ j, j < os.length → 0 ≤ os.getD j 0 ∧ os.getD j 0 < 256 := by
    intro j hj
    have e : os.getD j 0 = os[j] := by simp [hj]
    rw [e]; exact hr _ (List.getElem_mem _)
  repeat (walk_at "me")
  rcases Nat.lt_or_ge i os.length with hlt | hge
  · refine n_item S hob (S.old hl) hi hlt ?_
    intro t2 ob2 s2 hob2 S2
    clear S
    repeat (walk_at "me")
    rename_i s' S'
    refine r_whileE (fun n s' => ∃ (j : Nat) (m : Str → Option Value) (ob' : Obj), i + j < os.length ∧ n = os.length - (i + j) ∧ m (Str.ofString "iterator") = some (.ref it) ∧ IV m (Str.ofString "b") (os.getD (i + j) 0) ∧ IV m (Str.ofString "val") (valL os i (j + 1)) ∧ LIt l (i + j + 1) ob' ∧ Sf s (s.heap.hide it) _ m [(it, ob')] s')
      PassesOwn.leaving ?_ (os.length - i) ⟨0, _, ob2, by omega, by omega, by walk_at "rd", .mk (by walk_at "rd") rfl, .mk (by walk_at "rd") ?_, hob2, S'⟩
    · rintro n s3 ⟨j, m, ob', hj, rfl, h1, ⟨tb, h2⟩, ⟨tv, h3⟩, hob', S3⟩
      repeat (walk_at "me")
      obtain ⟨r1, r2⟩ := rng (i + j) (by omega)
      rw [and64 r1 r2, hmore (i + j) (by omega) hj]
      rw [if_pos (by decide)]
      repeat (walk_at "me")
      have hv := valL_lt os i (j + 1)
      refine o_ishl6 (6 * (j + 1)) (by assumption) (nat64 hv.1 hv.2) (by omega) ?_
      intro s5 t5 S5
      repeat (walk_at "me")
      rename_i S6
      rcases Nat.lt_or_ge (i + j + 1) os.length with hlt2 | hge2
      · refine n_item S6 hob' (S6.old hl) hi (by omega) ?_
        intro t7 ob7 s7 hob7 S7
        repeat (walk_at "me")
        rename_i s8 S8
        rw [show i + j + 1 = i + (j + 1) from by omega, bitAnd_m6, bitOr64 hv.1 (Int.emod_nonneg _ (by decide)) (Int.emod_lt_of_pos _ (by decide))] at S8
        refine ⟨os.length - (i + (j + 1)), by omega, j + 1, _, ob7, by omega, rfl, by walk_at "rd", .mk (by walk_at "rd") ?_, .mk (by walk_at "rd") ?_, hob7, S8⟩
        · rfl
        · simp only [valL]
          omega
      · refine n_end hh (S6.get (.head _)) hob' (S6.old hl) hi hge2 ?_
        intro e h' hst
        exact stop_leave hx hob hfr hbs hbit hff S6 hst (Nat.le_refl _) rfl (by show ScopeKind.function ≠ ScopeKind.module; decide) h
    · simp [valL, bitAnd_m6]
  · refine n_end hh (S.get (.head _)) hob (S.old hl) hi hge ?_
    intro e h' hst
    exact stop_leave hx hob hfr hbs hbit hff S hst (Nat.le_refl _) rfl (by show ScopeKind.function ≠ ScopeKind.module; decide) h

theorem breaks_stop {prog : Program} {w : World} {A : Around} {E : Value → Shared → Prop} {s : Shared} {Q : Value → Shared → Prop} {l it LL : Addr} {lo ob oL : Obj} {os : List Int} {i : Nat} {envL : Env}
    (G : Gl (KK w) ((s.heap.hide it).hide LL)) (hx : s.heap.get? it = some ob) (hob : LIt l i ob) (hl : (s.heap.hide it).get? l = some lo) (hi : IL lo os) (hr : ∀ x ∈ os, 0 ≤ x ∧ x < 256) (hz2 : os.length ≤ 1000)
    (hmore : ∀ j, i ≤ j → j < os.length → os.getD j 0 / 64 % 2 = 1) (hd : A.depth + 1 < recursionLimit) (hh : A.handled = none)
    (hfr : A.frames = some [envL]) (hfL : envL.frame = some LL) (hkL : envL.scope.kind ≠ .module) (hLL : s.heap.get? LL = some oL) (hdL : ∀ vs, oL.data ≠ .fields vs)
    (h : ∀ s', OutX it LL s s' → Q (.bool true) s') :
    wpAny (model prog w) A (call (.ref 54) [.ref it]) Q E s := by
  have hne : LL ≠ it := by
    intro q
    rw [q, hx] at hLL
    exact hdL _ ((Option.some.inj hLL) ▸ hob.2)
  have sub : ∀ b o, ((s.heap.hide it).hide LL).get? b = some o → (s.heap.hide it).get? b = some o := fun b o e => Heap.of_hide e
  have G1 : Gl (KK w) (s.heap.hide it) := G.keeps sub
  refine enterW (binds := [(Str.ofString "tape", .ref it)]) G1 hx (by rfl) (by rfl) (by omega) (by rfl) (locs rfl) ?_
  intro s1 S
  have hbit : ((s.heap.hide it).hide LL).get? it = none := by
    cases hq : ((s.heap.hide it).hide LL).get? it with
    | none => rfl
    | some o => have := sub _ _ hq; rw [Heap.hide_self] at this; cases this
  have hbs : ((s.heap.hide it).hide LL).StaysIn s1.heap := fun b o e => S.F.keep b o (sub b o e)
  have hlne : l ≠ it := fun q => by rw [q, Heap.hide_self] at hl; cases hl
  refine wpAny_execs_cons ?_
  refine wpAny_Try_except ?_
  repeat (walk_at "me")
  refine ⟨(S.gl G1).inn, ?_⟩
  refine parse_stop (base := (s.heap.hide it).hide LL) (outer := [_, envL]) (S.glW G1) (S.get (.head _)) hob ((Heap.hide_ne _ hlne).trans (S.old hl)) hi hr hz2 hmore (by show A.depth + 1 < _; omega) hh (Around.frames_deeper hfr) hbs hbit ?_ ?_
  · refine Heap.FunFrames.cons (by show ScopeKind.function ≠ ScopeKind.module; decide) rfl S.F.ns ?_ ⟨hkL, ⟨LL, oL, hfL, Heap.hide_self .., S.F.keep _ _ ((Heap.hide_ne _ hne).trans hLL), hdL⟩, trivial⟩
    show ((s.heap.hide it).hide LL).get? s.heap.objs.size = none
    cases hq : ((s.heap.hide it).hide LL).get? s.heap.objs.size with
    | none => rfl
    | some o => exact absurd (Heap.lt_size (Heap.of_hide (sub _ _ hq))) (Nat.lt_irrefl _)
  · intro e s2 fl
    obtain ⟨a0, hfl⟩ := fl.fly
    refine wpAny_looks_onW (Around.frames_deeper hfr) rfl hfl fun h3 hh3 u3 => ?_
    refine wpAny_landsW (s := { s2 with heap := h3 }) hh3 fun h4 hfl4 u4 => ?_
    have G4 : Gl (KK w) h4 := G.keeps hfl4.1
    obtain ⟨mg, mb, ga, gb, gc⟩ := G4.names
    refine wpAny_handleBy_builtin (X := "StopIteration") (T := "StopIteration") (b := true) owsi_raise.isExc (by rw [isSubtype_type]; kernel_rfl) owsi_facts.sub ?_
    refine Name_function_global rfl rfl (loadGlobal_builtin ga (mg_none_of G4.inn ga (n_stop w)) gb ((gc _ (by decide)).trans b_stop) ?_) (by decide)
    refine ⟨rfl, hfl4.there, ?_⟩
    rw [if_pos rfl]
    refine wpAny_setFlight_noneW (s := { s2 with heap := h4 }) hfl4.1 hfl4.2.2.1 hfl4.2.2.2.at fun h5 k1 k2 k3 k4 => ?_
    repeat (walk_at "me")
    refine h _ ⟨fun b o hb hbL eb => k1 b o ((Heap.hide_ne _ hbL).trans ((Heap.hide_ne _ hb).trans eb)), fun b o eb hn => ?_, fl.g.trans S.g, fl.d.trans S.d, fl.o.trans S.o⟩
    have hbit' : b ≠ it := by
      intro q
      rw [q, hx] at eb
      exact hn _ ((Option.some.inj eb) ▸ hob.2)
    obtain ⟨sl2, e2⟩ := fl.upto b o (S.F.keep b o ((Heap.hide_ne _ hbit').trans eb)) hn
    obtain ⟨sl3, e3⟩ := u3 b _ e2 hn
    obtain ⟨sl4, e4⟩ := u4 b _ e3 hn
    exact ⟨sl4, k4 b _ e4 hn⟩
theorem overlap_call {prog : Program} {w : World} {A : Around} {E : Value → Shared → Prop} {s : Shared} {Q : Value → Shared → Prop} {l : Addr} {o : Obj} {ns : List Int}
    (G : Gl (KK w) s.heap) (hl : s.heap.get? l = some o) (hi : IL o ns) (hz : ns.length ≤ 200) (hh : A.handled = none) (hd : A.depth < recursionLimit)
    (h : ∀ a ob T s', IL ob T → T.length = ns.length → Tbl (fun j => ns.getD j 0) ns.length T → Out [] s s' → New s s' a ob → Q (.ref a) s') :
    wpAny (model prog w) A (call (.ref 28) [.ref l]) Q E s := by
  refine enter (binds := [(Str.ofString "prefix", .ref l)]) G (by rfl) (by rfl) hd (by rfl) (locs rfl) ?_
  intro s1 S
  repeat (walk_at "me")
  rename_i S1
  refine l_new S1 (.cons 0 _ .nil) (by decide) ?_
  intro a0 ob0 s2 hob0 S2
  clear S1
  repeat (walk_at "me")
  rename_i S3
  refine l_mul S3 (S3.get (.head _)) hob0 (by omega) (by omega) (by simp; omega) ?_
  intro a ob s4 hob S4
  replace S4 := S4.sublist (news' := [(a, ob)]) (by simp)
  repeat (walk_at "me")
  rename_i r' s' t' u' v' hr' S'
  refine for_range (ns.length - 1) (fun k m news => m (Str.ofString "prefix") = some (.ref l) ∧ m (Str.ofString "table") = some (.ref a) ∧ ∃ ob T, news = [(a, ob)] ∧ IL ob T ∧ T.length = ns.length ∧ Tbl (fun j => ns.getD j 0) (k + 1) T)
    hh S' hr' (by omega) (by omega) (by omega) (by omega) (by omega) ⟨by walk_at "rd", by walk_at "rd", ob, _, rfl, hob, ?_, Tbl.first ?_⟩ ?_ ?_
  · simp
  · cases ns with
    | nil => rfl
    | cons x r => simp [List.replicate_succ]
  · rintro k ti m₁ news₁ it oi s3 hlt ⟨h1, h2, ob, T, rfl, hob, hT, hTb⟩ S3
    repeat (walk_at "me")
    rename_i s5 S5
    obtain ⟨p, hlp, ep⟩ := hTb k (by omega)
    have hpl := hlp.le
    have e1 : (0 : Int) + 1 + (k : Nat) - 1 = (k : Nat) := by omega
    refine r_while (fun n s' => ∃ (m : Str → Option Value), Inv (fun j => ns.getD j 0) (k + 1) n ∧ m (Str.ofString "prefix") = some (.ref l) ∧ m (Str.ofString "table") = some (.ref a) ∧ IV m (Str.ofString "i") (1 + (k : Nat)) ∧ IV m (Str.ofString "idx") (n : Nat) ∧ Sf s s.heap _ m [(it, oi), (a, ob)] s')
      ?_ (k + 1 - p) ⟨_, inv_start hlp (by omega), by walk_at "rd", by walk_at "rd", .mk (by walk_at "rd") rfl, .mk (by walk_at "rd") ?_, S5⟩
    · rintro n s6 ⟨m, hinv, h1, h2, ⟨ti, h3⟩, ⟨tx, h4⟩, S6⟩
      have hn := hinv.lt
      have ei : ((1 : Int) + (k : Nat)).toNat = k + 1 := by omega
      repeat (walk_at "me")
      rw [ei, Int.toNat_natCast]
      refine split_bool ?_ ?_
      · intro hc
        have hc' : ns.getD (k + 1) 0 ≠ ns.getD n 0 := by simpa using hc
        repeat (walk_at "me")
        refine split_bool ?_ ?_
        · intro h0
          have hn0 : n = 0 := by simpa using h0
          subst hn0
          repeat (walk_at "me")
          refine l_set (pre := [_]) (by assumption) hob (by omega) (by omega) (by omega) ?_
          intro ob' s7 hob' S7
          repeat (walk_at "me")
          refine ⟨_, _, ⟨by walk_at "rd", by walk_at "rd", ob', _, rfl, hob', by simp [hT], ?_⟩, S7⟩
          rw [ei]
          exact hTb.set (by omega) (inv_zero hinv hc') (by omega)
        · intro h0
          have hn0 : n ≠ 0 := by simpa using h0
          repeat (walk_at "me")
          rename_i S7
          obtain ⟨q, hlq, eq⟩ := hTb (n - 1) (by omega)
          rw [show n - 1 + 1 = n by omega] at hlq
          have := hlq.le
          have := hlq.pos
          refine ⟨n - q, by omega, _, inv_next hinv hc' hlq, by walk_at "rd", by walk_at "rd", .mk (by walk_at "rd") rfl, .mk (by walk_at "rd") ?_, S7⟩
          rw [show ((n : Int) - 1).toNat = n - 1 by omega, eq]
          omega
      · intro hc
        have hc' : ns.getD (k + 1) 0 = ns.getD n 0 := by simpa using hc
        repeat (walk_at "me")
        refine l_set (pre := [_]) (by assumption) hob (by omega) (by omega) (by omega) ?_
        intro ob' s7 hob' S7
        repeat (walk_at "me")
        refine ⟨_, _, ⟨by walk_at "rd", by walk_at "rd", ob', _, rfl, hob', by simp [hT], ?_⟩, S7⟩
        rw [ei]
        exact hTb.set (by omega) (inv_hit hinv hc') (by omega)
    · rw [show ((1 : Int) + (k : Nat) - 1).toNat = k by omega, ep]
      omega
  · rintro m₁ news₁ s3 ⟨h1, h2, ob, T, rfl, hob, hT, hTb⟩ S3
    repeat (walk_at "me")
    refine h a ob T _ hob hT (fun i hi => hTb i (by omega)) S3.out (S3.new (.head _))
def octOf (ns : List Int) (turn : Int) (k : Nat) : Int := ns.getD k 0 + (if (k : Int) + 1 < ns.length then 64 else 0) + 128 * (((k : Int) + turn) % 2)
def octs (ns : List Int) (turn : Int) : List Int := (List.range ns.length).map (octOf ns turn)
theorem octets_call {prog : Program} {w : World} {A : Around} {E : Value → Shared → Prop} {s : Shared} {Q : Value → Shared → Prop} {l : Addr} {o : Obj} {ns : List Int} {turn : Int} {t : Tok}
    (G : Gl (KK w) s.heap) (hl : s.heap.get? l = some o) (hi : IL o ns) (hz : ns.length ≤ 1000) (hc0 : 0 ≤ turn) (hc1 : turn ≤ 1000) (hh : A.handled = none) (hd : A.depth < recursionLimit)
    (h : ∀ a ob s', IL ob (octs ns turn) → Out [] s s' → New s s' a ob → Q (.ref a) s') :
    wpAny (model prog w) A (call (.ref 47) [.ref l, .int turn t]) Q E s := by
  refine enter (binds := [(Str.ofString "figures", .ref l), (Str.ofString "turn", .int turn t)]) G (by rfl) (by rfl) hd (by rfl) (locs rfl) ?_
  intro s1 S
  repeat (walk_at "me")
  refine l_new S .nil (by decide) ?_
  intro a ob s2 hob S2
  clear S
  repeat (walk_at "me")
  rename_i r' s' t' u' v' hr' S'
  refine for_range ns.length (fun i m news => m (Str.ofString "figures") = some (.ref l) ∧ m (Str.ofString "turn") = some (.int turn t) ∧ m (Str.ofString "octets") = some (.ref a) ∧ ∃ ob, news = [(a, ob)] ∧ IL ob ((List.range i).map (octOf ns turn)))
    hh S' hr' (.inl (by omega)) (by omega) (by omega) (by omega) (by omega) ⟨by walk_at "rd", by walk_at "rd", by walk_at "rd", ob, rfl, hob⟩ ?_ ?_
  · rintro i ti m₁ news₁ it oi s3 hlt ⟨h1, h2, h3, ob, rfl, hob⟩ S3
    repeat (walk_at "me")
    rename_i S5
    refine if_const S5 ?_
    intro s6 t6 S6
    repeat (walk_at "me")
    refine o_mul 10 10 (by assumption) (by decide) (by omega) (by decide) ?_
    intro s8 t8 S8
    repeat (walk_at "me")
    refine l_append (pre := [_]) (by assumption) hob (by simp; omega) ?_
    intro ob' s9 hob' S9
    repeat (walk_at "me")
    refine ⟨_, _, ⟨by walk_at "rd", by walk_at "rd", by walk_at "rd", ob', rfl, ?_⟩, S9⟩
    rw [List.range_succ, List.map_append]
    simpa [octOf] using hob'
  · rintro m₁ news₁ s3 ⟨h1, h2, h3, ob, rfl, hob⟩ S3
    repeat (walk_at "me")
    exact h a ob _ hob S3.out (S3.new (.head _))
/-- a row's figures -/
def fig (r : List Int) (j : Nat) : Int := r.getD j 0
theorem fig_rng {r : List Int} (hr : ∀ x ∈ r, 0 ≤ x ∧ x < 64) (j : Nat) : 0 ≤ fig r j ∧ fig r j < 64 := by
  unfold fig
  rcases Nat.lt_or_ge j r.length with h | h
  · have e : r.getD j 0 = r[j] := by simp [h]
    rw [e]; exact hr _ (List.getElem_mem _)
  · have e : r.getD j 0 = 0 := by simp [h]
    rw [e]; decide
theorem octs_len (r : List Int) (turn : Int) : (octs r turn).length = r.length := by simp [octs]
theorem octs_at {r : List Int} {turn : Int} {k : Nat} (h : k < r.length) : (octs r turn).getD k 0 = octOf r turn k := by
  simp [octs, h]
theorem octOf_eq {r : List Int} {turn : Int} {k : Nat} : octOf r turn k = fig r k + (if (k : Int) + 1 < r.length then 64 else 0) + 128 * (((k : Int) + turn) % 2) := rfl
theorem octs_rng {r : List Int} (hr : ∀ x ∈ r, 0 ≤ x ∧ x < 64) (turn : Int) : ∀ x ∈ octs r turn, 0 ≤ x ∧ x < 256 := by
  intro x hx
  obtain ⟨k, _, rfl⟩ := List.mem_map.mp hx
  have := fig_rng hr k
  rw [octOf_eq]
  split <;> omega
theorem oct_more {r : List Int} (hr : ∀ x ∈ r, 0 ≤ x ∧ x < 64) {turn : Int} {k : Nat} (h : k + 1 < r.length) : (octs r turn).getD k 0 / 64 % 2 = 1 := by
  rw [octs_at (by omega), octOf_eq, if_pos (by omega)]
  have := fig_rng hr k
  omega
theorem oct_last {r : List Int} (hr : ∀ x ∈ r, 0 ≤ x ∧ x < 64) {turn : Int} {k : Nat} (h : k + 1 = r.length) : (octs r turn).getD k 0 / 64 % 2 = 0 := by
  rw [octs_at (by omega), octOf_eq, if_neg (by omega)]
  have := fig_rng hr k
  omega
theorem oct_mod {r : List Int} (hr : ∀ x ∈ r, 0 ≤ x ∧ x < 64) {turn : Int} {k : Nat} (h : k < r.length) : (octs r turn).getD k 0 % 64 = fig r k := by
  rw [octs_at h, octOf_eq]
  have := fig_rng hr k
  split <;> omega
theorem oct_val {r : List Int} (hr : ∀ x ∈ r, 0 ≤ x ∧ x < 64) {turn : Int} {i : Nat} : ∀ {k : Nat}, i + k ≤ r.length → valL (octs r turn) i k = val (fig r) i k
  | 0, _ => rfl
  | k + 1, h => by
    simp only [valL, val]
    rw [oct_val hr (by omega), oct_mod hr (by omega)]
theorem number_call {prog : Program} {w : World} {A : Around} {E : Value → Shared → Prop} {s : Shared} {Q : Value → Shared → Prop} {l : Addr} {o : Obj} {r : List Int}
    (G : Gl (KK w) s.heap) (hl : s.heap.get? l = some o) (hi : IL o r) (hz : r.length ≤ 1000) (hr : ∀ x ∈ r, 0 ≤ x ∧ x < 64) (hh : A.handled = none) (hd : A.depth < recursionLimit)
    (h : ∀ t s', Out [] s s' → Q (.int (val (fun j => r.getD j 0) 0 r.length) t) s') :
    wpAny (model prog w) A (call (.ref 40) [.ref l]) Q E s := by
  refine enter (binds := [(Str.ofString "figures", .ref l)]) G (by rfl) (by rfl) hd (by rfl) (locs rfl) ?_
  intro s1 S
  have hf : ∀ j, 0 ≤ r.getD j 0 ∧ r.getD j 0 < 64 := by
    intro j
    rcases Nat.lt_or_ge j r.length with h | h
    · have e : r.getD j 0 = r[j] := by simp [h]
      rw [e]; exact hr _ (List.getElem_mem _)
    · have e : r.getD j 0 = 0 := by simp [h]
      rw [e]; decide
  repeat (walk_at "me")
  rename_i S3
  obtain ⟨vs, er, rfl, hvs⟩ := hi
  have hvl := hvs.length
  refine for_list (fun i m news => m (Str.ofString "figures") = some (.ref l) ∧ IV m (Str.ofString "number") (val (fun j => r.getD j 0) 0 i) ∧ news = [])
    hh S3 rfl ?_ (S3.old hl) ⟨by walk_at "rd", .mk (by walk_at "rd") rfl, rfl⟩ ?_ ?_
  · rintro i m₁ news₁ p s₁ ⟨_, _, rfl⟩ S8
    exact S8.old hl
  · rintro i v m₁ news₁ it oi s8 hlt hv ⟨h1, ⟨tw, h3⟩, rfl⟩ S8
    obtain ⟨n, tn, rfl, hn⟩ := hvs.at i v hv
    repeat (walk_at "me")
    have hw := val_lt hf 0 i
    refine o_mul 7 (6 * i) (by assumption) (by decide) (nat64 hw.1 hw.2) (by omega) ?_
    intro s9 t9 S9
    repeat (walk_at "me")
    rename_i S10
    refine ⟨_, _, ⟨by walk_at "rd", .mk (by walk_at "rd") ?_, rfl⟩, S10⟩
    show _ = 64 * val (fun j => r.getD j 0) 0 i + r.getD (0 + i) 0
    have : n = r.getD (0 + i) 0 := by simp [hn]
    rw [this]
  · rintro m₁ news₁ s8 ⟨h1, ⟨tw, h3⟩, rfl⟩ S8
    rw [hvl] at h3
    repeat (walk_at "me")
    exact h _ _ S8.out
theorem least_call {prog : Program} {w : World} {A : Around} {E : Value → Shared → Prop} {s : Shared} {Q : Value → Shared → Prop} {told : Int} {front : Nat} {t1 t2 : Tok}
    (G : Gl (KK w) s.heap) (h0 : 0 ≤ told) (h1 : told < 64 ^ front) (hf1 : 1 ≤ front) (hf : front ≤ 300) (hh : A.handled = none) (hd : A.depth < recursionLimit)
    (h : ∀ (r : Nat) t s', 1 ≤ r → r ≤ front → (LeastOk told front r ∨ r = front) → (∀ q : Nat, 1 ≤ q → q < r → ¬ LeastOk told front q) → Out [] s s' → Q (.int r t) s') :
    wpAny (model prog w) A (call (.ref 61) [.int told t1, .int front t2]) Q E s := by
  refine enter (binds := [(Str.ofString "told", .int told t1), (Str.ofString "front", .int front t2)]) G (by rfl) (by rfl) hd (by rfl) (locs rfl) ?_
  intro s1 S
  repeat (walk_at "me")
  rename_i r' s' t' u' v' hr' S'
  refine for_range (front - 1) (fun k m news => news = [] ∧ m (Str.ofString "told") = some (.int told t1) ∧ m (Str.ofString "front") = some (.int front t2) ∧ ∀ q : Nat, 1 ≤ q → q < k + 1 → ¬ LeastOk told front q)
    hh S' hr' (by omega) (by omega) (by omega) (by omega) (by omega) ⟨rfl, by walk_at "rd", by walk_at "rd", fun q h1 h2 => absurd h2 (by omega)⟩ ?_ ?_
  · rintro k ti m₁ news₁ it oi s3 hlt ⟨rfl, h2, h3, hno⟩ S3
    rw [show (1 : Int) + (k : Nat) = ((k + 1 : Nat) : Int) by omega] at S3
    repeat (walk_at "me")
    have hP := p64_pos (k + 1)
    have hPn := p64_nat (k + 1)
    have hN := p64_pos front
    have htn := nat64 h0 h1
    have ek : ((k + 1 : Nat) : Int).toNat = k + 1 := Int.toNat_natCast _
    refine o_mul (6 * front) (6 * (k + 1) + 1) (by assumption) (by rw [Int.natAbs_neg]; exact htn) (by rw [ek]; omega) (by omega) ?_
    intro s5 t5 S5
    repeat (walk_at "me")
    rename_i S6
    rw [ek, Int.toNat_natCast front] at S6
    rw [ek, Int.toNat_natCast front]
    have hnear : 0 ≤ -(-told * (64 ^ (k + 1) - 1) / 64 ^ front) ∧ -(-told * (64 ^ (k + 1) - 1) / 64 ^ front) ≤ 64 ^ (k + 1) - 1 := by
      have e0 : -told * ((64 : Int) ^ (k + 1) - 1) = -(told * (64 ^ (k + 1) - 1)) := by rw [Int.neg_mul]
      rw [e0]
      have x0 : 0 ≤ told * ((64 : Int) ^ (k + 1) - 1) := Int.mul_nonneg h0 (by omega)
      have x1 : told * ((64 : Int) ^ (k + 1) - 1) ≤ 64 ^ front * (64 ^ (k + 1) - 1) := Int.mul_le_mul_of_nonneg_right (by omega) (by omega)
      constructor
      · have : -(told * ((64 : Int) ^ (k + 1) - 1)) / 64 ^ front < 1 := Int.ediv_lt_of_lt_mul hN (by omega)
        omega
      · have : -((64 : Int) ^ (k + 1) - 1) ≤ -(told * ((64 : Int) ^ (k + 1) - 1)) / 64 ^ front := by
          refine Int.le_ediv_of_mul_le hN ?_
          rw [Int.neg_mul, Int.mul_comm]
          omega
        omega
    generalize hne : -(-told * ((64 : Int) ^ (k + 1) - 1) / 64 ^ front) = near at hnear S6
    refine o_mul (6 * (k + 1) + 1) (6 * front + 1) S6 (by omega) (p64_nat front) (by omega) ?_
    intro s7 t7 S7
    clear S6
    repeat (walk_at "me")
    refine o_mul (6 * front + 1) (6 * (k + 1) + 1) (by assumption) (by have := p64_nat front; omega) (by omega) (by omega) ?_
    intro s8 t8 S8
    repeat (walk_at "me")
    have hiff : LeastOk told front (k + 1) ↔ near * 64 ^ front ≤ (told + 1) * (64 ^ (k + 1) - 1) := by
      unfold LeastOk
      rw [hne]
    refine split_bool ?_ ?_
    · intro hc
      have hc' := hiff.mpr (of_decide_eq_true hc)
      repeat (walk_at "me")
      exact h (k + 1) _ _ (by omega) (by omega) (.inl hc') hno S8.out
    · intro hc
      have hc' : ¬ LeastOk told front (k + 1) := fun q => absurd (hiff.mp q) (of_decide_eq_false hc)
      repeat (walk_at "me")
      refine ⟨_, _, ⟨rfl, by walk_at "rd", by walk_at "rd", ?_⟩, S8⟩
      intro q q1 q2
      rcases Nat.lt_or_ge q (k + 1) with c | c
      · exact hno q q1 c
      · have e : q = k + 1 := by omega
        rw [e]
        exact hc'
  · rintro m₁ news₁ s3 ⟨rfl, h2, h3, hno⟩ S3
    repeat (walk_at "me")
    exact h front _ _ hf1 (Nat.le_refl _) (.inr rfl) (fun q q1 q2 => hno q q1 (by omega)) S3.out
section
variable {prog : Program} {w : World} {A : Around} {E : Value → Shared → Prop} {s s₀ : Shared} {h₀ : Heap} {m : Str → Option Value} {news : List (Addr × Obj)} {L : Addr}
theorem un_items {t : Addr} {items : Array Value} {n : Nat} {Q : List Value → Shared → Prop} (S : Sf s₀ h₀ L m news s) (ht : IsTup s.heap t items) (hh : A.handled = none) (hn : n = items.size) (h : ∀ s', Sf s₀ h₀ L m news s' → Q items.toList s') :
    wpAny (model prog w) A (unpackItems (.ref t) n none) Q E s :=
  unpackItemsN_ S.F S.N ht hh hn fun h' F' N' => h _ ⟨F', N', S.D, S.g, S.d, S.o⟩
end
/-- what the denominator says in lowest terms -/
structure Low (top bottom twos odd step : Nat) : Prop where
  eq : bottom / Nat.gcd top bottom = 2 ^ twos * odd
  isOdd : odd % 2 = 1
  pos : 1 ≤ step
  one : 64 ^ step % odd = 1 % odd
  least : ∀ q, 1 ≤ q → q < step → 64 ^ q % odd ≠ 1 % odd
set_option maxHeartbeats 2000000 in
theorem lowest_call {prog : Program} {w : World} {A : Around} {E : Value → Shared → Prop} {s : Shared} {Q : Value → Shared → Prop} {top bottom a p : Nat} {t1 t2 : Tok}
    (G : Gl (KK w) s.heap) (hp : 1 ≤ p) (hap : a + p ≤ 100) (hb : bottom = 64 ^ a * (64 ^ p - 1)) (hh : A.handled = none) (hd : A.depth < recursionLimit)
    (h : ∀ (twos odd step : Nat) x u1 u2 s', Low top bottom twos odd step → Out [] s s' → New s s' x (tupOf [.int (((twos + 5) / 6 : Nat) : Int) u1, .int (step : Nat) u2]) → Q (.ref x) s') :
    wpAny (model prog w) A (call (.ref 68) [.int top t1, .int bottom t2]) Q E s := by
  refine enter (binds := [(Str.ofString "top", .int top t1), (Str.ofString "bottom", .int bottom t2)]) G (by rfl) (by rfl) hd (by rfl) (locs rfl) ?_
  intro s1 S
  have hb0 : 0 < bottom := by
    rw [hb]
    have := m64_odd hp
    exact Nat.mul_pos (Nat.pow_pos (by decide)) (by omega)
  have hbb : bottom < 2 ^ (6 * (a + p)) := by
    rw [hb, ← p64_two, Nat.pow_add]
    have : 0 < 64 ^ p := Nat.pow_pos (by decide)
    exact Nat.mul_lt_mul_of_pos_left (by omega) (Nat.pow_pos (by decide))
  repeat (walk_at "me")
  rename_i S2
  refine r_while (fun n s' => ∃ (m : Str → Option Value) (one : Nat), 0 < one ∧ Nat.gcd one n = Nat.gcd top bottom ∧ m (Str.ofString "bottom") = some (.int bottom t2) ∧ IV m (Str.ofString "one") (one : Nat) ∧ IV m (Str.ofString "other") (n : Nat) ∧ Sf s s.heap _ m [] s')
    ?_ top ⟨_, bottom, hb0, Nat.gcd_comm .., by walk_at "rd", .mk (by walk_at "rd") rfl, .mk (by walk_at "rd") rfl, S2⟩
  clear S2
  rintro n s3 ⟨m, one, h1, hg, m1, ⟨to, m2⟩, ⟨tr, m3⟩, S3⟩
  repeat (walk_at "me")
  refine split_bool ?_ ?_
  · intro hc
    have hn : n ≠ 0 := by simpa using hc
    refine wpAny_execs_cons ?_
    refine Assign_Tuple_swapped ?_
    repeat (walk_at "me")
    rename_i S4
    refine t_new S4 (by simp) ?_
    intro x5 s5 S5
    clear S4
    refine un_items S5 ⟨_, S5.get (.head _), rfl, _, rfl⟩ hh rfl ?_
    intro s6 S6
    clear S5
    replace S6 := S6.tail
    show wpAny _ _ (assignInOrder (_ :: _) (_ :: _)) _ _ _
    refine assignInOrder_cons (bindName_ ?_)
    repeat (walk_at "me")
    show wpAny _ _ (assignInOrder (_ :: _) (_ :: _)) _ _ _
    refine assignInOrder_cons (bindName_ ?_)
    repeat (walk_at "me")
    refine assignInOrder_nil ?_
    repeat (walk_at "me")
    rename_i S7
    have ht := Nat.mod_lt one (show 0 < n by omega)
    refine ⟨one % n, ht, _, n, by omega, ?_, by walk_at "rd", .mk (by walk_at "rd") rfl, .mk (by walk_at "rd") (Int.natCast_emod ..).symm, S7⟩
    rw [← hg, Nat.gcd_comm n, ← Nat.gcd_rec, Nat.gcd_comm]
  · intro hc
    have hn : n = 0 := by simpa using hc
    subst hn
    rw [Nat.gcd_zero_right] at hg
    repeat (walk_at "me")
    have hgb : one ∣ bottom := by rw [hg]; exact Nat.gcd_dvd_right ..
    have hle : one ≤ bottom := Nat.le_of_dvd hb0 hgb
    refine o_div (6 * (a + p)) (by assumption) (by omega) (by rw [Int.natAbs_natCast]; omega) (by omega) ?_
    intro s4 t4 S4
    have e4 : (bottom : Int) / (one : Int) = ((bottom / one : Nat) : Int) := (Int.natCast_ediv ..).symm
    rw [e4]
    have hq0 : 0 < bottom / one := Nat.div_pos hle h1
    rw [hg]
    rw [hg] at hq0
    clear e4
    repeat (walk_at "me")
    rename_i S5
    refine r_while (fun n s' => ∃ (m : Str → Option Value) (twos : Nat), 0 < n ∧ bottom / Nat.gcd top bottom = 2 ^ twos * n ∧ twos + n ≤ bottom / Nat.gcd top bottom + 1 ∧ IV m (Str.ofString "below") (n : Nat) ∧ IV m (Str.ofString "twos") (twos : Nat) ∧ Sf s s.heap _ m [] s')
      ?_ (bottom / Nat.gcd top bottom) ⟨_, 0, hq0, by simp, by omega, .mk (by walk_at "rd") rfl, .mk (by walk_at "rd") rfl, S5⟩
    clear S5 m1 m2 m3
    rintro n s6 ⟨m, twos, hn0, hn2, hn3, ⟨tb, m1⟩, ⟨tw, m2⟩, S6⟩
    repeat (walk_at "me")
    refine split_bool ?_ ?_
    · intro hc
      have hn : n % 2 = 0 := by
        have : (n : Int) % 2 = 0 := by simpa using hc
        omega
      repeat (walk_at "me")
      refine o_div 10 (by assumption) (by decide) (by decide) (by decide) ?_
      intro s7 t7 S7
      repeat (walk_at "me")
      rename_i S8
      refine ⟨n / 2, by omega, _, twos + 1, by omega, ?_, by omega, .mk (by walk_at "rd") (by omega), .mk (by walk_at "rd") (by omega), S8⟩
      rw [hn2, Nat.pow_succ, Nat.mul_assoc]
      congr 1
      omega
    · intro hc
      have hn : n % 2 = 1 := by
        have : ¬ (n : Int) % 2 = 0 := by simpa using hc
        omega
      repeat (walk_at "me")
      rename_i S7
      have hex : 64 ^ p % n = 1 % n := by
        rw [hb] at hn2
        exact low_ex hp hn2 hn
      refine r_while (fun k s' => ∃ (m : Str → Option Value), k < p ∧ (∀ q, 1 ≤ q → q < p - k → 64 ^ q % n ≠ 1 % n) ∧ IV m (Str.ofString "below") (n : Nat) ∧ IV m (Str.ofString "twos") (twos : Nat) ∧ IV m (Str.ofString "step") (p - k : Nat) ∧ Sf s s.heap _ m [] s')
        ?_ (p - 1) ⟨_, by omega, fun q q1 q2 => absurd q2 (by omega), .mk (by walk_at "rd") rfl, .mk (by walk_at "rd") rfl, .mk (by walk_at "rd") (by omega), S7⟩
      clear S7 m1 m2
      rintro k s8 ⟨m, hk, hno, ⟨tb, m1⟩, ⟨tw, m2⟩, ⟨ts, m3⟩, S8⟩
      repeat (walk_at "me")
      rw [Int.toNat_natCast]
      have ec : ((64 : Int) ^ (p - k) % (n : Int) = 1 % (n : Int)) ↔ 64 ^ (p - k) % n = 1 % n := by
        rw [show (64 : Int) ^ (p - k) % (n : Int) = ((64 ^ (p - k) % n : Nat) : Int) by simp, show (1 : Int) % (n : Int) = ((1 % n : Nat) : Int) by simp]
        omega
      refine split_bool ?_ ?_
      · intro hc
        have hc' : ¬ 64 ^ (p - k) % n = 1 % n := fun q => by
          rw [ec.mpr q] at hc
          simp at hc
        have hk0 : k ≠ 0 := fun q => by
          subst q
          exact hc' hex
        repeat (walk_at "me")
        rename_i S9
        refine ⟨k - 1, by omega, _, by omega, fun q q1 q2 => ?_, .mk (by walk_at "rd") rfl, .mk (by walk_at "rd") rfl, .mk (by walk_at "rd") (by omega), S9⟩
        rcases Nat.lt_or_ge q (p - k) with c | c
        · exact hno q q1 c
        · have : q = p - k := by omega
          rw [this]
          exact hc'
      · intro hc
        have hc' : 64 ^ (p - k) % n = 1 % n := ec.mp (by simpa using hc)
        repeat (walk_at "me")
        refine o_div 10 (by assumption) (by decide) (by decide) (by decide) ?_
        intro s9 t9 S9
        repeat (walk_at "me")
        refine t_new (by assumption) (by simp) ?_
        intro x10 s10 S10
        repeat (walk_at "me")
        rw [show ((twos : Int) + 5) / 6 = (((twos + 5) / 6 : Nat) : Int) by omega] at S10
        exact h twos n (p - k) x10 _ _ _ ⟨hn2, hn, by omega, hc', hno⟩ S10.out (S10.new (.head _))
theorem Sf.calls {s s' s₀ : Shared} {h₀ : Heap} {L : Addr} {m : Str → Option Value} {news ns : List (Addr × Obj)} (S : Sf s₀ h₀ L m news s) (O : Out [] s s') (N : ∀ p ∈ ns, New s s' p.1 p.2) (D : (ns.map (·.1)).Nodup) : Sf s₀ h₀ L m (ns ++ news) s' := by
  have S' := S.call O
  refine ⟨S'.F, fun p hp => ?_, ?_, S'.g, S'.d, S'.o⟩
  · rcases List.mem_append.mp hp with hp | hp
    · have hN := N p hp
      refine ⟨hN.1, ?_, ?_⟩
      · obtain ⟨oL, _, _, hg, _⟩ := S.F.ns
        intro e
        rw [← e, hN.2] at hg
        cases hg
      · cases q : h₀.get? p.1 with
        | none => rfl
        | some o => have := S.F.keep _ _ q; rw [hN.2] at this; cases this
    · exact S'.N p hp
  · rw [List.map_append]
    refine List.nodup_append.mpr ⟨D, S.D, ?_⟩
    intro x hx y hy e
    obtain ⟨p, hp, rfl⟩ := List.mem_map.mp hx
    obtain ⟨q, hq, rfl⟩ := List.mem_map.mp hy
    have := (S.N q hq).1
    rw [← e, (N p hp).2] at this
    cases this
set_option maxHeartbeats 4000000 in
theorem parts_call {prog : Program} {w : World} {A : Around} {E : Value → Shared → Prop} {s : Shared} {Q : Value → Shared → Prop} {l : Addr} {o : Obj} {ns : List Int}
    (G : Gl (KK w) s.heap) (hl : s.heap.get? l = some o) (hi : WL o ns) (hz : ns.length ≤ 1000) (hh : A.handled = none) (hd : A.depth < recursionLimit)
    (h : ∀ t a1 a2 o1 o2 r1 r2 s', IL o1 r1 → IL o2 r2 → r1.length ≤ 3 → 1 ≤ r2.length → r2.length ≤ 6 → (∀ x ∈ r1, 0 ≤ x ∧ x < 64) → (∀ x ∈ r2, 0 ≤ x ∧ x < 64) → Out [] s s' →
      (∀ p ∈ [(t, tupOf [.ref a1, .ref a2]), (a1, o1), (a2, o2)], New s s' p.1 p.2) → ([(t, tupOf [.ref a1, .ref a2]), (a1, o1), (a2, o2)].map (·.1)).Nodup → Q (.ref t) s') :
    wpAny (model prog w) A (call (.ref 33) [.ref l]) Q E s := by
  refine enterC (binds := [(Str.ofString "script", .ref l)]) (Str.ofString "shift") G (by rfl) (by rfl) hd (by rfl) (locs rfl) (by rfl) (by rfl) ?_
  intro s1 co hco S
  repeat (walk_at "me")
  rename_i S3
  refine l_sliceL S3 (S3.old hl) hi .none (.int _ _) (fun vs hv => kmk_upto hv (by decide)) (by omega) ?_
  intro a4 ob4 s4 hob4 S4
  clear S3
  have hl4 : (ns.take (11 : Int).toNat).length ≤ 11 := by simp; omega
  generalize ns.take (11 : Int).toNat = ds at hob4 hl4
  repeat (walk_at "me")
  rename_i S5
  refine l_new S5 (.cons 2 _ (.cons 3 _ (.cons 1 _ (.cons 0 _ (.cons 0 _ (.cons 1 _ (.cons 0 _ (.cons 0 _ (.cons 2 _ (.cons 1 _ (.cons 0 _ .nil))))))))))) (by decide) ?_
  intro a6 ob6 s6 hob6 S6
  clear S5
  repeat (walk_at "me")
  rename_i S7
  refine l_slice S7 (S7.get (.head _)) hob6 (.int _ _) .none (fun vs hv => kmk_from hv (by omega)) (by decide) ?_
  intro a8 ob8 s8 hob8 S8
  clear S7
  repeat (walk_at "me")
  refine l_add S8 (S8.get (.tail _ (.tail _ (.head _)))) hob4 (S8.get (.head _)) hob8 (by simp; omega) ?_
  intro d ob9 s9 hob9 S9
  clear S8
  replace S9 := S9.sublist (news' := [(d, ob9), (s.heap.objs.size + 1, co)]) (by simp)
  have hl9 : (ds ++ [2, 3, 1, 0, 0, 1, 0, 0, 2, 1, 0].drop (ds.length : Int).toNat).length = 11 := by simp; omega
  generalize (ds ++ [2, 3, 1, 0, 0, 1, 0, 0, 2, 1, 0].drop (ds.length : Int).toNat) = xs at hob9 hl9
  repeat (walk_at "me")
  rename_i S10
  refine l_sumL hh S10 (S10.old hl) hi ?_
  intro s11 sm t11 S11
  clear S10
  repeat (walk_at "me")
  rename_i S12
  refine st_cell (pre := [_]) S12 hco (by rfl) ?_
  intro s13 co' hco' S13
  clear S12
  repeat (walk_at "me")
  refine lca (s₀ := s) (h₀ := s.heap) (cl := [(Str.ofString "shift", s.heap.objs.size + 1)]) (fun _ => true) (fun n => (21 * (n % 3) + sm % 64) % 64) (by rfl) (by rfl) (by decide) (by rfl) (by decide) (by rfl) ?_
  repeat (walk_at "me")
  rename_i S14
  refine l_slice S14 (S14.get (.head _)) hob9 (.int _ _) .none (fun vs hv => kmk_from hv (by decide)) (by omega) ?_
  intro a15 ob15 s15 hob15 S15
  clear S14
  refine ⟨a15, ob15, _, _, _, rfl, hh, S15, S15.get (.head _), hob15, by simp; omega, ⟨?_, ?_⟩, ?_⟩
  · intro C n t s₃ m₃ E' hn hns hx hk
    exact no_tests ⟨rfl, keeps_toks s₃ s₃.toks⟩
  · intro C n t s₃ m₃ E' hn _ hns hx hk
    refine wpAny_BinOp (wpAny_BinOp (wpAny_BinOp (wpAny_Constant_int ?_)))
    refine wpAny_BinOp ?_
    refine wpAny_Name (wpAny_loadName_local rfl rfl hns hx ?_) (by decide)
    refine wpAny_Constant_int ?_
    refine mod_int' (by decide) ?_
    rw [Int.fmod_eq_emod_of_nonneg _ (by decide)]
    refine P.mul_int ?_ (mulOk_of (k := 10) (l := 10) (by decide) (by omega) (by decide))
    refine wpAny_Name (wpAny_loadName_cell rfl rfl rfl ⟨co', hk _ _ (S15.get (.tail _ (.tail _ (.head _)))), hco'⟩ ?_) (by decide)
    refine PyProof.Rows.add_int ?_
    refine wpAny_Constant_int ?_
    refine mod_int' (by decide) ?_
    rw [Int.fmod_eq_emod_of_nonneg _ (by decide)]
    exact ⟨⟨_, rfl⟩, keeps_toks _ _⟩
  intro af of s16 hof S16
  clear S15
  rw [List.filter_eq_self.mpr (fun _ _ => rfl)] at hof
  have hfl : ((xs.drop (2 : Int).toNat).map fun n => (21 * (n % 3) + sm % 64) % 64).length = 9 := by simp; omega
  have hfr : ∀ x ∈ (xs.drop (2 : Int).toNat).map fun n => (21 * (n % 3) + sm % 64) % 64, 0 ≤ x ∧ x < 64 := by
    intro x hx
    obtain ⟨y, _, rfl⟩ := List.mem_map.mp hx
    omega
  generalize (xs.drop (2 : Int).toNat).map (fun n => (21 * (n % 3) + sm % 64) % 64) = fs at hof hfl hfr
  replace S16 := S16.sublist (news' := [(af, of), (d, ob9)]) (by simp)
  repeat (walk_at "me")
  rename_i S17
  have ha0 : 0 ≤ xs.getD (0 : Int).toNat 0 % 4 ∧ xs.getD (0 : Int).toNat 0 % 4 < 4 := by omega
  have hg0 : 0 ≤ xs.getD (1 : Int).toNat 0 % 6 ∧ xs.getD (1 : Int).toNat 0 % 6 < 6 := by omega
  generalize xs.getD (0 : Int).toNat 0 % 4 = ah at S17 ha0 ⊢
  generalize xs.getD (1 : Int).toNat 0 % 6 = ag at S17 hg0 ⊢
  refine l_slice S17 (S17.get (.head _)) hof .none (.int _ _) (fun vs hv => kmk_upto hv ha0.1) (by omega) ?_
  intro a1 o1 s18 ho1 S18
  clear S17
  repeat (walk_at "me")
  rename_i S19
  refine l_slice S19 (S19.get (.tail _ (.head _))) hof (.int _ _) (.int _ _) (fun vs hv => kmk_run hv ha0.1 (by omega)) (by omega) ?_
  intro a2 o2 s20 ho2 S20
  clear S19
  repeat (walk_at "me")
  refine t_new S20 (by simp) ?_
  intro tt s21 S21
  replace S21 := S21.sublist (news' := [(tt, tupOf [.ref a1, .ref a2]), (a2, o2), (a1, o1)]) (by simp)
  replace S21 := S21.perm (.cons _ (.swap _ _ _))
  repeat (walk_at "me")
  refine h tt a1 a2 o1 o2 _ _ _ ho1 ho2 ?_ ?_ ?_ ?_ ?_ S21.out (fun p hp => S21.new hp) S21.D
  · simp only [List.length_take]; omega
  · simp only [List.length_take, List.length_drop]; omega
  · simp only [List.length_take, List.length_drop]; omega
  · exact fun x hx => hfr x (List.mem_of_mem_take hx)
  · exact fun x hx => hfr x (List.mem_of_mem_drop (List.mem_of_mem_take hx))
theorem flat_len {r : List Int} : ∀ k, (List.replicate k r).flatten.length = k * r.length
  | 0 => by simp
  | k + 1 => by simp [List.replicate_succ]; rw [Nat.add_mul]; omega
theorem flat_at {r : List Int} : ∀ k j, j < k * r.length → (List.replicate k r).flatten.getD j 0 = r.getD (j % r.length) 0
  | 0, j, h => absurd h (by omega)
  | k + 1, j, h => by
    rw [List.replicate_succ, List.flatten_cons]
    simp only [List.getD_eq_getElem?_getD]
    rcases Nat.lt_or_ge j r.length with c | c
    · rw [List.getElem?_append_left c, Nat.mod_eq_of_lt c]
    · rw [List.getElem?_append_right c]
      have := flat_at (r := r) k (j - r.length) (by rw [Nat.add_mul] at h; omega)
      simp only [List.getD_eq_getElem?_getD] at this
      rw [this, ← Nat.mod_eq_sub_mod c]
/-- the endless row -/
def word (r1 r2 : List Int) (i : Nat) : Int := if i < r1.length then r1.getD i 0 else r2.getD ((i - r1.length) % r2.length) 0
def rowOf (r1 r2 : List Int) (n : Nat) : List Int := (r1 ++ (List.replicate n r2).flatten).take n
theorem getD_rng {r : List Int} (hr : ∀ x ∈ r, 0 ≤ x ∧ x < 64) (j : Nat) : 0 ≤ r.getD j 0 ∧ r.getD j 0 < 64 := fig_rng hr j
theorem word_rng {r1 r2 : List Int} (h1 : ∀ x ∈ r1, 0 ≤ x ∧ x < 64) (h2 : ∀ x ∈ r2, 0 ≤ x ∧ x < 64) (j : Nat) : 0 ≤ word r1 r2 j ∧ word r1 r2 j < 64 := by
  unfold word
  split
  · exact getD_rng h1 _
  · exact getD_rng h2 _
theorem word_per (r1 r2 : List Int) : PerI (word r1 r2) r1.length r2.length := by
  intro i hi
  unfold word
  rw [if_neg (by omega), if_neg (by omega), show i + r2.length - r1.length = (i - r1.length) + r2.length by omega, Nat.add_mod_right]
theorem row_len {r1 r2 : List Int} {n : Nat} (hp : 1 ≤ r2.length) : (rowOf r1 r2 n).length = n := by
  unfold rowOf
  rw [List.length_take, List.length_append, flat_len]
  have := Nat.le_mul_of_pos_right n hp
  omega
theorem row_at {r1 r2 : List Int} {n i : Nat} (hp : 1 ≤ r2.length) (hi : i < n) : (rowOf r1 r2 n).getD i 0 = word r1 r2 i := by
  unfold rowOf word
  have hn := Nat.le_mul_of_pos_right n hp
  simp only [List.getD_eq_getElem?_getD]
  rw [List.getElem?_take, if_pos hi]
  split
  · rename_i c
    rw [List.getElem?_append_left c]
  · rename_i c
    rw [List.getElem?_append_right (by omega)]
    have := flat_at (r := r2) n (i - r1.length) (by omega)
    simp only [List.getD_eq_getElem?_getD] at this
    exact this
theorem row_rng {r1 r2 : List Int} {n : Nat} (h1 : ∀ x ∈ r1, 0 ≤ x ∧ x < 64) (h2 : ∀ x ∈ r2, 0 ≤ x ∧ x < 64) : ∀ x ∈ rowOf r1 r2 n, 0 ≤ x ∧ x < 64 := by
  intro x hx
  rcases List.mem_append.mp (List.mem_of_mem_take hx) with h | h
  · exact h1 x h
  · obtain ⟨l, hl, hxl⟩ := List.mem_flatten.mp h
    rw [(List.mem_replicate.mp hl).2] at hxl
    exact h2 x hxl
theorem val_ahead {r1 r2 : List Int} : val (fun j => r1.getD j 0) 0 r1.length = val (word r1 r2) 0 r1.length := by
  refine val_congr fun j hj => ?_
  unfold word
  rw [if_pos (by omega)]
theorem val_again {r1 r2 : List Int} : val (fun j => r2.getD j 0) 0 r2.length = val (word r1 r2) r1.length r2.length := by
  refine val_congr fun j hj => ?_
  unfold word
  rw [if_neg (by omega), show r1.length + j - r1.length = j by omega, Nat.mod_eq_of_lt hj, Nat.zero_add]
theorem val_take {r1 r2 : List Int} {n k : Nat} (hp : 1 ≤ r2.length) (hk : k ≤ n) : val (fun j => ((rowOf r1 r2 n).take k).getD j 0) 0 k = val (word r1 r2) 0 k := by
  refine val_congr fun j hj => ?_
  rw [← row_at hp (show 0 + j < n by omega)]
  simp only [List.getD_eq_getElem?_getD]
  rw [List.getElem?_take, if_pos (by omega)]
theorem val_run {r1 r2 : List Int} {n b k : Nat} (hp : 1 ≤ r2.length) (hk : b + k ≤ n) : val (fun j => (((rowOf r1 r2 n).drop b).take k).getD j 0) 0 k = val (word r1 r2) b k := by
  refine val_congr fun j hj => ?_
  rw [← row_at hp (show b + j < n by omega)]
  simp only [List.getD_eq_getElem?_getD]
  rw [List.getElem?_take, if_pos (by omega), List.getElem?_drop, Nat.zero_add]
theorem least_lp {f : Nat → Int} (hf : ∀ j, 0 ≤ f j ∧ f j < 64) {n r : Nat} (h1 : 1 ≤ r) (hr : r ≤ n) (h : LeastOk (val f 0 n) n r ∨ r = n) (hno : ∀ q : Nat, 1 ≤ q → q < r → ¬ LeastOk (val f 0 n) n q) : LP f n r := by
  refine ⟨h1, hr, ?_, fun q q1 q2 hq => hno q q1 q2 ((least_iff hf (by omega)).mpr hq)⟩
  rcases h with h | h
  · exact (least_iff hf hr).mp h
  · exact fun j hj => absurd hj (by omega)
theorem Per.shift {f g : Nat → Int} {n p : Nat} {c : Int} (h : Per f n p) (e : ∀ j, j < n → g j = f j + c) : Per g n p := fun j hj => by
  rw [e j (by omega), e (j + p) hj, h j hj]
theorem LP.shift {f g : Nat → Int} {n p : Nat} {c : Int} (h : LP f n p) (e : ∀ j, j < n → g j = f j + c) : LP g n p :=
  ⟨h.pos, h.le, h.per.shift e, fun q h1 h2 hq => h.least q h1 h2 (hq.shift (c := -c) fun j hj => by rw [e j hj]; omega)⟩
theorem tbl_take {f g : Nat → Int} {n k : Nat} {T T' : List Int} {c : Int} (h : Tbl f n T) (hT : T.length = n) (h' : Tbl g k T') (hT' : T'.length = k) (hk : k ≤ n) (e : ∀ j, j < k → g j = f j + c) : T' = T.take k := by
  apply List.ext_getElem
  · simp; omega
  intro i i1 i2
  obtain ⟨p, hp, ep⟩ := h i (by omega)
  obtain ⟨q, hq, eq⟩ := h' i (by omega)
  have := hq.uniq (hp.shift fun j hj => e j (by omega))
  subst this
  have a1 : T'.getD i 0 = T'[i] := by simp [i1]
  have a2 : T.getD i 0 = (T.take k)[i] := by
    have : i < T.length := by omega
    simp [this]
  rw [← a1, ← a2, ep, eq]
theorem tail_ex {F g : Nat → Int} {T : List Int} {n a p : Nat} {c : Int} (hP : PerI F a p) (hp : 1 ≤ p) (hn : n = 2 * (a + p)) (hg : ∀ j, j < n → g j = F (n - 1 - j) + c) (hT : Tbl g n T) : ∃ k : Nat, 1 ≤ k ∧ k ≤ n ∧ 2 * ((k : Int) - T.getD (k - 1) 0) ≤ k := by
  refine ⟨n - a, by omega, by omega, ?_⟩
  obtain ⟨q, h1, h2⟩ := hT (n - a - 1) (by omega)
  rw [show n - a - 1 + 1 = n - a by omega] at h1
  have : q ≤ p := by
    rcases Nat.lt_or_ge p q with z | z
    · refine absurd ((per_rev hg (by omega)).mpr ?_) (h1.least p hp z)
      rw [show n - (n - a) = a by omega]
      exact hP.toS
    · exact z
  rw [h2]
  omega
theorem valL_congr {A B : List Int} {i i' : Nat} : ∀ {k : Nat}, (∀ j, j < k → A.getD (i + j) 0 = B.getD (i' + j) 0) → valL A i k = valL B i' k
  | 0, _ => rfl
  | k + 1, h => by
    simp only [valL]
    rw [valL_congr (fun j hj => h j (by omega)), h k (by omega)]
theorem getD_left {A B : List Int} {j : Nat} (h : j < A.length) : (A ++ B).getD j 0 = A.getD j 0 := by
  simp only [List.getD_eq_getElem?_getD]
  rw [List.getElem?_append_left h]
theorem getD_right {A B : List Int} {j : Nat} : (A ++ B).getD (A.length + j) 0 = B.getD j 0 := by
  simp only [List.getD_eq_getElem?_getD]
  rw [List.getElem?_append_right (by omega), Nat.add_sub_cancel_left]
section
variable {prog : Program} {w : World} {A : Around} {E : Value → Shared → Prop} {s s₀ : Shared} {h₀ : Heap} {m : Str → Option Value} {news : List (Addr × Obj)} {L : Addr} {env : Env}
theorem un_tup {elts : List Expr} {k} {pos : Pos} {t : Addr} {items : Array Value} {Q : Unit → Shared → Prop} (S : Sf s₀ h₀ L m news s) (ht : IsTup s.heap t items) (hh : A.handled = none) (hn : (assignEach elts env).length = items.size) (hstar : (assignEach elts env).findIdx? (·.1) = none)
    (h : ∀ s', Sf s₀ h₀ L m news s' → wpAny (model prog w) A (assignInOrder ((assignEach elts env).map (·.2)) items.toList) Q E s') :
    wpAny (model prog w) A (assign (.Tuple elts k pos) env (.ref t)) Q E s :=
  unpackN_ S.F S.N ht hh hn hstar fun h' F' N' => h _ ⟨F', N', S.D, S.g, S.d, S.o⟩
theorem eqT_same {l₁ l₂ : Addr} {a b : Int} {t1 t2 t3 t4 : Tok} {Q : Value → Shared → Prop} (hu : A.units < cLine) (g1 : s.heap.IsTuple l₁ #[.int a t1, .int b t2]) (g2 : s.heap.IsTuple l₂ #[.int a t3, .int b t4]) (h : Q (.bool true) s) :
    wpAny (model prog w) A (compareOp .Eq (.ref l₁) (.ref l₂)) Q E s := by
  refine SeqAt.RcAt.tuples (items := #[.int a t1, .int b t2]) (items2 := #[.int a t3, .int b t4]) (e := fun _ => true) g1 g2 hu (fun j h1 h2 => ?_) prog w E Q (by rw [allT]; exact h)
  match j, h1 with
  | 0, _ => simpa using SeqAt.EqAt.int_int (A := A.in1) (s := s) a t1 a t3
  | 1, _ => simpa using SeqAt.EqAt.int_int (A := A.in1) (s := s) b t2 b t4
end
theorem num_lt {F : Nat → Int} (hf : ∀ j, 0 ≤ F j ∧ F j < 64) (s q : Nat) : num F s q < 64 ^ (s + q) := by
  unfold num
  have := (val_lt hf 0 s).1
  have := (val_lt hf 0 (s + q)).2
  omega
theorem m64_nat (k : Nat) : ((64 : Int) ^ k - 1).natAbs < 2 ^ (6 * k + 1) := by
  have h1 := p64_pos k
  have h2 := p64_nat k
  omega
set_option maxHeartbeats 8000000 in
theorem law_walk {prog : Program} {w : World} {s s1 : Shared} {Q : Flow → Shared → Prop} {fa l : Addr} {cdv : Value} {o co : Obj} {ns : List Int} {m₀ : Str → Option Value}
    (G : Gl (KK w) s.heap) (hl : s.heap.get? l = some o) (hi : WL o ns) (hz : ns.length ≤ 1000) (hco : co.data = .cell none) (hm : m₀ (Str.ofString "script") = some (.ref l))
    (S : Sf s s.heap (envOfC (Str.ofString "law") (scopeIn (KK w) 73) s.heap.objs.size fa cdv).locals m₀ [(s.heap.objs.size + 1, co)] s1)
    (h : ∀ m' news' s', Sf s s.heap s.heap.objs.size m' news' s' → Q (.ret (.bool true)) s') :
    wpAny (model prog w) (callerA.deeper (envOfC (Str.ofString "law") (scopeIn (KK w) 73) s.heap.objs.size fa cdv)) (execs (bodyIn (KK w) 73) (envOfC (Str.ofString "law") (scopeIn (KK w) 73) s.heap.objs.size fa cdv)) Q NoE s1 := by
  have hA : ∃ envL : Env, (callerA.deeper (envOfC (Str.ofString "law") (scopeIn (KK w) 73) s.heap.objs.size fa cdv)).frames = some [envL] ∧ envL.frame = some s.heap.objs.size ∧ envL.scope.kind ≠ .module := ⟨_, rfl, rfl, by show ScopeKind.function ≠ ScopeKind.module; decide⟩
  have hh : (callerA.deeper (envOfC (Str.ofString "law") (scopeIn (KK w) 73) s.heap.objs.size fa cdv)).handled = none := rfl
  have hd : (callerA.deeper (envOfC (Str.ofString "law") (scopeIn (KK w) 73) s.heap.objs.size fa cdv)).depth + 3 < recursionLimit := of_decide_eq_true (by with_unfolding_all rfl)
  have hu : (callerA.deeper (envOfC (Str.ofString "law") (scopeIn (KK w) 73) s.heap.objs.size fa cdv)).units + 100 < cLine := of_decide_eq_true (by with_unfolding_all rfl)
  generalize callerA.deeper (envOfC (Str.ofString "law") (scopeIn (KK w) 73) s.heap.objs.size fa cdv) = A at hA hh hd hu
  obtain ⟨envL, hA, hAf, hAk⟩ := hA
  show wpAny _ _ (execs (_ :: _) (envOfC _ ⟨_, _, _, _, _⟩ _ _ _)) _ _ _
  refine to_env S ?_
  clear S
  intro S
  refine wpAny_execs_cons ?_
  refine Assign_Tuple ?_
  repeat (walk_at "me")
  refine ⟨(S.gl G).inn, ?_⟩
  refine parts_call (S.gl G) (S.old hl) hi hz hh (by omega) ?_
  intro tt a1 a2 o1 o2 r1 r2 s2 ho1 ho2 hl1 hl2 hl3 hr1 hr2 O2 N2 D2
  replace S := S.calls O2 N2 D2
  replace S : Sf s s.heap _ m₀ [(tt, tupOf [.ref a1, .ref a2]), (a1, o1), (a2, o2), (s.heap.objs.size + 1, co)] s2 := S
  clear O2 N2 D2
  refine un_tup S ⟨_, S.get (.head _), rfl, _, rfl⟩ hh (by rfl) (by rfl) ?_
  intro s3 S3
  clear S
  replace S3 := S3.tail
  show wpAny _ _ (assignInOrder (_ :: _) (_ :: _)) _ _ _
  refine assignInOrder_cons (assign_Name ?_)
  repeat (walk_at "me")
  show wpAny _ _ (assignInOrder (_ :: _) (_ :: _)) _ _ _
  refine assignInOrder_cons (assign_Name ?_)
  repeat (walk_at "me")
  refine assignInOrder_nil ?_
  repeat (walk_at "me")
  rename_i S4
  refine o_mul 10 10 S4 (by decide) (by omega) (by decide) ?_
  intro s5 t5 S5
  clear S4
  obtain ⟨n, hn⟩ : ∃ n, n = 2 * (r1.length + r2.length) := ⟨_, rfl⟩
  rw [show (2 : Int) * ((r1.length : Int) + (r2.length : Int)) = (n : Int) by omega]
  repeat (walk_at "me")
  rename_i S6
  refine l_mul S6 (S6.get (.tail _ (.head _))) ho2 (by omega) (by omega) ?_ ?_
  · have : r2.length * n ≤ 6 * 18 := Nat.mul_le_mul hl3 (by omega)
    simpa using (by omega : r2.length * n ≤ 256)
  intro a7 o7 s7 ho7 S7
  clear S6
  rw [Int.toNat_natCast] at ho7
  have hfl := flat_len (r := r2) n
  have hrn : n * r2.length ≤ 18 * 6 := Nat.mul_le_mul (by omega) hl3
  refine l_add S7 (S7.get (.tail _ (.head _))) ho1 (S7.get (.head _)) ho7 (by omega) ?_
  intro a8 o8 s8 ho8 S8
  clear S7
  repeat (walk_at "me")
  refine l_slice S8 (S8.get (.head _)) ho8 .none (.int _ _) (fun vs hv => kmk_upto hv (by omega)) (by rw [List.length_append]; omega) ?_
  intro ar obr s9 hobr S9
  clear S8
  rw [Int.toNat_natCast] at hobr
  replace hobr : IL obr (rowOf r1 r2 n) := hobr
  replace S9 := S9.sublist (news' := [(ar, obr), (a1, o1), (a2, o2), (s.heap.objs.size + 1, co)]) (by simp)
  have hrl := row_len (r1 := r1) (r2 := r2) (n := n) hl2
  have hrr := row_rng (n := n) hr1 hr2
  have hf := word_rng hr1 hr2
  have hP := word_per r1 r2
  repeat (walk_at "me")
  rename_i S10
  refine l_new S10 .nil (by decide) ?_
  intro ad od s11 hod S11
  clear S10
  repeat (walk_at "me")
  rename_i r' s' t' u' v' hr' S'
  refine for_range n (fun k m news => m (Str.ofString "row") = some (.ref ar) ∧ IV m (Str.ofString "size") n ∧ m (Str.ofString "ahead") = some (.ref a1) ∧ m (Str.ofString "again") = some (.ref a2) ∧ m (Str.ofString "due") = some (.ref ad) ∧
      ∃ od T, news = [(ad, od), (ar, obr), (a1, o1), (a2, o2), (s.heap.objs.size + 1, co)] ∧ IL od T ∧ T.length = k ∧ Tbl (word r1 r2) k T)
    hh S' hr' (.inl (by omega)) (by omega) (by omega) (by omega) (by omega)
    ⟨by walk_at "rd", .mk (by walk_at "rd") rfl, by walk_at "rd", by walk_at "rd", by walk_at "rd", od, [], rfl, hod, rfl, fun i hi => absurd hi (by omega)⟩ ?_ ?_
  · clear S' hod od
    rintro k tk m₁ news₁ it oi s3 hlt ⟨h1, ⟨ts, h2⟩, h3, h4, h5, od, T, rfl, hod, hTl, hT⟩ S3
    rw [show (1 : Int) + (k : Nat) = ((k + 1 : Nat) : Int) by omega] at S3
    repeat (walk_at "me")
    refine l_slice S3 (S3.get (by walk_at "mem")) hobr .none (.int _ _) (fun vs hv => kmk_upto hv (by omega)) (by omega) ?_
    intro a4 o4 s4 ho4 S4
    clear S3
    rw [Int.toNat_natCast] at ho4
    have hl4 : ((rowOf r1 r2 n).take (k + 1)).length = k + 1 := by rw [List.length_take]; omega
    have hr4 : ∀ x ∈ (rowOf r1 r2 n).take (k + 1), 0 ≤ x ∧ x < 64 := fun x hx => hrr x (List.mem_of_mem_take hx)
    have hv4 := val_take (r1 := r1) (n := n) (k := k + 1) hl2 (by omega)
    repeat (walk_at "me")
    refine o_div 10 (by assumption) (by decide) (by decide) (by decide) ?_
    intro s5 t5 S5
    repeat (walk_at "me")
    refine ⟨(S5.gl G).inn, ?_⟩
    refine octets_call (S5.gl G) (S5.get (.head _)) ho4 (by omega) (by omega) (by omega) hh (by omega) ?_
    intro ao oo s6 hoo O6 N6
    have S6 := S5.call1 O6 N6
    clear S5 O6 N6
    repeat (walk_at "me")
    refine i_iter S6 (S6.get (.head _)) hoo ?_
    intro ip op s7 hop S7
    clear S6
    have hne : ao ≠ ip := fun q => (List.nodup_cons.mp S7.D).1 (by simp [← q])
    repeat (walk_at "me")
    refine ⟨(S7.gl G).inn, ?_⟩
    refine parse_ok (k := k) (S7.glW G) (S7.get (.head _)) hop ((Heap.hide_ne _ hne).trans (S7.get (.tail _ (.head _)))) hoo (octs_rng hr4 _) (by rw [octs_len]; omega) (by rw [octs_len]; omega) ?_ ?_ (by omega) ?_
    · intro j hj
      rw [Nat.zero_add]
      exact oct_more hr4 (by omega)
    · rw [Nat.zero_add]
      exact oct_last hr4 (by omega)
    intro t8 op8 s8 hop8 hx8 O8
    have S8 := (S7.callW O8 hx8).tail.tail.tail
    clear S7 O8 hx8 hop8
    rw [oct_val hr4 (by omega)]
    have ev : val (fig ((rowOf r1 r2 n).take (k + 1))) 0 (k + 1) = val (word r1 r2) 0 (k + 1) := hv4
    rw [ev]
    repeat (walk_at "me")
    rename_i S9
    refine l_slice S9 (S9.get (by walk_at "mem")) hobr .none (.int _ _) (fun vs hv => kmk_upto hv (by omega)) (by omega) ?_
    intro a10 o10 s10 ho10 S10
    clear S9
    rw [Int.toNat_natCast] at ho10
    repeat (walk_at "me")
    refine ⟨(S10.gl G).inn, ?_⟩
    refine number_call (S10.gl G) (S10.get (.head _)) ho10 (by omega) hr4 hh (by omega) ?_
    intro t11 s11 O11
    have S11 := (S10.call O11).tail
    clear S10 O11
    rw [hl4, hv4]
    repeat (walk_at "me")
    rw [if_neg (by simp)]
    repeat (walk_at "me")
    refine ⟨(S11.gl G).inn, ?_⟩
    have hw := val_lt hf 0 (k + 1)
    refine least_call (S11.gl G) hw.1 hw.2 (by omega) (by omega) hh (by omega) ?_
    intro rr tr s12 q1 q2 q3 q4 O12
    have S12 := S11.call O12
    clear S11 O12
    have hlp : LP (word r1 r2) (k + 1) rr := least_lp hf q1 q2 q3 q4
    repeat (walk_at "me")
    refine l_append (pre := [_]) (by assumption) hod (by omega) ?_
    intro od13 s13 hod13 S13
    repeat (walk_at "me")
    refine ⟨_, _, ⟨by walk_at "rd", .mk (by walk_at "rd") rfl, by walk_at "rd", by walk_at "rd", by walk_at "rd", od13, _, rfl, hod13, by simp [hTl], ?_⟩, S13⟩
    intro i hi
    rcases Nat.lt_or_ge i k with c | c
    · obtain ⟨p, hp, ep⟩ := hT i c
      refine ⟨p, hp, ?_⟩
      rw [← ep]
      simp only [List.getD_eq_getElem?_getD]
      rw [List.getElem?_append_left (by omega)]
    · have : i = k := by omega
      subst this
      refine ⟨rr, hlp, ?_⟩
      simp only [List.getD_eq_getElem?_getD]
      rw [List.getElem?_append_right (by omega), hTl, Nat.sub_self]
      simp
  · clear S' hod od
    rintro m₁ news₁ s3 ⟨h1, ⟨ts, h2⟩, h3, h4, h5, od, T, rfl, hod, hTl, hT⟩ S3
    refine wpAny_execs_cons ?_
    refine lca (s₀ := s) (h₀ := s.heap) (cl := []) (fun _ => true) (fun n => n + 1000) (by rfl) (by rfl) (by decide) (by rfl) (by decide) (by rfl) ?_
    repeat (walk_at "me")
    refine ⟨ar, obr, rowOf r1 r2 n, _, _, rfl, hh, S3, S3.get (by walk_at "mem"), hobr, by omega, ⟨?_, ?_⟩, ?_⟩
    · intro C n t s₃ m₃ E' hn hns hx hk
      exact no_tests ⟨rfl, keeps_toks s₃ s₃.toks⟩
    · intro C n t s₃ m₃ E' hn _ hns hx hk
      refine wpAny_BinOp ?_
      refine wpAny_Name (wpAny_loadName_local rfl rfl hns hx ?_) (by decide)
      refine wpAny_Constant_int ?_
      refine PyProof.Rows.add_int ?_
      exact ⟨⟨_, rfl⟩, keeps_toks _ _⟩
    intro af of s4 hof S4
    clear S3
    rw [List.filter_eq_self.mpr (fun _ _ => rfl)] at hof
    have hfl4 : ((rowOf r1 r2 n).map (fun n => n + 1000)).length = n := by rw [List.length_map]; exact hrl
    have hfa : ∀ j, j < n → ((rowOf r1 r2 n).map (fun n => n + 1000)).getD j 0 = word r1 r2 j + 1000 := by
      intro j hj
      rw [← row_at hl2 hj]
      have : j < (rowOf r1 r2 n).length := by omega
      simp [this]
    repeat (walk_at "me")
    refine ⟨(S4.gl G).inn, ?_⟩
    refine overlap_call (S4.gl G) (S4.get (.head _)) hof (by omega) hh (by omega) ?_
    intro at5 ot5 T5 s5 hot5 hT5l hT5 O5 N5
    have S5 := S4.call1 O5 N5
    clear S4 O5 N5
    rw [hfl4] at hT5l hT5
    have eT : T5 = T := by
      rw [tbl_take (c := 1000) hT hTl hT5 hT5l (Nat.le_refl _) hfa, List.take_of_length_le (by omega)]
    subst eT
    repeat (walk_at "me")
    rename_i S6
    refine ne_same (by omega) (S6.get (by walk_at "mem")) hot5 (S6.get (by walk_at "mem")) hod ?_
    repeat (walk_at "me")
    rw [if_neg (by decide)]
    repeat (walk_at "me")
    refine lc (s₀ := s) (h₀ := s.heap) (cl := []) (by rfl) (by decide) (by rfl) (by decide) (by rfl) ?_
    repeat (walk_at "me")
    refine ⟨ar, obr, rowOf r1 r2 n, _, _, fun _ => true, fun n => n + 1000, rfl, hh, S6, S6.get (by walk_at "mem"), hobr, by omega, ⟨?_, ?_⟩, ?_⟩
    · intro C n t s₃ m₃ E' hn hns hx hk
      exact no_tests ⟨rfl, keeps_toks s₃ s₃.toks⟩
    · intro C n t s₃ m₃ E' hn _ hns hx hk
      refine wpAny_BinOp ?_
      refine wpAny_Name (wpAny_loadName_local rfl rfl hns hx ?_) (by decide)
      refine wpAny_Constant_int ?_
      refine PyProof.Rows.add_int ?_
      exact ⟨⟨_, rfl⟩, keeps_toks _ _⟩
    intro a7 o7 s7 ho7 S7
    clear S6
    rw [List.filter_eq_self.mpr (fun _ _ => rfl)] at ho7
    refine ne_same (by omega) (S7.get (by walk_at "mem")) hof (S7.get (.head _)) ho7 ?_
    replace S7 := S7.tail
    repeat (walk_at "me")
    rw [if_neg (by decide)]
    repeat (walk_at "me")
    rw [if_neg (by decide)]
    repeat (walk_at "me")
    refine lc (s₀ := s) (h₀ := s.heap) (cl := []) (by rfl) (by decide) (by rfl) (by decide) (by rfl) ?_
    repeat (walk_at "me")
    refine ⟨at5, ot5, T5, _, _, fun _ => false, fun n => n, rfl, hh, S7, S7.get (.head _), hot5, by omega, ⟨?_, ?_⟩, ?_⟩
    · intro C n t s₃ m₃ E' hn hns hx hk
      have G3 : Gl (KK w) s₃.heap := (S7.gl G).keeps hk
      refine one_test ?_
      refine isTrue_or (isTrue_plain ?_)
      refine call_bG G3 (n_isinstance w) b_isinstance ?_
      refine spliced_more ?_
      refine wpAny_Name (wpAny_loadName_local rfl rfl hns hx ?_) (by decide)
      refine spliced_more ?_
      refine nm_builtinG G3 (n_bool w) b_bool ?_
      refine spliced_none ?_
      refine IsiPair.int_bool ?_
      refine wpAny_truthy_bool ?_
      rw [if_neg (by decide)]
      refine isTrue_or (isTrue_not (isTrue_plain ?_))
      refine call_bG (s := { s₃ with toks := s₃.toks + 1 }) G3 (n_isinstance w) b_isinstance ?_
      refine spliced_more ?_
      refine wpAny_Name (wpAny_loadName_local (s := { s₃ with toks := s₃.toks + 1 }) rfl rfl hns hx ?_) (by decide)
      refine spliced_more ?_
      refine nm_builtinG (s := { s₃ with toks := s₃.toks + 1 }) G3 (n_int w) b_int ?_
      refine spliced_none ?_
      refine IsiPair.int_int ?_
      refine wpAny_truthy_bool ?_
      rw [if_neg (by decide)]
      refine isTrue_or_nil ?_
      exact ⟨rfl, keeps_toks _ _⟩
    · intro C n t s₃ m₃ E' hn hp
      exact absurd hp (by decide)
    intro a8 o8 s8 ho8 S8
    clear S7
    rw [List.filter_eq_nil_iff.mpr (fun _ _ => by decide), List.map_nil] at ho8
    repeat (walk_at "me")
    refine l_new S8 .nil (by decide) ?_
    intro a9 o9 s9 ho9 S9
    clear S8
    refine ne_same (by omega) (S9.get (by walk_at "mem")) ho8 (S9.get (.head _)) ho9 ?_
    replace S9 := (S9.tail.tail.tail.perm (List.Perm.swap ..)).tail
    repeat (walk_at "me")
    rw [if_neg (by decide)]
    repeat (walk_at "me")
    rename_i S10
    refine l_rev S10 (S10.get (.head _)) hof (by omega) ?_
    intro av ov s11 hov S11
    clear S10
    repeat (walk_at "me")
    refine ⟨(S11.gl G).inn, ?_⟩
    refine overlap_call (S11.gl G) (S11.get (.head _)) hov (by rw [List.length_reverse]; omega) hh (by omega) ?_
    intro ab ob B s12 hob hBl hB O12 N12
    have S12 := (((S11.call1 O12 N12).perm (List.Perm.swap ..)).tail.perm (List.Perm.swap ..)).tail
    clear S11 O12 N12
    rw [List.length_reverse, hfl4] at hBl hB
    have hg : ∀ j, j < n → ((rowOf r1 r2 n).map (fun n => n + 1000)).reverse.getD j 0 = word r1 r2 (n - 1 - j) + 1000 := by
      intro j hj
      rw [← hfa (n - 1 - j) (by omega)]
      have hl' : ((rowOf r1 r2 n).map (fun n => n + 1000)).length = n := hfl4
      simp only [List.getD_eq_getElem?_getD]
      rw [List.getElem?_reverse (by omega), hl']
    refine st_cell (pre := [_, _, _, _]) S12 hco (by rfl) ?_
    intro s13 co13 hco13 S13
    clear S12
    replace S13 : Sf s s.heap _ _ [(ab, ob), (ar, obr), (a1, o1), (a2, o2), (s.heap.objs.size + 1, co13)] s13 := S13
    repeat (walk_at "me")
    refine lcr (s₀ := s) (h₀ := s.heap) (cl := [(Str.ofString "back", s.heap.objs.size + 1)]) (by rfl) (by decide) (by rfl) (by decide) (by rfl) ?_
    repeat (walk_at "me")
    rename_i r' s' t' u' v' hr' S14
    refine ⟨r', _, _, _, _, _, n, _, _, fun k => decide (2 * (k - B.getD (k - 1).toNat 0) ≤ k), fun k => k, rfl, hh, S14, hr', by omega, by omega, by omega, ⟨?_, ?_⟩, ?_⟩
    · intro C k t s₃ m₃ E' hn hns hx hk
      obtain ⟨j, hj, rfl⟩ := List.mem_map.mp hn
      have hj' := List.mem_range.mp hj
      refine one_test ?_
      have hgb : s₃.heap.get? ab = some ob := hk _ _ (S14.get (.head _))
      obtain ⟨q, hq, eq⟩ := hB j hj'
      have hqle := hq.le
      have hqp := hq.pos
      refine wpAny_isTrue_Compare1 ?_
      refine wpAny_BinOp (wpAny_Constant_int ?_)
      refine wpAny_BinOp ?_
      refine wpAny_Name (wpAny_loadName_local rfl rfl hns hx ?_) (by decide)
      refine Subscript_ ?_
      refine wpAny_Name (wpAny_loadName_cell rfl rfl rfl ⟨co13, hk _ _ (S14.get (by walk_at "mem")), hco13⟩ ?_) (by decide)
      refine wpAny_BinOp ?_
      refine wpAny_Name (wpAny_loadName_local rfl rfl hns hx ?_) (by decide)
      refine wpAny_Constant_int ?_
      refine PyProof.Rows.sub_int ?_
      refine l_item hgb hob (by omega) (by omega) (by omega) ?_
      intro tq
      refine PyProof.Rows.sub_int ?_
      refine P.mul_int ?_ (mulOk_of (k := 10) (l := 10) (by decide) ?_ (by decide))
      · refine wpAny_Name (wpAny_loadName_local rfl rfl hns hx ?_) (by decide)
        refine PySem.P.le_int ?_
        refine wpAny_truthy_bool ?_
        exact ⟨rfl, keeps_toks _ _⟩
      · rw [show ((1 : Int) + (j : Int) - 1).toNat = j by omega, eq]
        omega
    · intro C k t s₃ m₃ E' hn _ hns hx hk
      refine wpAny_Name (wpAny_loadName_local rfl rfl hns hx ?_) (by decide)
      exact ⟨⟨_, rfl⟩, keeps_toks _ _⟩
    intro a15 o15 s15 ho15 S15
    clear S14
    rw [List.map_id'] at ho15
    repeat (walk_at "me")
    refine l_maxi hh S15 (S15.get (.head _)) ho15 ?_ ?_
    · obtain ⟨k, k1, k2, k3⟩ := tail_ex hP hl2 hn hg hB
      refine List.length_pos_of_mem (a := (k : Int)) (List.mem_filter.mpr ⟨List.mem_map.mpr ⟨k - 1, List.mem_range.mpr (by omega), by omega⟩, decide_eq_true ?_⟩)
      rw [show ((k : Int) - 1).toNat = k - 1 by omega]
      exact k3
    intro s16 M tM S16 hM hMx
    replace S16 := S16.tail
    clear S15
    obtain ⟨hM1, hM2⟩ := List.mem_filter.mp hM
    obtain ⟨j, hj, rfl⟩ := List.mem_map.mp hM1
    have hj' := List.mem_range.mp hj
    have hq := of_decide_eq_true hM2
    have ej : ((1 : Int) + (j : Int) - 1).toNat = j := by omega
    rw [ej] at hq
    obtain ⟨sg, esg, sg1, hsa, hs2, hS, hmin, hmax⟩ := tail_ok (t := j + 1) hP hl2 hn hg hB (by omega) (by omega) (by rw [Nat.add_sub_cancel]; omega) (fun k k1 k2 k3 => by
      have := hMx (k : Int) (List.mem_filter.mpr ⟨List.mem_map.mpr ⟨k - 1, List.mem_range.mpr (by omega), by omega⟩, decide_eq_true (by rw [show ((k : Int) - 1).toNat = k - 1 by omega]; exact k3)⟩)
      omega)
    rw [Nat.add_sub_cancel] at esg
    have hI : PerI (word r1 r2) (n - (j + 1)) sg := suffix_per hP hl2 hn hsa hs2 hS
    have hdv := sg_dvd (n := n) hP hl2 hsa sg1 hI hmin
    have hfr := frac_eq hI hsa hdv
    obtain ⟨st, hst⟩ : ∃ st, st = n - (j + 1) := ⟨_, rfl⟩
    rw [← hst] at hsa hs2 hS hmin hmax hI hfr
    repeat (walk_at "me")
    rename_i S17
    rw [show (n : Int) - (1 + (j : Int)) = (st : Int) by omega] at S17
    refine nm_cell (S17.get (by walk_at "mem")) hco13 (by rfl) ?_
    repeat (walk_at "me")
    rename_i S18
    rw [ej, show (1 : Int) + (j : Int) - B.getD j 0 = (sg : Int) by omega] at S18
    repeat (walk_at "me")
    refine l_slice S18 (S18.get (by walk_at "mem")) hobr .none (.int _ _) (fun vs hv => kmk_upto hv (by omega)) (by omega) ?_
    intro a19 o19 s19 ho19 S19
    clear S18
    rw [Int.toNat_natCast] at ho19
    have hl19 : ((rowOf r1 r2 n).take st).length = st := by rw [List.length_take]; omega
    have hr19 : ∀ x ∈ (rowOf r1 r2 n).take st, 0 ≤ x ∧ x < 64 := fun x hx => hrr x (List.mem_of_mem_take hx)
    have hv19 := val_take (r1 := r1) (n := n) (k := st) hl2 (by omega)
    repeat (walk_at "me")
    rename_i S20
    refine ⟨(S20.gl G).inn, ?_⟩
    refine octets_call (S20.gl G) (S20.get (.head _)) ho19 (by omega) (by decide) (by decide) hh (by omega) ?_
    intro a21 o21 s21 ho21 O21 N21
    have S21 := (S20.call1 O21 N21)
    clear S20 O21 N21
    repeat (walk_at "me")
    rename_i S22
    refine l_slice S22 (S22.get (by walk_at "mem")) hobr (.int _ _) (.int _ _) (fun vs hv => kmk_run hv (by omega) (by omega)) (by omega) ?_
    intro a23 o23 s23 ho23 S23
    clear S22
    rw [show min ((st : Int) + (sg : Int)).toNat (rowOf r1 r2 n).length - (st : Int).toNat = sg by omega, Int.toNat_natCast] at ho23
    have hl23 : (((rowOf r1 r2 n).drop st).take sg).length = sg := by rw [List.length_take, List.length_drop]; omega
    have hr23 : ∀ x ∈ ((rowOf r1 r2 n).drop st).take sg, 0 ≤ x ∧ x < 64 := fun x hx => hrr x (List.mem_of_mem_drop (List.mem_of_mem_take hx))
    have hv23 := val_run (r1 := r1) (n := n) (b := st) (k := sg) hl2 (by omega)
    repeat (walk_at "me")
    rename_i S24
    refine ⟨(S24.gl G).inn, ?_⟩
    refine octets_call (S24.gl G) (S24.get (.head _)) ho23 (by omega) (by decide) (by decide) hh (by omega) ?_
    intro a25 o25 s25 ho25 O25 N25
    have S25 := (S24.call1 O25 N25)
    clear S24 O25 N25
    generalize (rowOf r1 r2 n).take st = w1 at ho19 hl19 hr19 hv19 ho21
    generalize ((rowOf r1 r2 n).drop st).take sg = w2 at ho23 hl23 hr23 hv23 ho25
    have hc1 := octs_len w1 1
    have hc2 := octs_len w2 1
    refine l_add S25 (S25.get (by walk_at "mem")) ho21 (S25.get (.head _)) ho25 (by omega) ?_
    intro a26 o26 s26 ho26 S26
    clear S25
    have hlen : (octs w1 1 ++ octs w2 1).length = st + sg := by rw [List.length_append]; omega
    have hrng : ∀ x ∈ octs w1 1 ++ octs w2 1, 0 ≤ x ∧ x < 256 := by
      intro x hx
      rcases List.mem_append.mp hx with hx | hx
      · exact octs_rng hr19 _ x hx
      · exact octs_rng hr23 _ x hx
    have gl : ∀ i, i < st → (octs w1 1 ++ octs w2 1).getD i 0 = (octs w1 1).getD i 0 := fun i hi => getD_left (by omega)
    have gr : ∀ i, (octs w1 1 ++ octs w2 1).getD (st + i) 0 = (octs w2 1).getD i 0 := fun i => by
      have := getD_right (A := octs w1 1) (B := octs w2 1) (j := i)
      rwa [hc1, hl19] at this
    generalize octs w1 1 ++ octs w2 1 = os at ho26 hlen hrng gl gr
    repeat (walk_at "me")
    refine i_iter S26 (S26.get (.head _)) ho26 ?_
    intro ip op s27 hop S27
    clear S26
    have hne : a26 ≠ ip := fun q => (List.nodup_cons.mp S27.D).1 (by simp [← q])
    repeat (walk_at "me")
    rename_i S28
    refine if_joinS S28 (fun v op' => LIt a26 st op' ∧ ∃ t, v = .int (val (word r1 r2) 0 st) t) ?_ ?_ ?_
    · intro hc
      have hk0 : 0 < st := by simpa using hc
      repeat (walk_at "me")
      refine ⟨(S28.gl G).inn, ?_⟩
      refine parse_ok (k := st - 1) (S28.glW G) (S28.get (.head _)) hop ((Heap.hide_ne _ hne).trans (S28.get (.tail _ (.head _)))) ho26 hrng (by omega) (by omega) ?_ ?_ (by omega) ?_
      · intro j hj
        rw [Nat.zero_add, gl j (by omega)]
        exact oct_more hr19 (by omega)
      · rw [Nat.zero_add, gl _ (by omega)]
        exact oct_last hr19 (by omega)
      · intro t8 op8 s8 hop8 hx8 O8
        rw [show 0 + (st - 1) + 1 = st by omega] at hop8
        refine ⟨op8, ⟨hop8, t8, ?_⟩, S28.callW O8 hx8⟩
        rw [show st - 1 + 1 = st by omega, valL_congr (B := octs w1 1) (i' := 0) (fun j hj => by rw [Nat.zero_add, gl j hj]), oct_val hr19 (by omega), ← hv19]
        rfl
    · intro hc
      have hk0 : st = 0 := by
        have := of_decide_eq_false hc
        omega
      repeat (walk_at "me")
      rename_i S29
      refine ⟨op, ⟨by rw [hk0]; exact hop, _, by rw [hk0]; rfl⟩, S29⟩
    rintro v op8 s8 ⟨hop8, t8, rfl⟩ S8
    clear S28
    repeat (walk_at "me")
    rename_i S29
    refine ⟨(S29.gl G).inn, ?_⟩
    refine parse_ok (k := sg - 1) (S29.glW G) (S29.get (.head _)) hop8 ((Heap.hide_ne _ hne).trans (S29.get (.tail _ (.head _)))) ho26 hrng (by omega) (by omega) ?_ ?_ (by omega) ?_
    · intro j hj
      rw [gr j]
      exact oct_more hr23 (by omega)
    · rw [gr _]
      exact oct_last hr23 (by omega)
    intro t30 op30 s30 hop30 hx30 O30
    rw [show st + (sg - 1) + 1 = st + sg by omega] at hop30
    have S30 := S29.callW O30 hx30
    clear S29 O30 hx30 hop8 hop
    rw [show sg - 1 + 1 = sg by omega, valL_congr (B := octs w2 1) (i' := 0) (fun j hj => by rw [Nat.zero_add, gr j]), oct_val hr23 (by omega), show val (fig w2) 0 sg = val (word r1 r2) st sg from hv23]
    repeat (walk_at "me")
    rename_i S31
    refine ⟨(S31.gl G).inn, ?_⟩
    obtain ⟨oL, gL, dL⟩ := S31.frameObj
    refine breaks_stop (S31.glB G) (S31.get (.head _)) hop30 ((Heap.hide_ne _ hne).trans (S31.get (.tail _ (.head _)))) ho26 hrng (by omega) (fun j h1 h2 => absurd h2 (by omega)) (by omega) hh hA hAf hAk gL dL ?_
    intro s32 O32
    have S32 := (S31.brk O32).tail.tail.tail.tail.tail.tail
    clear S31 O32 gL dL
    repeat (walk_at "me")
    rw [if_neg (by decide)]
    repeat (walk_at "me")
    rename_i S33
    refine ⟨(S33.gl G).inn, ?_⟩
    refine octets_call (S33.gl G) (S33.get (by walk_at "mem")) hobr (by omega) (by decide) (by decide) hh (by omega) ?_
    intro a34 o34 s34 ho34 O34 N34
    have S34 := S33.call1 O34 N34
    clear S33 O34 N34
    have hc3 := octs_len (rowOf r1 r2 n) 0
    repeat (walk_at "me")
    rename_i S35
    refine l_slice S35 (S35.get (.head _)) ho34 .none (.int _ _) (fun vs hv => kmk_upto_neg hv (by decide)) (by omega) ?_
    intro a36 o36 s36 ho36 S36
    clear S35
    repeat (walk_at "me")
    refine i_iter S36 (S36.get (.head _)) ho36 ?_
    intro ip2 op2 s37 hop2 S37
    clear S36
    repeat (walk_at "me")
    refine ⟨(S37.gl G).inn, ?_⟩
    obtain ⟨oL, gL, dL⟩ := S37.frameObj
    have hne2 : a36 ≠ ip2 := fun q => (List.nodup_cons.mp S37.D).1 (by simp [← q])
    refine breaks_stop (S37.glB G) (S37.get (.head _)) hop2 ((Heap.hide_ne _ hne2).trans (S37.get (.tail _ (.head _)))) ho36 (fun x hx => octs_rng hrr _ x (List.mem_of_mem_take hx)) (by rw [List.length_take]; omega) ?_ (by omega) hh hA hAf hAk gL dL ?_
    · intro j _ h2
      rw [List.length_take] at h2
      have e : ((octs (rowOf r1 r2 n) 0).take ((octs (rowOf r1 r2 n) 0).length - (-(-1 : Int)).toNat)).getD j 0 = (octs (rowOf r1 r2 n) 0).getD j 0 := by
        simp only [List.getD_eq_getElem?_getD, List.getElem?_take]
        rw [if_pos (by omega)]
      refine (congrArg (fun z : Int => z / 64 % 2) e).trans ?_
      exact oct_more hrr (by omega)
    intro s38 O38
    have S38 := (S37.brk O38).tail.tail
    clear S37 O38 gL dL
    repeat (walk_at "me")
    rw [if_neg (by decide)]
    repeat (walk_at "me")
    rw [if_neg (by decide)]
    repeat (walk_at "me")
    rename_i S39
    rw [Int.toNat_natCast] at S39
    refine ⟨(S39.gl G).inn, ?_⟩
    refine number_call (S39.gl G) (S39.get (by walk_at "mem")) ho1 (by omega) hr1 hh (by omega) ?_
    intro t40 s40 O40
    have S40 := S39.call O40
    clear S39 O40
    rw [val_ahead (r2 := r2)]
    have hva := val_lt hf 0 r1.length
    have hvg := val_lt hf r1.length r2.length
    repeat (walk_at "me")
    refine o_mul (6 * r1.length) (6 * r2.length + 1) S40 (nat64 hva.1 hva.2) (m64_nat _) (by omega) ?_
    intro s41 t41 S41
    clear S40
    repeat (walk_at "me")
    refine ⟨(S41.gl G).inn, ?_⟩
    refine number_call (S41.gl G) (S41.get (by walk_at "mem")) ho2 (by omega) hr2 hh (by omega) ?_
    intro t42 s42 O42
    have S42 := S41.call O42
    clear S41 O42
    rw [val_again (r1 := r1)]
    repeat (walk_at "me")
    rename_i S43
    have hn0 := num_nonneg hf r1.length r2.length
    have hnl := num_lt hf r1.length r2.length
    have et : (((num (word r1 r2) r1.length r2.length).toNat : Nat) : Int) = num (word r1 r2) r1.length r2.length := Int.toNat_of_nonneg hn0
    rw [← num_eq, ← et] at S43
    rw [Int.toNat_natCast r1.length]
    obtain ⟨bt, hbt⟩ : ∃ bt : Nat, bt = 64 ^ r1.length * (64 ^ r2.length - 1) := ⟨_, rfl⟩
    have ebt : (64 : Int) ^ r1.length * (64 ^ r2.length - 1) = (bt : Int) := by
      rw [hbt, Int.natCast_mul, c64, Int.natCast_pow]
      rfl
    obtain ⟨tp, htp⟩ : ∃ tp, tp = (num (word r1 r2) r1.length r2.length).toNat := ⟨_, rfl⟩
    rw [← htp] at et S43
    refine o_mul (6 * r1.length + 1) (6 * r2.length + 1) S43 (p64_nat _) (m64_nat _) (by omega) ?_
    intro s44 t44 S44
    clear S43
    rw [ebt]
    repeat (walk_at "me")
    have hvs := val_lt hf 0 st
    have hvt := val_lt hf st sg
    refine o_mul (6 * st) (6 * sg + 1) (by assumption) (nat64 hvs.1 hvs.2) (by rw [Int.toNat_natCast]; exact m64_nat _) (by omega) ?_
    intro s45 t45 S45
    repeat (walk_at "me")
    rename_i S46
    rw [Int.toNat_natCast sg, ← num_eq]
    have hm0 := num_nonneg hf st sg
    have hml := num_lt hf st sg
    have hbtn : (bt : Int).natAbs < 2 ^ (6 * (r1.length + r2.length)) := by
      rw [Int.natAbs_natCast, hbt, ← p64_two, Nat.pow_add]
      have : 0 < 64 ^ r2.length := Nat.pow_pos (by decide)
      exact Nat.mul_lt_mul_of_pos_left (by omega) (Nat.pow_pos (by decide))
    have htpn : (tp : Int).natAbs < 2 ^ (6 * (r1.length + r2.length)) := by
      rw [et]
      exact nat64 hn0 hnl
    refine o_mul (6 * (st + sg)) (6 * (r1.length + r2.length)) S46 (nat64 hm0 hml) hbtn (by omega) ?_
    intro s47 t47 S47
    clear S46
    repeat (walk_at "me")
    refine o_mul (6 * (r1.length + r2.length)) (6 * st + 1) (by assumption) htpn (by rw [Int.toNat_natCast]; exact p64_nat _) (by omega) ?_
    intro s48 t48 S48
    have hx48 : ((tp : Int) * 64 ^ (st : Int).toNat).natAbs < 2 ^ (6 * (r1.length + r2.length) + (6 * st + 1)) := by
      rw [Int.natAbs_mul, Nat.pow_add, Int.toNat_natCast]
      exact Nat.mul_lt_mul_of_lt_of_le htpn (Nat.le_of_lt (p64_nat st)) (Nat.pow_pos (by decide))
    repeat (walk_at "me")
    refine o_mul (6 * (r1.length + r2.length) + (6 * st + 1)) (6 * sg + 1) (by assumption) hx48 (by rw [Int.toNat_natCast]; exact m64_nat _) (by omega) ?_
    intro s49 t49 S49
    rw [Int.toNat_natCast st, Int.toNat_natCast sg]
    have heq : num (word r1 r2) st sg * (bt : Int) = (tp : Int) * 64 ^ st * (64 ^ sg - 1) := by
      rw [← ebt, hfr, et, Int.mul_assoc]
    repeat (walk_at "me")
    rw [heq, if_neg (by simp)]
    repeat (walk_at "me")
    refine t_new S49 (by simp) ?_
    intro a51 s51 S51
    clear S49
    repeat (walk_at "me")
    refine ⟨(S51.gl G).inn, ?_⟩
    refine lowest_call (S51.gl G) hl2 (by omega) hbt hh (by omega) ?_
    intro twos odd step a52 u1 u2 s52 low O52 N52
    have S52 := S51.call1 O52 N52
    clear S51 O52 N52
    obtain ⟨e1, e2⟩ := law2_end hf hP hl2 hn hsa sg1 hs2 hS hmin hmax et hbt low.eq low.isOdd low.pos low.one low.least
    rw [e1, e2] at S52
    refine eqT_same (by omega) ⟨_, S52.get (.tail _ (.head _)), rfl, _, rfl⟩ ⟨_, S52.get (.head _), rfl, _, rfl⟩ ?_
    repeat (walk_at "me")
    exact h _ _ _ S52
end Mine
set_option maxHeartbeats 8000000 in
theorem PySem.Challenge.cw_rs0015_02_holds : PySem.Challenge.rw_rs0015_02.Holds :=
 Mine.hd (by
  w_strict (k_go0
            rename_i hL ra w1 r0 hI hr hc1 hc2 K0 hD h1 tk1 F co hco N0 X0
            rename Top _ _ _ _ _ _ => T
            rename Frag.In _ _ => KX
            rename _ = #[] => hg
            obtain ⟨ol, hol, hcl, hdt⟩ := hL
            refine wpAny_mono (Mine.law_walk ⟨KX, ⟨_, _, Top.g T, Top.b T, Top.builtins T⟩, Top.nolimit T⟩ hol ⟨_, hI, hcl, hdt⟩ (by omega) (hco.trans rfl) (by rfl) ⟨F, N0, by simp, rfl, rfl, rfl⟩ ?_) (fun _ _ x => x) (fun _ _ x => x.elim)
            intro m' news' s' S'
            refine goodW_bool S'.F (S'.g.trans hg) (raisesW_false ?_) ?_ S'.o; (· wrow_none_raised); (· first | wrow_post | kc_post)))
