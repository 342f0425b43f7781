import PyProof.Rows.All
import Wide.All
import OpenK.AllK
import Wide.FinOn
import PySem.Challenge.RW_rs0015_01
open PySem PySem.W PyProof.Rows PySem.Calls PySem.Spec
set_option Elab.async false
set_option maxRecDepth 100000
set_option linter.unusedVariables false
namespace Mine
/-- a store into a frame's names -/
abbrev up (m : Str → Option Value) (x : Str) (v : Value) : Str → Option Value := fun y => if y = x then some v else m y
theorem up_eq {m : Str → Option Value} {x : Str} {v : Value} : up m x v x = some v := if_pos rfl
theorem up_ne {m : Str → Option Value} {x y : Str} {v : Value} {r : Option Value} (h : y ≠ x) (e : m y = r) : up m x v y = r := (if_neg h).trans e

/-- what stands at the top: the written part, the names, the built-ins -/
structure Gl (K : Frag) (h : Heap) : Prop where
  inn : K.In h
  names : ∃ mg mb, h.Ns mainGlobals mg ∧ h.Ns builtinsNs mb ∧ ∀ x : Str, x ≠ "__name__" → mb x = bootBuiltins x
  lim : h.NoLimit
theorem Gl.keeps {K : Frag} {h h' : Heap} (G : Gl K h) (k : ∀ b o, h.get? b = some o → h'.get? b = some o) : Gl K h' :=
  let ⟨mg, mb, a, b, c⟩ := G.names
  ⟨G.inn.keeps k, ⟨mg, mb, a.keeps k, b.keeps k, c⟩, G.lim.keeps k⟩

/-- the frame at hand: its names, what the call has made; the rest of the state as at the start -/
structure Sf (s₀ : Shared) (h₀ : Heap) (L : Addr) (m : Str → Option Value) (news : List (Addr × Obj)) (s : Shared) : Prop where
  F : Fr h₀ L s.heap m
  N : News h₀ L s.heap news
  D : (news.map (·.1)).Nodup
  g : s.gens = s₀.gens
  d : s.drawn = s₀.drawn
  o : s.os = s₀.os

section
variable {prog : Program} {w : World} {K : Frag} {A : Around} {E : Value → Shared → Prop} {s s₀ : Shared} {h₀ : Heap} {env : Env} {m : Str → Option Value} {news : List (Addr × Obj)} {L : Addr}

theorem Sf.toks (S : Sf s₀ h₀ L m news s) (tk : Nat) : Sf s₀ h₀ L m news { s with toks := tk } := ⟨S.F, S.N, S.D, S.g, S.d, S.o⟩
theorem Sf.push (S : Sf s₀ h₀ L m news s) (ob : Obj) (hf : ob.isFreed = false := by rfl) (tk : Nat := s.toks) :
    Sf s₀ h₀ L m ((s.heap.objs.size, ob) :: news) { s with heap := s.heap.push ob, toks := tk } := by
  refine ⟨S.F.push _, News.push S.F S.N _ hf, ?_, S.g, S.d, S.o⟩
  refine List.nodup_cons.mpr ⟨fun h => ?_, S.D⟩
  obtain ⟨p, hp, e⟩ := List.mem_map.mp h
  exact absurd (Heap.lt_size (S.N p hp).1) (by rw [e]; exact Nat.lt_irrefl _)
theorem Sf.set {h' : Heap} {m' : Str → Option Value} (S : Sf s₀ h₀ L m news s) (hn : h'.Ns L m') (hs : Heap.SameBut L s.heap h') (tk : Nat) : Sf s₀ h₀ L m' news { s with heap := h', toks := tk } :=
  ⟨S.F.set hn hs, S.N.set hs, S.D, S.g, S.d, S.o⟩
theorem Sf.get (S : Sf s₀ h₀ L m news s) {a : Addr} {ob : Obj} (h : (a, ob) ∈ news) : s.heap.get? a = some ob := (S.N _ h).1
theorem Sf.old (S : Sf s₀ h₀ L m news s) {a : Addr} {ob : Obj} (h : h₀.get? a = some ob) : s.heap.get? a = some ob := S.F.keep _ _ h
theorem Sf.gl (S : Sf s₀ h₀ L m news s) (G : Gl K h₀) : Gl K s.heap := G.keeps S.F.keep
theorem Sf.sub (S : Sf s₀ h₀ L m news s) {news' : List (Addr × Obj)} (h : ∀ p ∈ news', p ∈ news) (hd : (news'.map (·.1)).Nodup) : Sf s₀ h₀ L m news' s :=
  ⟨S.F, fun p hp => S.N p (h p hp), hd, S.g, S.d, S.o⟩
theorem Sf.perm (S : Sf s₀ h₀ L m news s) {news' : List (Addr × Obj)} (h : news.Perm news') : Sf s₀ h₀ L m news' s :=
  S.sub (fun p hp => h.mem_iff.mpr hp) ((h.map (·.1)).nodup_iff.mp S.D)
theorem Sf.sublist (S : Sf s₀ h₀ L m news s) {news' : List (Addr × Obj)} (h : news'.Sublist news) : Sf s₀ h₀ L m news' s :=
  S.sub (fun p hp => h.mem hp) ((h.map (·.1)).nodup S.D)
theorem Sf.tail {p : Addr × Obj} (S : Sf s₀ h₀ L m (p :: news) s) : Sf s₀ h₀ L m news s := S.sublist (List.sublist_cons_self _ _)
/-- an object of the call's own is changed -/
theorem Sf.upd {a : Addr} {ob ob' : Obj} {h' : Heap} (S : Sf s₀ h₀ L m ((a, ob) :: news) s) (hs : Heap.SameBut a s.heap h') (ho : h'.get? a = some ob') (tk : Nat := s.toks) :
    Sf s₀ h₀ L m ((a, ob') :: news) { s with heap := h', toks := tk } := by
  have hz := S.N (a, ob) (.head _)
  have hne : ∀ p ∈ news, p.1 ≠ a := fun p hp e => (List.nodup_cons.mp S.D).1 (List.mem_map.mpr ⟨p, hp, e⟩)
  refine ⟨S.F.change hs hz.2.1 hz.2.2, fun p hp => ?_, S.D, S.g, S.d, S.o⟩
  rcases List.mem_cons.mp hp with rfl | hp
  · exact ⟨ho, hz.2⟩
  · have := S.N p (.tail _ hp)
    exact ⟨(hs.2 p.1 (hne p hp)).trans this.1, this.2⟩

theorem nm_local {x : Str} {pos : Pos} {v : Value} {Q : Value → Shared → Prop} (S : Sf s₀ h₀ env.locals m news s) (hv : m x = some v) (h : Q v s)
    (hk : env.scope.kind = .function := by rfl) (hx : env.kindOf x = some .local := by rfl) (hd : (x == ("__debug__" : Str)) = false := by decide) :
    wpAny (model prog w) A (eval (.Name x pos) env) Q E s := wpAny_Name (wpAny_loadName_local hk hx S.F.ns hv h) hd
theorem ld_local {x : Str} {v : Value} {Q : Value → Shared → Prop} (S : Sf s₀ h₀ env.locals m news s) (hv : m x = some v) (h : Q v s)
    (hk : env.scope.kind = .function := by rfl) (hx : env.kindOf x = some .local := by rfl) :
    wpAny (model prog w) A (loadName env x) Q E s := wpAny_loadName_local hk hx S.F.ns hv h
theorem nm_global {x : Str} {pos : Pos} {v : Value} {Q : Value → Shared → Prop} (S : Sf s₀ h₀ env.locals m news s) (G : Gl K h₀) (e : nsIn K mainGlobals x = some (some v)) (h : Q v s)
    (hk : env.scope.kind = .function := by rfl) (hx : env.kindOf x = some .globalImplicit := by rfl) (hg : env.globals = mainGlobals := by rfl) (hd : (x == ("__debug__" : Str)) = false := by decide) :
    wpAny (model prog w) A (eval (.Name x pos) env) Q E s := by
  obtain ⟨mg, mb, a, b, c⟩ := (S.gl G).names
  exact Name_function_global hk hx (loadGlobal_global (hg ▸ a) (mg_of (S.gl G).inn a e) h) hd
theorem nm_builtin {x : Str} {pos : Pos} {v : Value} {Q : Value → Shared → Prop} (S : Sf s₀ h₀ env.locals m news s) (G : Gl K h₀) (e : nsIn K mainGlobals x = some none) (hv : bootBuiltins x = some v) (h : Q v s)
    (hn : x ≠ "__name__" := by decide) (hk : env.scope.kind = .function := by rfl) (hx : env.kindOf x = some .globalImplicit := by rfl) (hg : env.globals = mainGlobals := by rfl) (hb : env.builtins = builtinsNs := by rfl) (hd : (x == ("__debug__" : Str)) = false := by decide) :
    wpAny (model prog w) A (eval (.Name x pos) env) Q E s := by
  obtain ⟨mg, mb, a, b, c⟩ := (S.gl G).names
  exact Name_function_global hk hx (loadGlobal_builtin (hg ▸ a) (mg_none_of (S.gl G).inn a e) (hb ▸ b) ((c x hn).trans hv) h) hd
theorem st_local {x : Str} {v : Value} {Q : Unit → Shared → Prop} (S : Sf s₀ h₀ env.locals m news s) (h : ∀ s', Sf s₀ h₀ env.locals (up m x v) news s' → Q () s')
    (hx : env.kindOf x = some .local := by rfl) (hp : (env.scope.kind == .class || (env.scope.kind == .module && env.locals != env.globals)) = false := by rfl) :
    wpAny (model prog w) A (storeName env x v) Q E s := wpAny_storeName_local hx S.F.ns (fun _ hn hs => h _ (S.set hn hs _)) hp

def retOf : Flow → Value
  | .ret v => v
  | _ => .none

/-- a def is entered; it does not raise -/
theorem enter {Q : Value → Shared → Prop} {name qual : Str} {params : Arguments} {body : List Stmt} {scope : Scope} {dV kV doc pm cdv ct oc : Value} {an od : Option Addr} {osl : Array (Option Value)} {f : Addr} {vs : List Value} {binds : List (Str × Value)}
    (G : Gl K s.heap) (ho : K.lookup f = some ⟨oc, od, .func (fnOf name qual params body scope dV kV doc pm an cdv ct), osl⟩) (hcd : codeIn K cdv qual = true) (hroom : A.depth < recursionLimit)
    (hbind : bindArgs (fnOf name qual params body scope dV kV doc pm an cdv ct) ⟨vs, []⟩ = pure binds) (hloc : ∀ y ∈ binds, scope.names.lookup y.1 = some .local)
    (h : ∀ s' : Shared, Sf s s.heap (envOf qual scope s.heap.objs.size f cdv).locals (fun y => binds.reverse.lookup y) [] s' →
      wpAny (model prog w) (A.deeper (envOf qual scope s.heap.objs.size f cdv)) (execs body (envOf qual scope s.heap.objs.size f cdv)) (fun fl s'' => Q (retOf fl) s'') (fun _ _ => False) s')
    (hco : scope.isCoroutine = false := by rfl) (hgen : scope.isGenerator = false := by rfl) (hk : scope.kind = .function := by rfl)
    (hcell : ∀ x ∈ scope.names, x.2 ≠ .cell := by decide) : wpAny (model prog w) A (call (.ref f) vs) Q E s := by
  refine wpAny_call (codeAny_call_def (fd := fnOf name qual params body scope dV kV doc pm an cdv ct) (body := body) (binds := binds) hroom (G.inn _ _ ho) rfl G.lim (codeRec_of G.inn hcd) rfl (BindsTo.of_eq hbind) hcell hloc (fun h₁ hns hk₁ => ?_) hco hgen hk)
  refine wpAny_mono (h _ ⟨⟨hns, hk₁, Nat.le_refl _⟩, News.nil, List.nodup_nil, rfl, rfl, rfl⟩) (fun fl s' hq => ?_) fun _ _ x => x.elim
  cases fl <;> exact hq
end
section
variable {prog : Program} {w : World} {K : Frag} {A : Around} {E : Value → Shared → Prop} {s s₀ : Shared} {h₀ : Heap} {env : Env} {m : Str → Option Value} {news : List (Addr × Obj)} {L : Addr}
  {a b : Int} {t u : Tok}

theorem c_int {i : Int} {k : Nat} {pos : Pos} {Q : Value → Shared → Prop} (S : Sf s₀ h₀ L m news s) (h : ∀ s' t, Sf s₀ h₀ L m news s' → Q (.int i t) s') : wpAny (model prog w) A (eval (.Constant (.int i) k pos) env) Q E s := wpAny_Constant_int (h _ _ (S.toks _))
theorem o_add {Q : Value → Shared → Prop} (S : Sf s₀ h₀ L m news s) (h : ∀ s' t, Sf s₀ h₀ L m news s' → Q (.int (a + b) t) s') : wpAny (model prog w) A (binaryOp .Add (.int a t) (.int b u)) Q E s := add_int (h _ _ (S.toks _))
theorem o_sub {Q : Value → Shared → Prop} (S : Sf s₀ h₀ L m news s) (h : ∀ s' t, Sf s₀ h₀ L m news s' → Q (.int (a - b) t) s') : wpAny (model prog w) A (binaryOp .Sub (.int a t) (.int b u)) Q E s := sub_int (h _ _ (S.toks _))
theorem o_iadd {Q : Value → Shared → Prop} (S : Sf s₀ h₀ L m news s) (h : ∀ s' t, Sf s₀ h₀ L m news s' → Q (.int (a + b) t) s') : wpAny (model prog w) A (inplaceOp .Add (.int a t) (.int b u)) Q E s := iadd_int (h _ _ (S.toks _))
theorem bits_le {x : Int} {k : Nat} (hx : x.natAbs < 2 ^ k) : Builtin.Int.intBits x ≤ k := by
  unfold Builtin.Int.intBits
  split
  · exact Nat.zero_le _
  · rename_i h
    have h0 : x.natAbs ≠ 0 := by intro e; apply h; simp [Int.natAbs_eq_zero.mp e]
    exact (Nat.log2_lt h0).mpr hx
theorem mulOk_of {a b : Int} {k l : Nat} (ha : a.natAbs < 2 ^ k) (hb : b.natAbs < 2 ^ l) (hk : k + l ≤ 100000) : IntMulOk a b := by
  have h1 := bits_le ha
  have h2 := bits_le hb
  unfold IntMulOk Builtin.Int.intTooBig bitsLine
  intro h
  simp only [Bool.and_eq_true, decide_eq_true_eq] at h
  have h3 := h.2
  have h4 : (2 : Nat) ^ 27 = 134217728 := by decide
  rw [h4] at h3
  omega
theorem o_mul {Q : Value → Shared → Prop} (k l : Nat) (S : Sf s₀ h₀ L m news s) (ha : a.natAbs < 2 ^ k) (hb : b.natAbs < 2 ^ l) (hk : k + l ≤ 100000) (h : ∀ s' t, Sf s₀ h₀ L m news s' → Q (.int (a * b) t) s') : wpAny (model prog w) A (binaryOp .Mult (.int a t) (.int b u)) Q E s :=
  PySem.P.mul_int (h _ _ (S.toks _)) (mulOk_of ha hb hk)
theorem o_mod {Q : Value → Shared → Prop} (S : Sf s₀ h₀ L m news s) (hb : 0 < b) (h : ∀ s' t, Sf s₀ h₀ L m news s' → Q (.int (a % b) t) s') : wpAny (model prog w) A (binaryOp .Mod (.int a t) (.int b u)) Q E s :=
  mod_int' (by omega) (by rw [Int.fmod_eq_emod_of_nonneg _ (by omega)]; exact h _ _ (S.toks _))
theorem noPy {x y : Int} {k : Nat} (h : y.natAbs < 2 ^ k) (hk : k ≤ 8000) : Builtin.divisionGoesByPylong x y = false := by
  refine PyProof.noPylong_of_log2 ?_
  by_cases h0 : y.natAbs = 0
  · rw [h0]; decide +kernel
  · have := (Nat.log2_lt h0).mpr h
    omega
theorem o_div {Q : Value → Shared → Prop} (k : Nat) (S : Sf s₀ h₀ L m news s) (hb : 0 < b) (hk : b.natAbs < 2 ^ k) (hk' : k ≤ 8000) (h : ∀ s' t, Sf s₀ h₀ L m news s' → Q (.int (a / b) t) s') : wpAny (model prog w) A (binaryOp .FloorDiv (.int a t) (.int b u)) Q E s :=
  floordiv_int (by omega) (by rw [Int.fdiv_eq_ediv_of_nonneg _ (by omega)]; exact h _ _ (S.toks _)) (.inl (noPy hk hk'))
theorem o_pow64 {Q : Value → Shared → Prop} (S : Sf s₀ h₀ L m news s) (hb : 0 ≤ b) (hb' : b ≤ 1000) (h : ∀ s' t, Sf s₀ h₀ L m news s' → Q (.int (64 ^ b.toNat) t) s') : wpAny (model prog w) A (binaryOp .Pow (.int 64 t) (.int b u)) Q E s :=
  pow_int hb (by have : Builtin.Int.intBits 64 = 7 := by decide +kernel
                 rw [this]; omega) (h _ _ (S.toks _))
theorem o_and {Q : Value → Shared → Prop} (S : Sf s₀ h₀ L m news s) (h : ∀ s' t, Sf s₀ h₀ L m news s' → Q (.int (Builtin.bitAnd a b) t) s') : wpAny (model prog w) A (binaryOp .BitAnd (.int a t) (.int b u)) Q E s := and_int (h _ _ (S.toks _))
theorem o_ior {Q : Value → Shared → Prop} (S : Sf s₀ h₀ L m news s) (h : ∀ s' t, Sf s₀ h₀ L m news s' → Q (.int (Builtin.bitOr a b) t) s') : wpAny (model prog w) A (inplaceOp .BitOr (.int a t) (.int b u)) Q E s := ior_int (h _ _ (S.toks _))
theorem o_ishl6 {Q : Value → Shared → Prop} (k : Nat) (S : Sf s₀ h₀ L m news s) (ha : a.natAbs < 2 ^ k) (hk : k ≤ 100000) (h : ∀ s' t, Sf s₀ h₀ L m news s' → Q (.int (a * 64) t) s') : wpAny (model prog w) A (inplaceOp .LShift (.int a t) (.int 6 u)) Q E s := by
  refine ilshift_int (by decide) ?_ (by exact h _ _ (S.toks _))
  have := bits_le ha
  omega
theorem o_neg {Q : Value → Shared → Prop} (S : Sf s₀ h₀ L m news s) (h : ∀ s' t, Sf s₀ h₀ L m news s' → Q (.int (-a) t) s') : wpAny (model prog w) A (unaryOp .USub (.int a t)) Q E s := PySem.P.neg_int (h _ _ (S.toks _))
end
section
variable {prog : Program} {w : World} {K : Frag} {A : Around} {s s₀ : Shared} {h₀ : Heap} {env : Env} {m : Str → Option Value} {news : List (Addr × Obj)} {L : Addr}

/-- how a turn ends -/
def TurnEnd (Q : Flow → Shared → Prop) (I : Shared → Prop) (f : Flow) (s : Shared) : Prop :=
  match f with
  | .ret v => Q (.ret v) s
  | .brk => Q .next s
  | _ => I s
abbrev NoE : Value → Shared → Prop := fun _ _ => False

theorem r_while {Q : Flow → Shared → Prop} {test : Expr} {body orelse : List Stmt} {pos : Pos} (I : Nat → Shared → Prop)
    (turn : ∀ n s, I n s → wpAny (model prog w) A (isTrue test env (eval test env)) (fun b s₂ =>
      if b = true then wpAny (model prog w) A (execs body env) (TurnEnd Q fun s₃ => ∃ k, k < n ∧ I k s₃) NoE s₂ else wpAny (model prog w) A (execs orelse env) Q NoE s₂) NoE s)
    (n : Nat) (h : I n s) : wpAny (model prog w) A (exec (.While test body orelse pos) env) Q NoE s := by
  refine wpAny_While (codeAny_whileLoop I (fun n s hI => ?_) n h)
  refine wpAny_mono (turn n s hI) (fun b s₂ h₂ => ?_) fun _ _ e => e.elim
  cases b with
  | false =>
    simp only [Bool.false_eq_true, if_false] at h₂ ⊢
    exact wpAny_mono h₂ (fun _ _ x => x) fun _ _ e => e.elim
  | true =>
    simp only [if_true] at h₂ ⊢
    refine wpAny_mono h₂ (fun f s₃ h₃ => ?_) fun _ _ e => e.elim
    cases f <;> exact h₃

theorem for_any {Q : Flow → Shared → Prop} {x : Str} {px : Pos} {body : List Stmt} {it : Addr} {n : Nat} {V : Nat → Value → Prop} {OK : Nat → Obj → Prop} {ob₀ : Obj} (J : Nat → (Str → Option Value) → List (Addr × Obj) → Prop)
    (S : Sf s₀ h₀ env.locals m ((it, ob₀) :: news) s) (hok : OK 0 ob₀) (h0 : J 0 m news)
    (item : ∀ i m₁ news₁ ob s₁ (P : Option Value → Shared → Prop), i < n → J i m₁ news₁ → OK i ob → Sf s₀ h₀ env.locals m₁ ((it, ob) :: news₁) s₁ → (∀ v ob' s₂, V i v → OK (i + 1) ob' → Sf s₀ h₀ env.locals m₁ ((it, ob') :: news₁) s₂ → P (some v) s₂) →
      wpAny (model prog w) A (pyNext (.ref it)) P NoE s₁)
    (fin : ∀ m₁ news₁ ob s₁ (P : Option Value → Shared → Prop), J n m₁ news₁ → OK n ob → Sf s₀ h₀ env.locals m₁ ((it, ob) :: news₁) s₁ → (∀ s₂, Sf s₀ h₀ env.locals m₁ news₁ s₂ → P none s₂) →
      wpAny (model prog w) A (pyNext (.ref it)) P NoE s₁)
    (turn : ∀ i v m₁ news₁ ob s₁, i < n → V i v → J i m₁ news₁ → Sf s₀ h₀ env.locals (up m₁ x v) ((it, ob) :: news₁) s₁ →
      wpAny (model prog w) A (execs body env) (TurnEnd Q fun s₂ => ∃ m₂ news₂, J (i + 1) m₂ news₂ ∧ Sf s₀ h₀ env.locals m₂ ((it, ob) :: news₂) s₂) NoE s₁)
    (done : ∀ m₁ news₁ s₁, J n m₁ news₁ → Sf s₀ h₀ env.locals m₁ news₁ s₁ → Q .next s₁)
    (hx : env.kindOf x = some .local := by rfl) (hp : (env.scope.kind == .class || (env.scope.kind == .module && env.locals != env.globals)) = false := by rfl) :
    codeAny (model prog w) A (.forLoop (.Name x px) (.ref it) body [] env) (fun r s' => match r with | .ok f => Q f s' | .error e => cameBackBy (model prog w) A env NoE e s') s := by
  refine codeAny_forLoop (fun k s' => ∃ i m₁ news₁ ob, i ≤ n ∧ k = n - i ∧ J i m₁ news₁ ∧ OK i ob ∧ Sf s₀ h₀ env.locals m₁ ((it, ob) :: news₁) s') ?_ n ⟨0, m, news, ob₀, Nat.zero_le _, rfl, h0, hok, S⟩
  rintro k s' ⟨i, m₁, news₁, ob, hi, rfl, hJ, hob, S₁⟩
  by_cases hlt : i < n
  · refine wpAny_mono (item i m₁ news₁ ob s' _ hlt hJ hob S₁ (fun v ob' s₂ hv hob' S₂ => ?_)) (fun _ _ x => x) fun _ _ e => e.elim
    refine wpAny_assign_Name (st_local S₂ (fun s₃ S₃ => ?_) hx hp)
    refine wpAny_mono (turn i v m₁ news₁ ob' s₃ hlt hv hJ S₃) (fun f s₄ h₄ => ?_) fun _ _ e => e.elim
    have go : (∃ m₂ news₂, J (i + 1) m₂ news₂ ∧ Sf s₀ h₀ env.locals m₂ ((it, ob') :: news₂) s₄) → ∃ k', k' < n - i ∧ ∃ i' m₁ news₁ ob, i' ≤ n ∧ k' = n - i' ∧ J i' m₁ news₁ ∧ OK i' ob ∧ Sf s₀ h₀ env.locals m₁ ((it, ob) :: news₁) s₄ := by
      rintro ⟨m₂, news₂, hJ₂, S₄⟩
      exact ⟨n - (i + 1), by omega, i + 1, m₂, news₂, ob', hlt, rfl, hJ₂, hob', S₄⟩
    cases f with
    | next => exact go h₄
    | cont => exact go h₄
    | brk => exact h₄
    | ret v => exact h₄
  · have e : i = n := by omega
    subst e
    refine wpAny_mono (fin m₁ news₁ ob s' _ hJ hob S₁ (fun s₂ S₂ => ?_)) (fun _ _ x => x) fun _ _ e => e.elim
    exact wpAny_execs_nil (done m₁ news₁ s₂ hJ S₂)

/-- what pyNext leaves when the iterator is through -/
theorem Sf.after {it : Addr} {ob : Obj} {h' : Heap} (S : Sf s₀ h₀ L m ((it, ob) :: news) s) (hs : Heap.ExtBut it s.heap h') (tk : Nat) : Sf s₀ h₀ L m news { s with heap := h', toks := tk } := by
  have hz := S.N (it, ob) (.head _)
  have hne : ∀ p ∈ news, p.1 ≠ it := fun p hp e => (List.nodup_cons.mp S.D).1 (List.mem_map.mpr ⟨p, hp, e⟩)
  refine ⟨⟨S.F.ns.at' (fun o e => hs _ o (Ne.symm hz.2.1) e), fun b o e => hs b o (fun q => ?_) (S.F.keep b o e), S.F.above⟩, fun p hp => ?_, (List.nodup_cons.mp S.D).2, S.g, S.d, S.o⟩
  · have := hz.2.2; rw [← q, e] at this; cases this
  · have := S.N p (.tail _ hp)
    exact ⟨hs _ _ (hne p hp) this.1, this.2⟩

def rangeIt (a n : Int) (i : Nat) : Obj := { cls := .type "range_iterator", data := .fields #[rawInt (a + i), rawInt (n - i), rawInt 1] }

/-- a loop over a range, by what holds between its turns -/
theorem for_range {Q : Flow → Shared → Prop} {x : Str} {px : Pos} {body : List Stmt} {r : Addr} {a b : Int} {t u v : Tok} (n : Nat) (J : Nat → (Str → Option Value) → List (Addr × Obj) → Prop)
    (hh : A.handled = none) (S : Sf s₀ h₀ env.locals m news s) (hr : IsRange s.heap r a b 1 t u v) (hn : b - a = (n : Int) ∨ (n = 0 ∧ b ≤ a)) (ha : -1000000 ≤ a) (hb : b ≤ 1000000) (ha2 : a ≤ 1000000) (hb2 : -1000000 ≤ b) (h0 : J 0 m news)
    (turn : ∀ i t m₁ news₁ it ob s₁, i < n → J i m₁ news₁ → Sf s₀ h₀ env.locals (up m₁ x (.int (a + (i : Nat)) t)) ((it, ob) :: news₁) s₁ →
      wpAny (model prog w) A (execs body env) (TurnEnd Q fun s₂ => ∃ m₂ news₂, J (i + 1) m₂ news₂ ∧ Sf s₀ h₀ env.locals m₂ ((it, ob) :: news₂) s₂) NoE s₁)
    (done : ∀ m₁ news₁ s₁, J n m₁ news₁ → Sf s₀ h₀ env.locals m₁ news₁ s₁ → Q .next s₁)
    (hx : env.kindOf x = some .local := by rfl) (hp : (env.scope.kind == .class || (env.scope.kind == .module && env.locals != env.globals)) = false := by rfl) :
    wpAny (model prog w) A (pyIter (.ref r)) (fun it s₂ => codeAny (model prog w) A (.forLoop (.Name x px) it body [] env) (fun r s' => match r with | .ok f => Q f s' | .error e => cameBackBy (model prog w) A env NoE e s') s₂) NoE s := by
  have hsz : Builtin.Range.rangeSize a b 1 = (n : Int) := by
    unfold Builtin.Range.rangeSize
    rw [if_pos (by decide)]
    split <;> omega
  have hsm : Builtin.Range.small a b 1 = true := by
    unfold Builtin.Range.small Builtin.Range.rangeFitsLong
    rw [hsz]
    simp only [Bool.and_eq_true, Bool.or_eq_true, decide_eq_true_eq, beq_iff_eq]
    have : (1 : Int) > 0 := by decide
    simp only [this, if_true, Bool.and_eq_true, decide_eq_true_eq]
    refine ⟨⟨⟨⟨⟨?_, ?_⟩, ?_, ?_⟩, ?_⟩, ?_, ?_⟩, ?_⟩ <;> first | omega | decide | (right; constructor <;> omega)
  refine wpAny_pyIter_range hr hsm ?_
  rw [hsz]
  have S' := S.push { cls := .type "range_iterator", data := .fields #[rawInt a, rawInt n, rawInt 1] }
  refine for_any (OK := fun i ob => ob = rangeIt a n i) (V := fun i v => ∃ t, v = .int (a + (i : Nat)) t) J S' (by simp [rangeIt]) h0 ?_ ?_ ?_ done hx hp
  · rintro i m₁ news₁ ob s₁ P hi hJ rfl S₁ hP
    have hg : IsRangeIter s₁.heap s.heap.objs.size (a + (i : Nat)) ((n : Int) - (i : Nat)) 1 := S₁.get (.head _)
    refine wpAny_pyNext_range_item hg (by omega) fun h' hit hs => hP _ _ _ ⟨_, rfl⟩ rfl (S₁.upd hs ?_ _)
    have e1 : a + (i : Nat) + 1 = a + ((i + 1 : Nat) : Int) := by omega
    have e2 : (n : Int) - (i : Nat) - 1 = n - ((i + 1 : Nat) : Int) := by omega
    rw [e1, e2] at hit
    exact hit
  · rintro m₁ news₁ ob s₁ P hJ rfl S₁ hP
    have hg : IsRangeIter s₁.heap s.heap.objs.size (a + (n : Nat)) ((n : Int) - (n : Nat)) 1 := S₁.get (.head _)
    exact wpAny_pyNext_range_end hh hg (by omega) fun h' hs => hP _ (S₁.after hs _)
  · rintro i v m₁ news₁ ob s₁ hi ⟨t, rfl⟩ hJ S₁
    exact turn i t m₁ news₁ _ _ s₁ hi hJ S₁

/-- an iterator over the list at l, i items taken -/
def LIt (l : Addr) (i : Nat) (ob : Obj) : Prop := ob.cls = .type "list_iterator" ∧ ob.data = .fields #[.ref l, .int i 0]
/-- a loop over a list -/
theorem for_list {Q : Flow → Shared → Prop} {x : Str} {px : Pos} {body : List Stmt} {l : Addr} {vs : List Value} {lo : Obj} {e : Nat} (J : Nat → (Str → Option Value) → List (Addr × Obj) → Prop)
    (hh : A.handled = none) (S : Sf s₀ h₀ env.locals m news s) (hlo : lo = listOf vs.toArray e) (hl : ∀ i m₁ news₁ p s₁, J i m₁ news₁ → Sf s₀ h₀ env.locals m₁ (p :: news₁) s₁ → s₁.heap.get? l = some lo) (hl0 : s.heap.get? l = some lo) (h0 : J 0 m news)
    (turn : ∀ i v m₁ news₁ it ob s₁, i < vs.length → vs[i]? = some v → J i m₁ news₁ → Sf s₀ h₀ env.locals (up m₁ x v) ((it, ob) :: news₁) s₁ →
      wpAny (model prog w) A (execs body env) (TurnEnd Q fun s₂ => ∃ m₂ news₂, J (i + 1) m₂ news₂ ∧ Sf s₀ h₀ env.locals m₂ ((it, ob) :: news₂) s₂) NoE s₁)
    (done : ∀ m₁ news₁ s₁, J vs.length m₁ news₁ → Sf s₀ h₀ env.locals m₁ news₁ s₁ → Q .next s₁)
    (hx : env.kindOf x = some .local := by rfl) (hp : (env.scope.kind == .class || (env.scope.kind == .module && env.locals != env.globals)) = false := by rfl) :
    wpAny (model prog w) A (pyIter (.ref l)) (fun it s₂ => codeAny (model prog w) A (.forLoop (.Name x px) it body [] env) (fun r s' => match r with | .ok f => Q f s' | .error e => cameBackBy (model prog w) A env NoE e s') s₂) NoE s := by
  have isl : ∀ {h : Heap}, h.get? l = some lo → h.IsList l vs.toArray := fun hg => ⟨lo, hg, by rw [hlo], e, by rw [hlo]⟩
  refine wpAny_pyIter_list (isl hl0) ?_
  have S' := S.push { cls := .type "list_iterator", data := .fields #[.ref l, .int 0 0] }
  refine for_any (n := vs.length) (OK := LIt l) (V := fun i v => vs[i]? = some v) J S' ⟨rfl, rfl⟩ h0 ?_ ?_ ?_ done hx hp
  · intro i m₁ news₁ ob s₁ P hi hJ hob S₁ hP
    have hg : s₁.heap.IsListIter s.heap.objs.size l i := ⟨_, S₁.get (.head _), hob.1, hob.2⟩
    refine wpAny_pyNext_list_item hg (isl (hl _ _ _ _ _ hJ S₁)) (x := vs[i]) (by simp [hi]) fun h' hit hs => ?_
    obtain ⟨ob', hob', hc, hd⟩ := hit
    exact hP _ ob' _ (by simp [hi]) ⟨hc, hd⟩ (S₁.upd hs hob' _)
  · intro m₁ news₁ ob s₁ P hJ hob S₁ hP
    have hg : s₁.heap.IsListIter s.heap.objs.size l vs.length := ⟨_, S₁.get (.head _), hob.1, hob.2⟩
    exact wpAny_pyNext_list_end hh hg (isl (hl _ _ _ _ _ hJ S₁)) (by simp) fun h' hs => hP _ (S₁.after hs _)
  · intro i v m₁ news₁ ob s₁ hi hv hJ S₁
    exact turn i v m₁ news₁ _ _ s₁ hi hv hJ S₁
end
/-- a list of whole numbers -/
def IL (o : Obj) (ns : List Int) : Prop := ∃ vs e, o = listOf vs.toArray e ∧ IntsAre vs ns
theorem IL.isList {o : Obj} {ns : List Int} (h : IL o ns) : ∃ vs : List Value, IntsAre vs ns ∧ ∀ {hp : Heap} {l : Addr}, hp.get? l = some o → hp.IsList l vs.toArray := by
  obtain ⟨vs, e, rfl, hi⟩ := h
  exact ⟨vs, hi, fun hg => ⟨_, hg, rfl, e, rfl⟩⟩
theorem IntsAre.item {vs : List Value} {ns : List Int} (h : IntsAre vs ns) {i : Nat} (hi : i < ns.length) : ∃ t, vs[i]? = some (.int (ns.getD i 0) t) := by
  obtain ⟨t, e⟩ := h.get i ns[i] (by simp [hi])
  exact ⟨t, by rw [e]; simp [hi]⟩
theorem IntsAre.setAt : ∀ {vs : List Value} {ns : List Int}, IntsAre vs ns → ∀ (i : Nat) (n : Int) (t : Tok), IntsAre (vs.set i (.int n t)) (ns.set i n)
  | _, _, .nil, _, _, _ => by simpa using IntsAre.nil
  | _, _, .cons a ta r, 0, n, t => by simpa using IntsAre.cons n t r
  | _, _, .cons a ta r, i + 1, n, t => by simpa using IntsAre.cons a ta (IntsAre.setAt r i n t)
section
variable {prog : Program} {w : World} {K : Frag} {A : Around} {E : Value → Shared → Prop} {s s₀ : Shared} {h₀ : Heap} {env : Env} {m : Str → Option Value} {news pre post : List (Addr × Obj)} {L l : Addr} {ns ms : List Int} {o : Obj}

theorem Sf.updAt {a : Addr} {ob ob' : Obj} {h' : Heap} (S : Sf s₀ h₀ L m (pre ++ (a, ob) :: post) s) (hs : Heap.SameBut a s.heap h') (ho : h'.get? a = some ob') (tk : Nat := s.toks) :
    Sf s₀ h₀ L m (pre ++ (a, ob') :: post) { s with heap := h', toks := tk } :=
  ((S.perm List.perm_middle).upd hs ho tk).perm List.perm_middle.symm

theorem l_item {value slice : Expr} {k : Int} {u : Tok} {Q : Value → Shared → Prop} (hg : s.heap.get? l = some o) (hi : IL o ns) (h0 : 0 ≤ k) (h1 : k < ns.length) (hz : ns.length ≤ 1000000) (h : ∀ t, Q (.int (ns.getD k.toNat 0) t) s)
    (hs : subscripted slice false (.ref l) (.int k u) = operate [.ref l, .int k u] (getItem (.ref l) (.int k u)) := by with_unfolding_all rfl) :
    wpAny (model prog w) A (subscriptTail value slice (.ref l) (.int k u)) Q E s := by
  obtain ⟨vs, hvs, hl⟩ := hi.isList
  obtain ⟨t, ht⟩ := IntsAre.item hvs (i := k.toNat) (by omega)
  exact tail_any (hl hg).typeIs slot_list_getitem.lookup (wpAny_getItem_list (hl hg) h0 (by omega) (by simpa using ht) (h t)) hs
theorem l_len {Q : Value → Shared → Prop} (S : Sf s₀ h₀ L m news s) (hg : s.heap.get? l = some o) (hi : IL o ns) (hz : ns.length ≤ 1000000) (h : ∀ s' t, Sf s₀ h₀ L m news s' → Q (.int ns.length t) s') :
    wpAny (model prog w) A (call (.builtin "len") [.ref l]) Q E s := by
  obtain ⟨vs, hvs, hl⟩ := hi.isList
  have e : vs.toArray.size = ns.length := by simp [hvs.length]
  refine len_list (hl hg) (by rw [e]; omega) ?_
  rw [e]
  exact h _ _ (S.toks _)
theorem l_new {vs : List Value} {Q : Value → Shared → Prop} (S : Sf s₀ h₀ L m news s) (hi : IntsAre vs ns) (hz : ns.length ≤ 1000000) (h : ∀ a ob s', IL ob ns → Sf s₀ h₀ L m ((a, ob) :: news) s' → Q (.ref a) s') :
    wpAny (model prog w) A (newList vs) Q E s :=
  wpAny_newObj_type (h _ _ _ ⟨vs, 0, rfl, hi⟩ (S.push _)) (by show vs.toArray.size ≤ sizeLine; rw [List.size_toArray, hi.length]; unfold sizeLine; omega)
theorem l_append {n : Int} {t : Tok} {Q : Value → Shared → Prop} (S : Sf s₀ h₀ L m (pre ++ (l, o) :: post) s) (hi : IL o ns) (hz : ns.length ≤ 1000000) (h : ∀ ob s', IL ob (ns ++ [n]) → Sf s₀ h₀ L m (pre ++ (l, ob) :: post) s' → Q .none s') :
    wpAny (model prog w) A (call (.builtin "list.append") [.ref l, .int n t]) Q E s := by
  obtain ⟨vs, e, rfl, hvs⟩ := hi
  refine append_at (S.get (List.mem_append_right _ (.head _))) (fun h' hs ho => h _ _ ⟨vs ++ [.int n t], e + 1, ?_, hvs.append (.cons n t .nil)⟩ (S.updAt hs ho)) (by rw [List.size_toArray, hvs.length]; unfold sizeLine; omega)
  simp
theorem l_set {k n : Int} {t u : Tok} {Q : Unit → Shared → Prop} (S : Sf s₀ h₀ L m (pre ++ (l, o) :: post) s) (hi : IL o ns) (h0 : 0 ≤ k) (h1 : k < ns.length) (hz : ns.length ≤ 1000000) (h : ∀ ob s', IL ob (ns.set k.toNat n) → Sf s₀ h₀ L m (pre ++ (l, ob) :: post) s' → Q () s') :
    wpAny (model prog w) A (setItem (.ref l) (.int k u) (.int n t)) Q E s := by
  obtain ⟨vs, e, rfl, hvs⟩ := hi
  have hg := S.get (List.mem_append_right pre (.head post))
  refine ki_setAt hg h0 (by omega) (by rw [List.size_toArray, hvs.length]; exact h1) (h _ _ ⟨vs.set k.toNat (.int n t), e, rfl, IntsAre.setAt hvs _ _ _⟩ (S.updAt (Heap.SameBut.update ..) ?_))
  rw [Heap.get?_update_self _ hg rfl]
  simp [Obj.mapSeq]
theorem m_append {pl : Sem Bool} {Q : Value × List Value → Shared → Prop} (hg : s.heap.get? l = some o) (hi : IL o ns) (h : Q (.builtin "list.append", [.ref l]) s) : wpAny (model prog w) A (getMethod (.ref l) (Str.ofString "append") pl) Q E s := by
  obtain ⟨vs, e, rfl, hvs⟩ := hi
  exact getMethod_list_append hg rfl rfl h

theorem call_b {x : Str} {p pos : Pos} {e : Expr} {rest : List Expr} {id : String} {Q : Value → Shared → Prop} (S : Sf s₀ h₀ env.locals m news s) (G : Gl K h₀) (hn : nsIn K mainGlobals x = some none) (hv : bootBuiltins x = some (.builtin id))
    (h : wpAny (model prog w) A (spliced (backTo pos (starEach (e :: rest) env))) (fun vs s₁ => wpAny (model prog w) A (call (.builtin id) vs) Q E s₁) E s)
    (he : eval (.Call (.Name x p) (e :: rest) [] pos) env = (do callWith pos (← eval (.Name x p) env) [] (backTo pos (starEach (e :: rest) env)) (backToKw pos (keywordEach [] env))) := by rfl)
    (hx : x ≠ "__name__" := by decide) (hk : env.scope.kind = .function := by rfl) (hkx : env.kindOf x = some .globalImplicit := by rfl) (hg : env.globals = mainGlobals := by rfl) (hb : env.builtins = builtinsNs := by rfl) (hd : (x == ("__debug__" : Str)) = false := by decide)
    (hse : starEach (e :: rest) env = (false, eval e env) :: starEach rest env := by rfl) (hpl : (backTo pos (starEach rest env)).any (·.1) = false := by rfl) :
    wpAny (model prog w) A (eval (.Call (.Name x p) (e :: rest) [] pos) env) Q E s :=
  Call_ (nm_builtin S G hn hv (callWith_method1 (first := []) h hse hpl) hx hk hkx hg hb hd) he
theorem call_t {x : Str} {p pos : Pos} {e : Expr} {rest : List Expr} {T : String} {Q : Value → Shared → Prop} (S : Sf s₀ h₀ env.locals m news s) (G : Gl K h₀) (hn : nsIn K mainGlobals x = some none) (hv : bootBuiltins x = some (.type T))
    (h : wpAny (model prog w) A (spliced (backTo pos (starEach (e :: rest) env))) (fun vs s₁ => wpAny (model prog w) A (call (.type T) vs) Q E s₁) E s)
    (he : eval (.Call (.Name x p) (e :: rest) [] pos) env = (do callWith pos (← eval (.Name x p) env) [] (backTo pos (starEach (e :: rest) env)) (backToKw pos (keywordEach [] env))) := by rfl)
    (hx : x ≠ "__name__" := by decide) (hk : env.scope.kind = .function := by rfl) (hkx : env.kindOf x = some .globalImplicit := by rfl) (hg : env.globals = mainGlobals := by rfl) (hb : env.builtins = builtinsNs := by rfl) (hd : (x == ("__debug__" : Str)) = false := by decide)
    (hse : starEach (e :: rest) env = (false, eval e env) :: starEach rest env := by rfl) (hpl : (backTo pos (starEach rest env)).any (·.1) = false := by rfl) :
    wpAny (model prog w) A (eval (.Call (.Name x p) (e :: rest) [] pos) env) Q E s :=
  Call_ (nm_builtin S G hn hv (Pv.callWith_type1 h hse hpl) hx hk hkx hg hb hd) he
theorem call_d {x : Str} {p pos : Pos} {e : Expr} {rest : List Expr} {f : Addr} {Q : Value → Shared → Prop} (S : Sf s₀ h₀ env.locals m news s) (G : Gl K h₀) (hn : nsIn K mainGlobals x = some (some (.ref f))) (hf : keepIn K (.ref f) = true)
    (h : wpAny (model prog w) A (spliced (backTo pos (starEach (e :: rest) env))) (fun vs s₁ => K.In s₁.heap ∧ wpAny (model prog w) A (call (.ref f) vs) Q E s₁) E s)
    (he : eval (.Call (.Name x p) (e :: rest) [] pos) env = (do callWith pos (← eval (.Name x p) env) [] (backTo pos (starEach (e :: rest) env)) (backToKw pos (keywordEach [] env))) := by rfl)
    (hk : env.scope.kind = .function := by rfl) (hkx : env.kindOf x = some .globalImplicit := by rfl) (hg : env.globals = mainGlobals := by rfl) (hd : (x == ("__debug__" : Str)) = false := by decide)
    (hse : starEach (e :: rest) env = (false, eval e env) :: starEach rest env := by rfl) (hpl : (backTo pos (starEach rest env)).any (·.1) = false := by rfl) :
    wpAny (model prog w) A (eval (.Call (.Name x p) (e :: rest) [] pos) env) Q E s :=
  Call_ (nm_global S G hn (callWith_K (first := []) (S.gl G).inn hf h hse hpl) hk hkx hg hd) he
/-- range(n), range(a, b) -/
theorem rg_1 {n : Int} {t : Tok} {Q : Value → Shared → Prop} (S : Sf s₀ h₀ L m news s) (h : ∀ r s' t u v, IsRange s'.heap r 0 n 1 t u v → Sf s₀ h₀ L m news s' → Q (.ref r) s') :
    wpAny (model prog w) A (call (.type "range") [.int n t]) Q E s :=
  call_range_1 (h _ _ _ _ _ (IsRange.new ..) (S.push { cls := .type "range", data := .fields #[.int 0 s.toks, .int n t, .int 1 (s.toks + 1)] } rfl _).tail)
theorem rg_2 {a b : Int} {t u : Tok} {Q : Value → Shared → Prop} (S : Sf s₀ h₀ L m news s) (h : ∀ r s' t u v, IsRange s'.heap r a b 1 t u v → Sf s₀ h₀ L m news s' → Q (.ref r) s') :
    wpAny (model prog w) A (call (.type "range") [.int a t, .int b u]) Q E s :=
  call_range_2 (h _ _ _ _ _ (IsRange.new ..) (S.push { cls := .type "range", data := .fields #[.int a t, .int b u, .int 1 s.toks] } rfl _).tail)

/-- what a call leaves: all but W as it was -/
structure Out (W : List Addr) (s s' : Shared) : Prop where
  keep : ∀ b o, b ∉ W → s.heap.get? b = some o → s'.heap.get? b = some o
  g : s'.gens = s.gens
  d : s'.drawn = s.drawn
  o : s'.os = s.os
/-- an object that the call has made -/
def New (s s' : Shared) (a : Addr) (ob : Obj) : Prop := s'.heap.get? a = some ob ∧ s.heap.get? a = none
theorem Sf.out {s' : Shared} (S : Sf s s.heap L m news s') : Out [] s s' := ⟨fun b o _ e => S.F.keep b o e, S.g, S.d, S.o⟩
theorem Sf.new {s' : Shared} {a : Addr} {ob : Obj} (S : Sf s s.heap L m news s') (h : (a, ob) ∈ news) : New s s' a ob := ⟨(S.N _ h).1, (S.N _ h).2.2⟩
theorem Sf.call {s' : Shared} (S : Sf s₀ h₀ L m news s) (O : Out [] s s') : Sf s₀ h₀ L m news s' := by
  refine ⟨⟨S.F.ns.at' (fun o e => O.keep _ o (by simp) e), fun b o e => O.keep b o (by simp) (S.F.keep b o e), S.F.above⟩, fun p hp => ?_, S.D, O.g.trans S.g, O.d.trans S.d, O.o.trans S.o⟩
  exact ⟨O.keep _ _ (by simp) (S.N p hp).1, (S.N p hp).2⟩
theorem Sf.call1 {s' : Shared} {a : Addr} {ob : Obj} (S : Sf s₀ h₀ L m news s) (O : Out [] s s') (N : New s s' a ob) : Sf s₀ h₀ L m ((a, ob) :: news) s' := by
  have S' := S.call O
  have hL : a ≠ L := by
    obtain ⟨oL, _, _, hg, _⟩ := S.F.ns
    intro e
    rw [← e, N.2] at hg
    cases hg
  refine ⟨S'.F, fun p hp => ?_, List.nodup_cons.mpr ⟨fun h => ?_, S'.D⟩, S'.g, S'.d, S'.o⟩
  · rcases List.mem_cons.mp hp with rfl | hp
    · refine ⟨N.1, hL, ?_⟩
      cases q : h₀.get? a with
      | none => rfl
      | some o => have := S.F.keep _ _ q; rw [N.2] at this; cases this
    · exact S'.N p hp
  · obtain ⟨p, hp, e⟩ := List.mem_map.mp h
    have := (S.N p hp).1
    rw [e, N.2] at this
    cases this
end
theorem allT (n : Nat) : ((List.range n).all fun _ => true) = true := List.all_eq_true.mpr fun _ _ => rfl
abbrev tupOf (vs : List Value) : Obj := { cls := .type "tuple", data := .seq vs.toArray }
section
variable {prog : Program} {w : World} {K : Frag} {A : Around} {E : Value → Shared → Prop} {s s₀ : Shared} {h₀ : Heap} {env : Env} {m : Str → Option Value} {news pre post : List (Addr × Obj)} {L l : Addr} {ns ms : List Int} {o : Obj}
theorem t_new {vs : List Value} {Q : Value → Shared → Prop} (S : Sf s₀ h₀ L m news s) (hz : vs.length ≤ 1000) (h : ∀ a s', Sf s₀ h₀ L m ((a, tupOf vs) :: news) s' → Q (.ref a) s') :
    wpAny (model prog w) A (newTuple vs) Q E s :=
  wpAny_newObj_type (h _ _ (S.push _)) (by show vs.toArray.size ≤ sizeLine; rw [List.size_toArray]; unfold sizeLine; omega)
theorem in_tup2 {x a b : Int} {tx ta tb : Tok} {Q : Value → Shared → Prop} (S : Sf s₀ h₀ L m ((l, tupOf [.int a ta, .int b tb]) :: news) s) (h : Q (.bool (decide (x = a ∨ x = b))) s) :
    wpAny (model prog w) A (compareOp .In (.int x tx) (.ref l)) Q E s := by
  refine SeqAt.in_tupleAt (items := #[.int a ta, .int b tb]) (fun y => match y with | .int i _ => i == x | _ => false) ⟨_, S.get (.head _), rfl, 0, rfl⟩ (fun y hy => ?_) ?_
  · simp at hy
    rcases hy with rfl | rfl <;> exact SeqAt.EqAt.int_int _ _ _ _
  · have e : (#[Value.int a ta, Value.int b tb].any fun y => match y with | .int i _ => i == x | _ => false) = decide (x = a ∨ x = b) := by
      rw [List.any_toArray]
      show ((a == x) || ((b == x) || false)) = _
      rw [Bool.or_false, Bool.eq_iff_iff, Bool.or_eq_true, beq_iff_eq, beq_iff_eq, decide_eq_true_eq]
      exact ⟨fun h => h.imp Eq.symm Eq.symm, fun h => h.imp Eq.symm Eq.symm⟩
    rw [e]
    exact h
/-- two lists of the same numbers are not unequal -/
theorem ne_same {l₁ l₂ : Addr} {o₁ o₂ : Obj} {Q : Value → Shared → Prop} (hu : A.units < cLine) (g1 : s.heap.get? l₁ = some o₁) (i1 : IL o₁ ns) (g2 : s.heap.get? l₂ = some o₂) (i2 : IL o₂ ns) (h : Q (.bool false) s) :
    wpAny (model prog w) A (compareOp .NotEq (.ref l₁) (.ref l₂)) Q E s := by
  obtain ⟨v1, e1, r1⟩ := i1.isList
  obtain ⟨v2, e2, r2⟩ := i2.isList
  have hsz : v1.toArray.size = v2.toArray.size := by simp [e1.length, e2.length]
  refine SeqAt.RcNeAt.lists (e := fun _ => true) (r1 g1) (r2 g2) hsz hu (fun j h1 h2 => ?_) prog w E Q (by rw [allT]; exact h)
  obtain ⟨t1, q1⟩ := IntsAre.item e1 (i := j) (by simpa [e1.length] using h1)
  obtain ⟨t2, q2⟩ := IntsAre.item e2 (i := j) (by simpa [e2.length] using h2)
  have a1 : v1.toArray[j] = .int (ns.getD j 0) t1 := by
    have := List.getElem?_eq_some_iff.mp q1
    obtain ⟨_, e⟩ := this
    simpa using e
  have a2 : v2.toArray[j] = .int (ns.getD j 0) t2 := by
    have := List.getElem?_eq_some_iff.mp q2
    obtain ⟨_, e⟩ := this
    simpa using e
  rw [a1, a2]
  have := SeqAt.EqAt.int_int (A := A.in1) (s := s) (ns.getD j 0) t1 (ns.getD j 0) t2
  simpa using this
theorem neT_same {l₁ l₂ : Addr} {a b : Int} {t1 t2 t3 t4 : Tok} {Q : Value → Shared → Prop} (hu : A.units < cLine) (g1 : s.heap.get? l₁ = some (tupOf [.int a t1, .int b t2])) (g2 : s.heap.IsTuple l₂ #[.int a t3, .int b t4]) (h : Q (.bool false) s) :
    wpAny (model prog w) A (compareOp .NotEq (.ref l₁) (.ref l₂)) Q E s := by
  refine SeqAt.RcNeAt.tuples (items := #[.int a t1, .int b t2]) (items2 := #[.int a t3, .int b t4]) (e := fun _ => true) ⟨_, g1, rfl, 0, rfl⟩ g2 hu (fun j h1 h2 => ?_) prog w E Q (by rw [allT]; exact h)
  match j, h1 with
  | 0, _ => simpa using SeqAt.EqAt.int_int (A := A.in1) (s := s) a t1 a t3
  | 1, _ => simpa using SeqAt.EqAt.int_int (A := A.in1) (s := s) b t2 b t4
theorem if_const {c : Prop} [Decidable c] {i j : Int} {k k' : Nat} {p p' : Pos} {Q : Value → Shared → Prop} (S : Sf s₀ h₀ L m news s) (h : ∀ s' t, Sf s₀ h₀ L m news s' → Q (.int (if c then i else j) t) s') :
    if decide c = true then wpAny (model prog w) A (eval (.Constant (.int i) k p) env) Q E s else wpAny (model prog w) A (eval (.Constant (.int j) k' p') env) Q E s := by
  by_cases hc : c
  · rw [if_pos (decide_eq_true hc)]
    exact c_int S fun s' t S' => by have := h s' t S'; rwa [if_pos hc] at this
  · rw [if_neg (by simpa using hc)]
    exact c_int S fun s' t S' => by have := h s' t S'; rwa [if_neg hc] at this
end
/-- a StopIteration that has just been made; all but W stays -/
structure Stop (W : List Addr) (h h' : Heap) (e : Addr) : Prop where
  keep : ∀ b o, b ∉ W → h.get? b = some o → h'.get? b = some o
  new : h.get? e = none
  there : ∃ ob t, h'.get? e = some ob ∧ ob.cls = .type "StopIteration" ∧ ob.data = .fields #[t, .none, .none, .none, .bool false, .none]
section
variable {prog : Program} {w : World} {K : Frag} {A : Around} {E : Value → Shared → Prop} {s s₀ : Shared} {h₀ : Heap} {env : Env} {m : Str → Option Value} {news pre post : List (Addr × Obj)} {L l it : Addr} {ns : List Int} {o ob : Obj}

theorem i_iter {Q : Value → Shared → Prop} (S : Sf s₀ h₀ L m news s) (hg : s.heap.get? l = some o) (hi : IL o ns) (h : ∀ it ob s', LIt l 0 ob → Sf s₀ h₀ L m ((it, ob) :: news) s' → Q (.ref it) s') :
    wpAny (model prog w) A (call (.builtin "iter") [.ref l]) Q E s := by
  obtain ⟨vs, hvs, hl⟩ := hi.isList
  refine call_function_entry (by decide +kernel) (by decide +kernel) kdk_entry_iter (kdk_args_iter _) ?_
  unfold Builtin.«iter»
  refine wpAny_bind (m := someArgs "iter" 1 2 _) (wpAny_of_eq (a := [Value.ref l]) (by first | rfl | kernel_rfl!) ?_)
  show wpAny _ _ (pyIter (.ref l) >>= _) _ _ _
  refine wpAny_bind (wpAny_pyIter_list (hl hg) ?_)
  exact wpAny_pure ⟨_, rfl, h _ _ _ ⟨rfl, rfl⟩ (S.push _)⟩

theorem next_enter {P : Value → Shared → Prop} (hit : s.heap.IsListIter it l i) 
    (h : wpAny (model prog w) A.in1 (callSpecial? (.ref it) (Str.ofString "__next__")) (fun r s' => ∃ v, r = some v ∧ P v s') E s) :
    wpAny (model prog w) A (call (.builtin "next") [.ref it]) P E s := by
  refine call_function_entry (by decide +kernel) (by decide +kernel) kdk_entry_next (kdk_args_next _) ?_
  unfold Builtin.«next»
  refine wpAny_bind (m := someArgs "next" 1 2 _) (wpAny_of_eq (a := [Value.ref it]) (by first | rfl | kernel_rfl!) ?_)
  dsimp only
  refine wpAny_bind (wpAny_specialOf (name := Str.ofString "__next__") hit.typeIs slot_listiter_next.lookup ?_)
  refine wpAny_ite_split (fun hab => absurd hab (by decide)) (fun _ => ?_)
  refine wpAny_bind (wpAny_mono h (fun r s' hr => ?_) fun _ _ x => x)
  obtain ⟨v, rfl, hv⟩ := hr
  exact wpAny_pure ⟨_, rfl, hv⟩

theorem n_item {i : Nat} {lo : Obj} {Q : Value → Shared → Prop} (S : Sf s₀ h₀ L m ((it, ob) :: news) s) (hob : LIt l i ob) (hg : s.heap.get? l = some lo) (hi : IL lo ns) (hlt : i < ns.length)
    (h : ∀ t ob' s', LIt l (i + 1) ob' → Sf s₀ h₀ L m ((it, ob') :: news) s' → Q (.int (ns.getD i 0) t) s') :
    wpAny (model prog w) A (call (.builtin "next") [.ref it]) Q E s := by
  obtain ⟨vs, hvs, hl⟩ := hi.isList
  have hx := S.get (.head _)
  have hit : s.heap.IsListIter it l i := ⟨_, hx, hob.1, hob.2⟩
  obtain ⟨t, ht⟩ := IntsAre.item hvs hlt
  refine next_enter hit ?_
  refine wpAny_callSpecial?_slot (name := Str.ofString "__next__") hit.typeIs slot_listiter_next (wpAny_call_entry slot_listiter_next hit.typeIs entry_listiter_next ?_ (args_listiter_next _))
  obtain ⟨ol, hol, _, nl, hdl⟩ := hl hg
  show wpAny _ _ (field (.ref it) 0 >>= _) _ _ s
  refine wpAny_bind (wpAny_field hx hob.2 (x := .ref l) rfl ?_)
  show wpAny _ _ (if (Value.ref l == Value.none) = true then _ else _) _ _ s
  rw [if_neg (show ¬ ((Value.ref l == Value.none) = true) from Bool.false_ne_true)]
  show wpAny _ _ (field (.ref it) 1 >>= _) _ _ s
  refine wpAny_bind (wpAny_field hx hob.2 (x := .int i 0) rfl ?_)
  show wpAny _ _ (seqItems? (.ref l) >>= _) _ _ s
  refine wpAny_bind (wpAny_seqItems hol hdl ?_)
  have hxs : vs.toArray[i]? = some (.int (ns.getD i 0) t) := by simpa using ht
  simp only [Int.toNat_natCast, hxs]
  refine wpAny_bind (wpAny_setField hx hob.2 (by simp) (wpAny_pure ⟨_, rfl, _, rfl, ?_⟩))
  refine h t _ _ ⟨(Obj.cls_mapFields ..).trans hob.1, ?_⟩ (S.upd (Heap.SameBut.update ..) (Heap.get?_update_self _ hx (Obj.isFreed_of_fields (Obj.data_mapFields hob.2 _))))
  rw [Obj.data_mapFields hob.2]
  simp [rawInt]

theorem n_end {i : Nat} {lo : Obj} {Q : Value → Shared → Prop} (hh : A.handled = none) (hx : s.heap.get? it = some ob) (hob : LIt l i ob) (hg : s.heap.get? l = some lo) (hi : IL lo ns) (hlt : ns.length ≤ i)
    (h : ∀ e h', Stop [it] s.heap h' e → E (.ref e) { s with heap := h' }) :
    wpAny (model prog w) A (call (.builtin "next") [.ref it]) Q E s := by
  obtain ⟨vs, hvs, hl⟩ := hi.isList
  have hit : s.heap.IsListIter it l i := ⟨_, hx, hob.1, hob.2⟩
  refine next_enter hit ?_
  refine wpAny_callSpecial?_slot (name := Str.ofString "__next__") hit.typeIs slot_listiter_next (wpAny_call_entry slot_listiter_next hit.typeIs entry_listiter_next ?_ (args_listiter_next _))
  obtain ⟨ol, hol, _, nl, hdl⟩ := hl hg
  show wpAny _ _ (field (.ref it) 0 >>= _) _ _ s
  refine wpAny_bind (wpAny_field hx hob.2 (x := .ref l) rfl ?_)
  show wpAny _ _ (if (Value.ref l == Value.none) = true then _ else _) _ _ s
  rw [if_neg (show ¬ ((Value.ref l == Value.none) = true) from Bool.false_ne_true)]
  show wpAny _ _ (field (.ref it) 1 >>= _) _ _ s
  refine wpAny_bind (wpAny_field hx hob.2 (x := .int i 0) rfl ?_)
  show wpAny _ _ (seqItems? (.ref l) >>= _) _ _ s
  refine wpAny_bind (wpAny_seqItems hol hdl ?_)
  have hxs : vs.toArray[i]? = none := by simp [hvs.length, hlt]
  simp only [Int.toNat_natCast, hxs]
  refine wpAny_bind (wpAny_rule (wpAny_bind (wpAny_setField hx hob.2 (by simp) ?_)))
  show wpAny _ _ (newExc (.type "StopIteration") [] >>= _) _ _ _
  refine wpAny_bind ?_
  simp only [newExc, newTuple]
  refine wpAny_bind (wpAny_newObj_type ?_ (by size_fits))
  refine wpAny_bind (m := firstArgMember _ _) (wpAny_of_eq (a := Value.none) (by first | rfl | (simp only [firstArgMember]; rfl)) ?_)
  refine wpAny_newObj_type ?_ (by size_fits)
  simp only [raiseNew]
  refine wpAny_bind (wpAny_handled ?_)
  rw [show A.in1.in1.handled = none from hh]
  refine wpAny_bind (wpAny_pure (wpAny_throw ?_))
  refine h _ _ ⟨fun b o' hb e => ?_, ?_, _, _, Heap.get?_push_size _ rfl, rfl, rfl⟩
  · exact Heap.get?_push_of_some _ (Heap.get?_push_of_some _ ((Heap.get?_update_other _ _ (fun q => hb (by simp [q]))).trans e))
  · exact Heap.get?_none_of_le (by simp [Heap.size_push, Heap.size_after_update])
end
section
variable {prog : Program} {w : World} {K : Frag} {A : Around} {E : Value → Shared → Prop} {s s₀ : Shared} {h₀ : Heap} {env : Env} {m : Str → Option Value} {news pre post : List (Addr × Obj)} {L l it : Addr} {ns : List Int} {o ob : Obj}

theorem r_whileE {Q : Flow → Shared → Prop} {test : Expr} {body orelse : List Stmt} {pos : Pos} (I : Nat → Shared → Prop) (hE : PassesOwn (model prog w) A env E)
    (turn : ∀ n s, I n s → wpAny (model prog w) A (isTrue test env (eval test env)) (fun b s₂ =>
      if b = true then wpAny (model prog w) A (execs body env) (TurnEnd Q fun s₃ => ∃ k, k < n ∧ I k s₃) E s₂ else wpAny (model prog w) A (execs orelse env) Q E s₂) E s)
    (n : Nat) (h : I n s) : wpAny (model prog w) A (exec (.While test body orelse pos) env) Q E s := by
  refine wpAny_While (codeAny_whileLoop I (fun n s hI => ?_) n h)
  refine wpAny_mono (turn n s hI) (fun b s₂ h₂ => ?_) hE
  cases b with
  | false =>
    simp only [Bool.false_eq_true, if_false] at h₂ ⊢
    exact wpAny_mono h₂ (fun _ _ x => x) hE
  | true =>
    simp only [if_true] at h₂ ⊢
    refine wpAny_mono h₂ (fun f s₃ h₃ => ?_) hE
    cases f <;> exact h₃

/-- a def is entered that changes the object at it; it may raise -/
theorem enterW {Q : Value → Shared → Prop} {name qual : Str} {params : Arguments} {body : List Stmt} {scope : Scope} {dV kV doc pm cdv ct oc : Value} {an od : Option Addr} {osl : Array (Option Value)} {f : Addr} {vs : List Value} {binds : List (Str × Value)}
    (G : Gl K (s.heap.hide it)) (hx : s.heap.get? it = some ob) (ho : K.lookup f = some ⟨oc, od, .func (fnOf name qual params body scope dV kV doc pm an cdv ct), osl⟩) (hcd : codeIn K cdv qual = true) (hroom : A.depth < recursionLimit)
    (hbind : bindArgs (fnOf name qual params body scope dV kV doc pm an cdv ct) ⟨vs, []⟩ = pure binds) (hloc : ∀ y ∈ binds, scope.names.lookup y.1 = some .local)
    (h : ∀ s' : Shared, Sf s (s.heap.hide it) (envOf qual scope s.heap.objs.size f cdv).locals (fun y => binds.reverse.lookup y) [(it, ob)] s' →
      wpAny (model prog w) (A.deeper (envOf qual scope s.heap.objs.size f cdv)) (execs body (envOf qual scope s.heap.objs.size f cdv)) (fun fl s'' => Q (retOf fl) s'')
        (fun e s'' => wpAny (model prog w) (A.deeper (envOf qual scope s.heap.objs.size f cdv)) (leaving (envOf qual scope s.heap.objs.size f cdv) e) (fun _ s₃ => E e s₃) E s'') s')
    (hco : scope.isCoroutine = false := by rfl) (hgen : scope.isGenerator = false := by rfl) (hk : scope.kind = .function := by rfl)
    (hcell : ∀ x ∈ scope.names, x.2 ≠ .cell := by decide) : wpAny (model prog w) A (call (.ref f) vs) Q E s := by
  have G' : Gl K s.heap := G.keeps fun b o e => Heap.of_hide e
  refine wpAny_call (codeAny_call_def (fd := fnOf name qual params body scope dV kV doc pm an cdv ct) (body := body) (binds := binds) hroom (G'.inn _ _ ho) rfl G'.lim (codeRec_of G'.inn hcd) rfl (BindsTo.of_eq hbind) hcell hloc (fun h₁ hns hk₁ => ?_) hco hgen hk)
  have hlt := Heap.lt_size hx
  refine wpAny_mono (h _ ⟨⟨hns, fun b o e => hk₁ b o (Heap.of_hide e), Nat.le_of_eq (Heap.hide_size ..)⟩, ?_, by simp, rfl, rfl, rfl⟩) (fun fl s' hq => ?_) fun _ _ x => x
  · intro p hp
    rw [List.mem_singleton.mp hp]
    exact ⟨hk₁ _ _ hx, Nat.ne_of_lt hlt, Heap.hide_self ..⟩
  · cases fl <;> exact hq
theorem Sf.outW {s' : Shared} (S : Sf s (s.heap.hide it) L m news s') : Out [it] s s' :=
  ⟨fun b o hb e => S.F.keep b o ((Heap.hide_ne _ (fun q => hb (by simp [q]))).trans e), S.g, S.d, S.o⟩
/-- the caller's side: the object at it is another one now -/
theorem Sf.callW {s' : Shared} {ob' : Obj} (S : Sf s₀ h₀ L m ((it, ob) :: news) s) (O : Out [it] s s') (hx : s'.heap.get? it = some ob') : Sf s₀ h₀ L m ((it, ob') :: news) s' := by
  have hz := S.N (it, ob) (.head _)
  have hne : ∀ p ∈ news, p.1 ≠ it := fun p hp e => (List.nodup_cons.mp S.D).1 (List.mem_map.mpr ⟨p, hp, e⟩)
  refine ⟨⟨S.F.ns.at' (fun o e => O.keep _ o (by simpa using Ne.symm hz.2.1) e), fun b o e => O.keep b o (fun q => ?_) (S.F.keep b o e), S.F.above⟩, fun p hp => ?_, S.D, O.g.trans S.g, O.d.trans S.d, O.o.trans S.o⟩
  · rw [List.mem_singleton.mp q, hz.2.2] at e; cases e
  · rcases List.mem_cons.mp hp with rfl | hp
    · exact ⟨hx, hz.2⟩
    · have := S.N p (.tail _ hp)
      exact ⟨O.keep _ _ (by simpa using hne p hp) this.1, this.2⟩
theorem Sf.glW (S : Sf s₀ h₀ L m ((it, ob) :: news) s) (G : Gl K h₀) : Gl K (s.heap.hide it) := by
  have hz := S.N (it, ob) (.head _)
  refine G.keeps fun b o e => (Heap.hide_ne _ (fun q => ?_)).trans (S.F.keep b o e)
  rw [q, hz.2.2] at e
  cases e
end

/-- a name that holds the number v -/
def IV (m : Str → Option Value) (x : Str) (v : Int) : Prop := ∃ t, m x = some (.int v t)
theorem IV.mk {m : Str → Option Value} {x : Str} {v v' : Int} {t : Tok} (h : m x = some (.int v t)) (e : v = v') : IV m x v' := ⟨t, by rw [h, e]⟩

/-- the number that octets tell: k of them from i on -/
def valL (os : List Int) (i : Nat) : Nat → Int
  | 0 => 0
  | k + 1 => 64 * valL os i k + os.getD (i + k) 0 % 64
theorem valL_lt (os : List Int) (i : Nat) : ∀ k, 0 ≤ valL os i k ∧ valL os i k < 64 ^ k
  | 0 => ⟨Int.le_refl 0, show (0 : Int) < 1 by decide⟩
  | k + 1 => by
    have ih := valL_lt os i k
    have h1 := Int.emod_nonneg (os.getD (i + k) 0) (show (64 : Int) ≠ 0 by decide)
    have h2 := Int.emod_lt_of_pos (os.getD (i + k) 0) (show (0 : Int) < 64 by decide)
    simp only [valL, Int.pow_succ]
    omega
theorem nat64 {a : Int} {n : Nat} (h0 : 0 ≤ a) (h : a < 64 ^ n) : a.natAbs < 2 ^ (6 * n) := by
  obtain ⟨x, rfl⟩ := Int.eq_ofNat_of_zero_le h0
  rw [Nat.pow_mul]
  show x < (2 ^ 6) ^ n
  have e : ((64 : Nat) : Int) ^ n = ((64 ^ n : Nat) : Int) := by simp
  have h' : (x : Int) < ((64 ^ n : Nat) : Int) := by rw [← e]; exact h
  exact Int.ofNat_lt.mp h'
theorem bitOr64 {a b : Int} (ha : 0 ≤ a) (hb : 0 ≤ b) (hb2 : b < 64) : Builtin.bitOr (a * 64) b = a * 64 + b := by
  obtain ⟨x, rfl⟩ := Int.eq_ofNat_of_zero_le ha
  obtain ⟨y, rfl⟩ := Int.eq_ofNat_of_zero_le hb
  have h1 : decide ((0 : Int) ≤ Builtin.bitNot ((x : Int) * 64)) = false := decide_eq_false (by unfold Builtin.bitNot; omega)
  have h2 : decide ((0 : Int) ≤ Builtin.bitNot (y : Int)) = false := decide_eq_false (by unfold Builtin.bitNot; omega)
  have e1 : (Builtin.bitNot (Builtin.bitNot ((x : Int) * 64))).toNat = 2 ^ 6 * x := by unfold Builtin.bitNot; omega
  have e2 : (Builtin.bitNot (Builtin.bitNot (y : Int))).toNat = y := by unfold Builtin.bitNot; omega
  have h3 := Nat.two_pow_add_eq_or_of_lt (i := 6) (b := y) (by omega) x
  unfold Builtin.bitOr Builtin.bitAnd
  rw [h1, h2]
  show Builtin.bitNot (Builtin.bitNot (((Builtin.bitNot (Builtin.bitNot ((x : Int) * 64))).toNat ||| (Builtin.bitNot (Builtin.bitNot (y : Int))).toNat : Nat) : Int)) = _
  rw [e1, e2, ← h3]
  unfold Builtin.bitNot
  omega
theorem and64 {b : Int} (h0 : 0 ≤ b) (h1 : b < 256) : Builtin.bitAnd b 64 = 64 * (b / 64 % 2) := by
  obtain ⟨n, rfl⟩ := Int.eq_ofNat_of_zero_le h0
  have key : ∀ n : Nat, n < 256 → Builtin.bitAnd (n : Int) 64 = 64 * ((n : Int) / 64 % 2) := by decide +kernel
  exact key n (by omega)
/-- a StopIteration that flies through the frames outer -/
structure Flies (base : Heap) (outer : List Env) (s s' : Shared) (e : Addr) : Prop where
  fly : ∃ a0, Heap.FlyingW base outer e (.type "StopIteration") a0 s'.heap
  upto : s.heap.UpToSlots s'.heap
  g : s'.gens = s.gens
  d : s'.drawn = s.drawn
  o : s'.os = s.os
section
variable {prog : Program} {w : World} {K : Frag} {A : Around} {E : Value → Shared → Prop} {s s₀ s₂ : Shared} {h₀ base : Heap} {env : Env} {outer : List Env} {m : Str → Option Value} {news pre post : List (Addr × Obj)} {L l it e : Addr} {ns : List Int} {o ob ob' : Obj} {i : Nat}

theorem stop_leave {h' : Heap} (hx : s.heap.get? it = some ob) (hob : LIt l i ob) (hfr : A.frames = some outer) (hbs : base.StaysIn s.heap) (hbit : base.get? it = none) (hff : s.heap.FunFrames base outer)
    (S : Sf s (s.heap.hide it) L m [(it, ob')] s₂) (hs : Stop [it] s₂.heap h' e) (hL : s.heap.objs.size ≤ L) (hf : env.frame = some L) (hk : env.scope.kind ≠ .module)
    (h : ∀ e s', Flies base outer s s' e → E (.ref e) s') :
    wpAny (model prog w) (A.deeper env) (leaving env (.ref e)) (fun _ s₃ => E (.ref e) s₃) E { s₂ with heap := h' } := by
  have nofields : ∀ b o, s.heap.get? b = some o → (∀ vs, o.data ≠ .fields vs) → b ≠ it := by
    intro b o hb hn q
    rw [q, hx] at hb
    exact hn _ ((Option.some.inj hb) ▸ hob.2)
  have keep : ∀ b o, b ≠ it → s.heap.get? b = some o → h'.get? b = some o := fun b o hb e =>
    hs.keep b o (by simpa using hb) (S.F.keep b o ((Heap.hide_ne _ hb).trans e))
  have bne : ∀ b o, base.get? b = some o → b ≠ it := fun b o e q => by rw [q, hbit] at e; cases e
  have hLit : L ≠ it := fun q => (S.N (it, ob') (.head _)).2.1 q.symm
  have hbL : base.get? L = none := by
    cases hq : base.get? L with
    | none => rfl
    | some o => exact absurd (Heap.lt_size (hbs _ _ hq)) (Nat.not_lt.mpr hL)
  obtain ⟨oe, t, he, hc, hd⟩ := hs.there
  have hns : h'.Ns L m := S.F.ns.at' fun o e => hs.keep _ o (by simpa using hLit) e
  have hen : base.get? e = none := by
    cases hq : base.get? e with
    | none => rfl
    | some o =>
      have := S.F.keep e o ((Heap.hide_ne _ (bne _ _ hq)).trans (hbs _ _ hq))
      rw [hs.new] at this
      cases this
  refine wpAny_leaving_firstW (base := base) (a0 := t) (Around.frames_deeper hfr) (Heap.FunFrames.cons hk hf hns hbL (hff.of_keeps fun b o hb hn => ⟨o, keep b o (nofields b o hb hn) hb, rfl⟩)) hf he
    (fun b o q => keep b o (bne b o q) (hbs b o q)) hen hd rfl rfl fun h'' hLf => ?_
  obtain ⟨k1, ⟨_, _, k2⟩, k3, k4⟩ := hLf
  refine h _ _ ⟨⟨t, k1, hen, k2, hc ▸ k3⟩, fun b o hb hn => k4 b o (keep b o (nofields b o hb hn) hb) hn, S.g, S.d, S.o⟩
end
section
variable {prog : Program} {w : World} {K : Frag} {A : Around} {E : Value → Shared → Prop} {s s₀ : Shared} {h₀ : Heap} {env : Env} {m : Str → Option Value} {news pre post : List (Addr × Obj)} {L l : Addr} {ns ms : List Int} {o : Obj}

theorem Sf.mkN {a : Addr} {ob : Obj} {h' : Heap} (S : Sf s₀ h₀ L m news s) (F' : Fr h₀ L h' m) (N' : News h₀ L h' ((a, ob) :: news)) (ha : ∀ p ∈ news, p.1 ≠ a) (tk : Nat := s.toks) :
    Sf s₀ h₀ L m ((a, ob) :: news) { s with heap := h', toks := tk } :=
  ⟨F', N', List.nodup_cons.mpr ⟨fun h => by obtain ⟨p, hp, e⟩ := List.mem_map.mp h; exact ha p hp e, S.D⟩, S.g, S.d, S.o⟩
theorem Sf.lt (S : Sf s₀ h₀ L m news s) : ∀ p ∈ news, p.1 < s.heap.objs.size := fun p hp => Heap.lt_size (S.N p hp).1
theorem repl_ints {n : Int} {t : Tok} : ∀ k : Nat, IntsAre (List.replicate k (Value.int n t)) (List.replicate k n)
  | 0 => .nil
  | k + 1 => by simpa [List.replicate_succ] using IntsAre.cons n t (repl_ints k)
theorem flat_ints {vs : List Value} (h : IntsAre vs ns) : ∀ k : Nat, IntsAre (List.replicate k vs).flatten (List.replicate k ns).flatten
  | 0 => by simpa using IntsAre.nil
  | k + 1 => by simpa [List.replicate_succ] using h.append (flat_ints h k)
theorem l_mul {n : Int} {t : Tok} {Q : Value → Shared → Prop} (S : Sf s₀ h₀ L m news s) (hg : s.heap.get? l = some o) (hi : IL o ns) (h0 : 0 ≤ n) (hn : n ≤ 1000) (hz : ns.length * n.toNat ≤ 256)
    (h : ∀ a ob s', IL ob (List.replicate n.toNat ns).flatten → Sf s₀ h₀ L m ((a, ob) :: news) s' → Q (.ref a) s') :
    wpAny (model prog w) A (binaryOp .Mult (.ref l) (.int n t)) Q E s := by
  obtain ⟨vs, hvs, hl⟩ := hi.isList
  refine KMa.mul S.F S.N (hl hg) (by omega) (by omega) (by rw [hvs.length]; exact hz) rfl fun D h' F' N' hlt => ?_
  exact h D _ _ ⟨_, 0, rfl, flat_ints hvs _⟩ (S.mkN F' N' fun p hp => Nat.ne_of_lt (hlt p hp))
theorem l_add {l₂ : Addr} {o₂ : Obj} {Q : Value → Shared → Prop} (S : Sf s₀ h₀ L m news s) (hg : s.heap.get? l = some o) (hi : IL o ns) (hg₂ : s.heap.get? l₂ = some o₂) (hi₂ : IL o₂ ms) (hz : ns.length + ms.length ≤ 1000000)
    (h : ∀ a ob s', IL ob (ns ++ ms) → Sf s₀ h₀ L m ((a, ob) :: news) s' → Q (.ref a) s') :
    wpAny (model prog w) A (binaryOp .Add (.ref l) (.ref l₂)) Q E s := by
  obtain ⟨vs, hvs, hl⟩ := hi.isList
  obtain ⟨ws, hws, hl₂⟩ := hi₂.isList
  refine add_arrays_ints S.F S.N (hl hg) (hl₂ hg₂) (by simpa using hvs) (by simpa using hws) (fun h' F' N' hI => ?_) (by unfold sizeLine; omega)
  exact h _ _ _ ⟨_, 0, rfl, hI⟩ (S.mkN F' N' fun p hp => Nat.ne_of_lt (S.lt p hp))
/-- a list of ints, whatever else the object holds -/
def WL (o : Obj) (ns : List Int) : Prop := ∃ vs : List Value, IntsAre vs ns ∧ o.cls = .type "list" ∧ ∃ e, o.data = .seq vs.toArray e
theorem IL.weak {o : Obj} {ns : List Int} (h : IL o ns) : WL o ns := by
  obtain ⟨vs, e, rfl, hi⟩ := h
  exact ⟨vs, hi, rfl, e, rfl⟩
theorem WL.isList {o : Obj} {ns : List Int} (h : WL o ns) : ∃ vs : List Value, IntsAre vs ns ∧ ∀ {hp : Heap} {l : Addr}, hp.get? l = some o → hp.IsList l vs.toArray := by
  obtain ⟨vs, hi, hc, hd⟩ := h
  exact ⟨vs, hi, fun hg => ⟨_, hg, hc, hd⟩⟩
/-- a slice of a list -/
theorem l_sliceL {value slice : Expr} {vl vu : Value} {lo hi : Option Int} {ops : List Value} {Q : Value → Shared → Prop} (S : Sf s₀ h₀ L m news s) (hg : s.heap.get? l = some o) (hi' : WL o ns) (pl : IsPart vl lo) (pu : IsPart vu hi)
    (hm : ∀ vs, IntsAre vs ns → IntsAre (slicePick vs.toArray lo hi none).toList ms) (hz : ns.length ≤ 1000000) (h : ∀ a ob s', IL ob ms → Sf s₀ h₀ L m ((a, ob) :: news) s' → Q (.ref a) s')
    (hs : subscripted slice false (.ref l) (.ref s.heap.objs.size) = operate ops (getItem (.ref l) (.ref s.heap.objs.size)) := by with_unfolding_all rfl) :
    wpAny (model prog w) A (subscriptTail value slice (.ref l) (.ref s.heap.objs.size)) Q E { s with heap := s.heap.push { cls := .type "slice", data := .fields #[vl, vu, .none] } } := by
  obtain ⟨vs, hvs, hl⟩ := hi'.isList
  have S' := S.push { cls := .type "slice", data := .fields #[vl, vu, .none] }
  refine tail_any (Heap.IsList.typeIs (s := { s with heap := s.heap.push { cls := .type "slice", data := .fields #[vl, vu, .none] } }) ((hl hg).push _)) list_getitem_lookup
    (wpAny_getItem_list_slice ((hl hg).push _) (Heap.IsSliceOf.new ..) pl pu .none (by simp) ?_ (by rw [List.size_toArray, hvs.length]; unfold sizeLine; omega)) hs
  have S'' := (S'.tail).push { cls := .type "list", data := .seq (slicePick vs.toArray lo hi none) }
  refine h _ _ _ ⟨(slicePick vs.toArray lo hi none).toList, 0, by simp, hm vs hvs⟩ S''
theorem l_slice {value slice : Expr} {vl vu : Value} {lo hi : Option Int} {ops : List Value} {Q : Value → Shared → Prop} (S : Sf s₀ h₀ L m news s) (hg : s.heap.get? l = some o) (hi' : IL o ns) (pl : IsPart vl lo) (pu : IsPart vu hi)
    (hm : ∀ vs, IntsAre vs ns → IntsAre (slicePick vs.toArray lo hi none).toList ms) (hz : ns.length ≤ 1000000) (h : ∀ a ob s', IL ob ms → Sf s₀ h₀ L m ((a, ob) :: news) s' → Q (.ref a) s')
    (hs : subscripted slice false (.ref l) (.ref s.heap.objs.size) = operate ops (getItem (.ref l) (.ref s.heap.objs.size)) := by with_unfolding_all rfl) :
    wpAny (model prog w) A (subscriptTail value slice (.ref l) (.ref s.heap.objs.size)) Q E { s with heap := s.heap.push { cls := .type "slice", data := .fields #[vl, vu, .none] } } := l_sliceL S hg hi'.weak pl pu hm hz h hs
end
theorem p64_pos (n : Nat) : (0 : Int) < 64 ^ n := Int.pow_pos (by decide)
theorem p64_nat (n : Nat) : ((64 : Int) ^ n).natAbs < 2 ^ (6 * n + 1) := by
  have h := nat64 (a := 64 ^ n) (n := n + 1) (Int.le_of_lt (p64_pos n)) (by rw [Int.pow_succ]; have := p64_pos n; omega)
  have e : ((64 : Int) ^ n).natAbs = 64 ^ n := by rw [Int.natAbs_pow]; rfl
  rw [e, show (64 : Nat) = 2 ^ 6 from rfl, ← Nat.pow_mul]
  exact Nat.pow_lt_pow_right (by decide) (by omega)
section
variable {prog : Program} {w : World} {K : Frag} {A : Around} {E : Value → Shared → Prop} {s s₀ : Shared} {h₀ : Heap} {env : Env} {m : Str → Option Value} {news pre post : List (Addr × Obj)} {L l : Addr} {ns ms : List Int} {o : Obj} {a b : Int} {t u : Tok}
theorem Sf.grown {h' : Heap} (S : Sf s₀ h₀ L m news s) (hk : ∀ c o, s.heap.get? c = some o → h'.get? c = some o) (tk : Nat) : Sf s₀ h₀ L m news { s with heap := h', toks := tk } :=
  ⟨S.F.grownK hk, S.N.grown hk, S.D, S.g, S.d, S.o⟩
theorem o_max {Q : Value → Shared → Prop} (hh : A.handled = none) (S : Sf s₀ h₀ L m news s) (h : ∀ s' t, Sf s₀ h₀ L m news s' → Q (.int (max a b) t) s') : wpAny (model prog w) A (call (.builtin "max") [.int a t, .int b u]) Q E s := by
  refine max_two_ints hh fun h' tk hk => ?_
  by_cases c : b > a
  · rw [if_pos c]
    have e : b = max a b := by omega
    have := h _ u (S.grown hk tk)
    rwa [← e] at this
  · rw [if_neg c]
    have e : a = max a b := by omega
    have := h _ t (S.grown hk tk)
    rwa [← e] at this
theorem o_min {Q : Value → Shared → Prop} (hh : A.handled = none) (S : Sf s₀ h₀ L m news s) (h : ∀ s' t, Sf s₀ h₀ L m news s' → Q (.int (min a b) t) s') : wpAny (model prog w) A (call (.builtin "min") [.int a t, .int b u]) Q E s := by
  refine min_two_ints hh fun h' tk hk => ?_
  by_cases c : b < a
  · rw [if_pos c]
    have e : b = min a b := by omega
    have := h _ u (S.grown hk tk)
    rwa [← e] at this
  · rw [if_neg c]
    have e : a = min a b := by omega
    have := h _ t (S.grown hk tk)
    rwa [← e] at this
theorem o_div64 {n : Nat} {Q : Value → Shared → Prop} (S : Sf s₀ h₀ L m news s) (hn : n ≤ 1000) (h : ∀ s' t, Sf s₀ h₀ L m news s' → Q (.int (a / 64 ^ n) t) s') : wpAny (model prog w) A (binaryOp .FloorDiv (.int a t) (.int (64 ^ n) u)) Q E s :=
  o_div (6 * n + 1) S (p64_pos n) (p64_nat n) (by omega) h
theorem o_mod64 {n : Nat} {Q : Value → Shared → Prop} (S : Sf s₀ h₀ L m news s) (h : ∀ s' t, Sf s₀ h₀ L m news s' → Q (.int (a % 64 ^ n) t) s') : wpAny (model prog w) A (binaryOp .Mod (.int a t) (.int (64 ^ n) u)) Q E s :=
  o_mod S (p64_pos n) h
end
open PySem.AutoSeq1 (wpAny_loadPart')
inductive PairsAre : List (Value × Value) → List (Int × Int) → Prop
  | nil : PairsAre [] []
  | cons (x : Int) (t : Tok) (y : Int) (u : Tok) {r : List (Value × Value)} {ps : List (Int × Int)} : PairsAre r ps → PairsAre ((.int x t, .int y u) :: r) ((x, y) :: ps)
def lexGt : List (Int × Int) → Bool
  | [] => false
  | (x, y) :: r => if x = y then lexGt r else decide (x > y)
set_option maxHeartbeats 1000000 in
theorem gt3 {prog : Program} {w : World} {A : Around} {E : Value → Shared → Prop} {s : Shared} {Q : Value → Shared → Prop} {a b : Addr} {x1 x2 x3 y1 y2 y3 : Int} {t1 t2 t3 u1 u2 u3 : Tok} (hu : A.units < cLine)
    (h1 : s.heap.get? a = some (tupOf [.int x1 t1, .int x2 t2, .int x3 t3])) (h2 : s.heap.get? b = some (tupOf [.int y1 u1, .int y2 u2, .int y3 u3]))
    (h : Q (.bool (lexGt [(x1, y1), (x2, y2), (x3, y3)])) s) : wpAny (model prog w) A (richCompare .Gt (.ref a) (.ref b)) Q E s := by
  refine wpAny_richCompare_same_room (T := "tuple") ⟨_, h1, rfl⟩ ⟨_, h2, rfl⟩ F.slot_tuple_gt (wpAny_call_entry F.slot_tuple_gt ⟨_, h1, rfl⟩ F.entry_tuple_gt ?_ (F.args_tuple_gt_2 _ _)) hu
  obtain ⟨hp, g, d, tk, os⟩ := s
  have f2 := AutoSeq1.sub_tuple_tuple
  wp_walk using wpAny_loadPart' h1, wpAny_loadPart' h2, wpAny_forIn_list _ (fun rest b s' => b.1 = none ∧ s' = ⟨hp, g, d, tk, os⟩ ∧ ∃ ps, PairsAre rest ps ∧ Q (.bool (lexGt ps)) ⟨hp, g, d, tk, os⟩) _
  case turn =>
    rintro ⟨y, x⟩ rest b s' ⟨hb', rfl, ps, hz, hR⟩
    cases hz with
    | cons x t y u hr =>
      refine wpAny_bind (wpAny_eqBool_int ?_)
      by_cases e : x = y
      · subst e
        have e2 : (x == x) = true := by simp
        rw [e2]
        simp only [lexGt, if_true] at hR
        wp_walk
        exact ⟨rfl, rfl, _, hr, hR⟩
      · have e2 : (x == y) = false := by simpa using e
        rw [e2]
        simp only [lexGt, if_neg e] at hR
        rw [if_pos (by rfl)]
        refine wpAny_bind (wpAny_rule (wpAny_bind ?_))
        refine (show wpAny (model prog w) A.in1 (compareOp .Gt (.int x t) (.int y u)) _ _ _ from P.gt_int ?_)
        refine wpAny_bind (wpAny_pure (wpAny_pure ?_))
        exact wpAny_pure ⟨_, rfl, (fun q => nomatch q), hR⟩
  case fin =>
    rintro ⟨b1, b2⟩ s' ⟨hb', rfl, ps, hz, hR⟩
    simp only at hb'
    subst hb'
    cases hz
    wp_walk
    exact ⟨_, rfl, by simpa [Builtin.Tuple.tupleCompareSizes, lexGt] using hR⟩
  case h =>
    exact ⟨rfl, rfl, _, .cons _ _ _ _ (.cons _ _ _ _ (.cons _ _ _ _ .nil)), h⟩
/-- the order of the triples -/
def tle (x y : Int × Int × Int) : Prop := x.1 < y.1 ∨ (x.1 = y.1 ∧ (x.2.1 < y.2.1 ∨ (x.2.1 = y.2.1 ∧ x.2.2 ≤ y.2.2)))
theorem tle_refl (x : Int × Int × Int) : tle x x := by unfold tle; omega
theorem tle_trans {x y z : Int × Int × Int} (a : tle x y) (b : tle y z) : tle x z := by unfold tle at *; omega
theorem lexGt_true {x y : Int × Int × Int} (h : lexGt [(x.1, y.1), (x.2.1, y.2.1), (x.2.2, y.2.2)] = true) : tle y x := by
  simp only [lexGt] at h
  unfold tle
  split at h
  · split at h
    · split at h
      · cases h
      · have := of_decide_eq_true h; omega
    · have := of_decide_eq_true h; omega
  · have := of_decide_eq_true h; omega
theorem lexGt_false {x y : Int × Int × Int} (h : lexGt [(x.1, y.1), (x.2.1, y.2.1), (x.2.2, y.2.2)] = false) : tle x y := by
  simp only [lexGt] at h
  unfold tle
  split at h
  · split at h
    · split at h
      · omega
      · have := of_decide_eq_false h; omega
    · have := of_decide_eq_false h; omega
  · have := of_decide_eq_false h; omega
/-- a triple on the heap -/
def Tri (h : Heap) (a : Addr) (x : Int × Int × Int) : Prop := ∃ t1 t2 t3, h.get? a = some (tupOf [.int x.1 t1, .int x.2.1 t2, .int x.2.2 t3])
section
variable {prog : Program} {w : World} {A : Around} {E : Value → Shared → Prop} {s s₀ : Shared} {h₀ : Heap} {m : Str → Option Value} {news : List (Addr × Obj)} {L l it B : Addr} {rs : List Addr} {tri : Nat → Int × Int × Int} {e : Nat}

theorem mx_loop {R : Result → Shared → Prop} (hh : A.handled = none) (hu : A.units + 1 < cLine)
    (hK : ∀ h : Heap, (∀ p ∈ news, h.get? p.1 = some p.2) → (∀ b o, h₀.get? b = some o → h.get? b = some o) → h.get? l = some (listOf (rs.map Value.ref).toArray e) ∧ ∀ i, i < rs.length → Tri h (rs.getD i 0) (tri i))
    (hR : ∀ b s', b < rs.length → (∀ i, i < rs.length → tle (tri i) (tri b)) → Sf s₀ h₀ L m news s' → R (.ok (.ret (.ref (rs.getD b 0)))) s') :
    ∀ (k j b : Nat) (s : Shared) (c : Nat) (ob : Obj), rs.length - (j + 1) = k → j < rs.length → b ≤ j → (∀ i, i ≤ j → tle (tri i) (tri b)) → LIt l (j + 1) ob →
      Sf s₀ h₀ L m ((B, listOf #[.ref (rs.getD b 0), .ref (rs.getD b 0)] c) :: (it, ob) :: news) s →
      codeAny (model prog w) A (.builtin "max.loop" ⟨[.ref it, .none, .ref B], []⟩) R s := by
  have hname : (toString "max" ++ toString ".loop" : String) = "max.loop" := by decide
  intro k
  induction k with
  | zero =>
    intro j b s c ob hk hj hb hbest hob S
    have hit : s.heap.IsListIter it l (j + 1) := ⟨_, S.get (.tail _ (.head _)), hob.1, hob.2⟩
    have hl := (hK s.heap (fun p hp => (S.N p (.tail _ (.tail _ hp))).1) S.F.keep).1
    refine codeAny_builtin F.entry_max_loop ?_
    rw [Around.under_plainId F.plain_max_loop _]
    show wpAny _ A.in1 (seqItems? (.ref B) >>= _) _ _ s
    refine wpAny_bind (wpAny_seqItems (S.get (.head _)) rfl ?_)
    show wpAny _ A.in1 (tryCatch (pyNext (.ref it)) _ >>= _) _ _ s
    refine wpAny_bind (wpAny_tryCatch (wpAny_pyNext_list_end hh hit ⟨_, hl, rfl, e, rfl⟩ (by simp; omega) fun h' hs => ?_))
    have S' : Sf s₀ h₀ L m ((B, listOf #[.ref (rs.getD b 0), .ref (rs.getD b 0)] c) :: news) { s with heap := h' } := (S.perm (List.Perm.swap ..)).after hs _
    show wpAny _ A.in1 (updateSeq B (fun _ => #[]) >>= _) _ _ _
    refine wpAny_bind ?_
    refine wpAny_updateSeq (S'.get (.head _)) rfl (wpAny_bind (wpAny_letGo (wpAny_pure ?_)))
    refine hR b _ (by omega) (fun i hi => hbest i (by omega)) (S'.upd (Heap.SameBut.update ..) (Heap.get?_update_self _ (S'.get (.head _)) rfl)).tail
  | succ k ih =>
    intro j b s c ob hk hj hb hbest hob S
    have hit : s.heap.IsListIter it l (j + 1) := ⟨_, S.get (.tail _ (.head _)), hob.1, hob.2⟩
    have hl := (hK s.heap (fun p hp => (S.N p (.tail _ (.tail _ hp))).1) S.F.keep).1
    have hj1 : j + 1 < rs.length := by omega
    refine codeAny_builtin F.entry_max_loop ?_
    rw [Around.under_plainId F.plain_max_loop _]
    show wpAny _ A.in1 (seqItems? (.ref B) >>= _) _ _ s
    refine wpAny_bind (wpAny_seqItems (S.get (.head _)) rfl ?_)
    show wpAny _ A.in1 (tryCatch (pyNext (.ref it)) _ >>= _) _ _ s
    refine wpAny_bind (wpAny_tryCatch (wpAny_pyNext_list_item (x := .ref (rs.getD (j + 1) 0)) hit ⟨_, hl, rfl, e, rfl⟩ (by simp [hj1]) fun h' hit' hs => ?_))
    obtain ⟨ob', hob', hc', hd'⟩ := hit'
    have S' : Sf s₀ h₀ L m ((B, listOf #[.ref (rs.getD b 0), .ref (rs.getD b 0)] c) :: (it, ob') :: news) { s with heap := h' } := ((S.perm (List.Perm.swap ..)).upd hs hob' _).perm (List.Perm.swap ..)
    obtain ⟨hl', hT⟩ := hK h' (fun p hp => (S'.N p (.tail _ (.tail _ hp))).1) S'.F.keep
    obtain ⟨p1, p2, p3, hp⟩ := hT (j + 1) hj1
    obtain ⟨q1, q2, q3, hq⟩ := hT b (by omega)
    show wpAny _ A.in1 (tryCatch (holding [_, _] (richCompare .Gt (.ref (rs.getD (j + 1) 0)) (.ref (rs.getD b 0)) >>= _)) _ >>= _) _ _ _
    refine wpAny_bind (wpAny_tryCatch (wpAny_holding (wpAny_bind (gt3 (s := { s with heap := h' }) hu hp hq ?_))))
    refine wpAny_bind (wpAny_holding (wpAny_truthy_bool ?_))
    refine wpAny_bind (wpAny_letGo (wpAny_pure ?_))
    cases hg : lexGt [((tri (j + 1)).1, (tri b).1), ((tri (j + 1)).2.1, (tri b).2.1), ((tri (j + 1)).2.2, (tri b).2.2)] with
    | true =>
      simp only [if_true]
      refine wpAny_bind ?_
      refine wpAny_updateSeq (S'.get (.head _)) rfl (wpAny_bind (wpAny_letGo ?_))
      rw [hname]
      have ht := lexGt_true hg
      refine wpAny_pure ⟨plainId_quiet F.plain_max_loop _, ih (j + 1) (j + 1) _ c ob' (by omega) hj1 (Nat.le_refl _) (fun i hi => ?_) ⟨hc', hd'⟩ (S'.upd (ob' := listOf #[.ref (rs.getD (j + 1) 0), .ref (rs.getD (j + 1) 0)] c) (Heap.SameBut.update ..) (Heap.get?_update_self (Obj.mapSeq fun _ => #[.ref (rs.getD (j + 1) 0), .ref (rs.getD (j + 1) 0)]) (S'.get (.head _)) rfl))⟩
      rcases Nat.lt_or_ge i (j + 1) with c1 | c1
      · exact tle_trans (hbest i (by omega)) ht
      · have : i = j + 1 := by omega
        subst this
        exact tle_refl _
    | false =>
      simp only [Bool.false_eq_true, if_false]
      refine wpAny_bind (wpAny_letGo ?_)
      rw [hname]
      have ht := lexGt_false hg
      refine wpAny_pure ⟨plainId_quiet F.plain_max_loop _, ih (j + 1) b _ c ob' (by omega) hj1 (by omega) (fun i hi => ?_) ⟨hc', hd'⟩ S'⟩
      rcases Nat.lt_or_ge i (j + 1) with c1 | c1
      · exact hbest i (by omega)
      · have : i = j + 1 := by omega
        subst this
        exact ht

theorem mx_call {Q : Value → Shared → Prop} (hh : A.handled = none) (hu : A.units + 2 < cLine) (hn : 0 < rs.length) (S : Sf s₀ h₀ L m news s)
    (hK : ∀ h : Heap, (∀ p ∈ news, h.get? p.1 = some p.2) → (∀ b o, h₀.get? b = some o → h.get? b = some o) → h.get? l = some (listOf (rs.map Value.ref).toArray e) ∧ ∀ i, i < rs.length → Tri h (rs.getD i 0) (tri i))
    (h : ∀ b s', b < rs.length → (∀ i, i < rs.length → tle (tri i) (tri b)) → Sf s₀ h₀ L m news s' → Q (.ref (rs.getD b 0)) s') :
    wpAny (model prog w) A (call (.builtin "max") [.ref l]) Q E s := by
  have hname : (toString "max" ++ toString ".loop" : String) = "max.loop" := by decide
  refine call_function_tree F.kind_max F.plain_max F.entry_max (F.args_max1 _) ?_
  show wpAny _ A.in1 (Builtin.Builtins.bindParams "max" ["key", "default"] 0 ⟨[], []⟩ >>= _) _ _ s
  refine wpAny_bind (wpAny_of_eq (show Builtin.Builtins.bindParams "max" ["key", "default"] 0 ⟨[], []⟩ = pure [none, none] from rfl) ?_)
  refine wpAny_bind (wpAny_pure ?_)
  have hl := (hK s.heap (fun p hp => (S.N p hp).1) S.F.keep).1
  refine wpAny_bind (wpAny_pyIter_list ⟨_, hl, rfl, e, rfl⟩ ?_)
  have S1 := S.push { cls := .type "list_iterator", data := .fields #[.ref l, .int 0 0] }
  refine wpAny_bind (wpAny_newObj_type ?_)
  have S2 := S1.push { cls := .type "list", data := .seq #[] }
  rw [hname]
  refine wpAny_pure ⟨plainId_quiet F.plain_max_loop _, ?_⟩
  have hit : Heap.IsListIter ((s.heap.push { cls := .type "list_iterator", data := .fields #[.ref l, .int 0 0] }).push { cls := .type "list", data := .seq #[] }) s.heap.objs.size l 0 := ⟨_, S2.get (.tail _ (.head _)), rfl, rfl⟩
  have hl2 := (hK _ (fun p hp => (S2.N p (.tail _ (.tail _ hp))).1) S2.F.keep).1
  refine codeAny_builtin F.entry_max_loop ?_
  rw [Around.under_plainId F.plain_max_loop _]
  show wpAny _ A.in1 (seqItems? (.ref _) >>= _) _ _ _
  refine wpAny_bind (wpAny_seqItems (S2.get (.head _)) rfl ?_)
  show wpAny _ A.in1 (tryCatch (pyNext (.ref _)) _ >>= _) _ _ _
  refine wpAny_bind (wpAny_tryCatch (wpAny_pyNext_list_item (x := .ref (rs.getD 0 0)) hit ⟨_, hl2, rfl, e, rfl⟩ (by simp [hn]) fun h' hit' hs => ?_))
  obtain ⟨ob', hob', hc', hd'⟩ := hit'
  have S3 := ((S2.perm (List.Perm.swap ..)).upd hs hob').perm (List.Perm.swap ..)
  show wpAny _ A.in1 (updateSeq _ (fun _ => #[.ref (rs.getD 0 0), .ref (rs.getD 0 0)]) >>= _) _ _ _
  refine wpAny_bind ?_
  refine wpAny_updateSeq (S3.get (.head _)) rfl ?_
  rw [hname]
  refine wpAny_pure ⟨plainId_quiet F.plain_max_loop _, mx_loop (A := A) hh (by omega) hK ?_ (rs.length - 1) 0 0 _ 1 ob' rfl hn (Nat.le_refl _) (fun i hi => ?_) ⟨hc', hd'⟩
    (S3.upd (ob' := listOf #[.ref (rs.getD 0 0), .ref (rs.getD 0 0)] 1) (Heap.SameBut.update ..) (Heap.get?_update_self (Obj.mapSeq fun _ => #[.ref (rs.getD 0 0), .ref (rs.getD 0 0)]) (S3.get (.head _)) rfl))⟩
  · intro b s' hb ht S'
    exact h b s' hb ht S'
  · have : i = 0 := by omega
    subst this
    exact tle_refl _
end
/-- a list of references -/
def RL (o : Obj) (rs : List Addr) : Prop := ∃ e, o = listOf (rs.map Value.ref).toArray e
section
variable {prog : Program} {w : World} {A : Around} {E : Value → Shared → Prop} {s s₀ : Shared} {h₀ : Heap} {m : Str → Option Value} {news pre post : List (Addr × Obj)} {L l a : Addr} {rs : List Addr} {o : Obj}
theorem rl_new {Q : Value → Shared → Prop} (S : Sf s₀ h₀ L m news s) (h : ∀ a ob s', RL ob [] → Sf s₀ h₀ L m ((a, ob) :: news) s' → Q (.ref a) s') :
    wpAny (model prog w) A (newList []) Q E s :=
  wpAny_newObj_type (h _ _ _ ⟨0, rfl⟩ (S.push _)) (by show 0 ≤ sizeLine; omega)
theorem rl_append {Q : Value → Shared → Prop} (S : Sf s₀ h₀ L m (pre ++ (l, o) :: post) s) (hi : RL o rs) (hz : rs.length ≤ 1000000) (h : ∀ ob s', RL ob (rs ++ [a]) → Sf s₀ h₀ L m (pre ++ (l, ob) :: post) s' → Q .none s') :
    wpAny (model prog w) A (call (.builtin "list.append") [.ref l, .ref a]) Q E s := by
  obtain ⟨e, rfl⟩ := hi
  refine append_at (S.get (List.mem_append_right _ (.head _))) (fun h' hs ho => h _ _ ⟨e + 1, ?_⟩ (S.updAt hs ho)) (by simp; unfold sizeLine; omega)
  simp
theorem rm_append {pl : Sem Bool} {Q : Value × List Value → Shared → Prop} (hg : s.heap.get? l = some o) (hi : RL o rs) (h : Q (.builtin "list.append", [.ref l]) s) : wpAny (model prog w) A (getMethod (.ref l) (Str.ofString "append") pl) Q E s := by
  obtain ⟨e, rfl⟩ := hi
  exact getMethod_list_append hg rfl rfl h
theorem tri_2 {value slice : Expr} {x : Int × Int × Int} {u : Tok} {ops : List Value} {Q : Value → Shared → Prop} (hg : Tri s.heap l x) (h : ∀ t, Q (.int x.2.2 t) s)
    (hs : subscripted slice false (.ref l) (.int 2 u) = operate ops (getItem (.ref l) (.int 2 u)) := by with_unfolding_all rfl) :
    wpAny (model prog w) A (subscriptTail value slice (.ref l) (.int 2 u)) Q E s := by
  obtain ⟨t1, t2, t3, hg⟩ := hg
  exact tail_any (T := "tuple") ⟨_, hg, rfl⟩ slot_tuple_getitem.lookup (getItem_tuple (j := 2) (items := #[.int x.1 t1, .int x.2.1 t2, .int x.2.2 t3]) ⟨_, hg, rfl, 0, rfl⟩ (by decide) (by decide) rfl rfl (h t3)) hs
end
def pv (p : Int → Bool) : Value → Bool
  | .int n _ => p n
  | _ => false
def Fv (g : Int → Int) (v y : Value) : Prop := ∃ n t u, v = .int n t ∧ y = .int (g n) u
theorem paired_ints {p : Int → Bool} {g : Int → Int} : ∀ {vs : List Value} {ns : List Int} {ys : List Value}, IntsAre vs ns → Paired (Fv g) (vs.filter (pv p)) ys → IntsAre ys ((ns.filter p).map g)
  | _, _, _, .nil, h => by cases h; exact .nil
  | _, _, _, .cons n t r, h => by
    by_cases hp : p n = true
    · rw [List.filter_cons_of_pos (by simpa [pv] using hp)] at h
      rw [List.filter_cons_of_pos hp]
      cases h with
      | cons a b =>
        obtain ⟨n', t', u', e1, rfl⟩ := a
        cases e1
        exact .cons _ _ (paired_ints r b)
    · rw [List.filter_cons_of_neg (by simpa [pv] using hp)] at h
      rw [List.filter_cons_of_neg hp]
      exact paired_ints r h
section
variable {prog : Program} {w : World} {K : Frag} {A : Around} {E : Value → Shared → Prop} {s s₀ : Shared} {h₀ : Heap} {env : Env} {m : Str → Option Value} {news pre post : List (Addr × Obj)} {L l : Addr} {ns ms : List Int} {o : Obj}

/-- the tests and the element of a comprehension over a list of ints: they make nothing new -/
structure LcOk (prog : Program) (w : World) (A : Around) (env : Env) (scope : Scope) (cl : List (Str × Addr)) (x : Str) (ifs : List Expr) (elt : Expr) (s : Shared) (ns : List Int) (p : Int → Bool) (g : Int → Int) : Prop where
  tests : ∀ C n t s₃ m₃ E', n ∈ ns → s₃.heap.Ns C m₃ → m₃ x = some (.int n t) → (∀ b o, s.heap.get? b = some o → s₃.heap.get? b = some o) →
    wpAny (model prog w) A (forIn ifs true fun c r => if r = true then do let ok ← isTrue c (compEnvC scope cl C env) (eval c (compEnvC scope cl C env)); pure (ForInStep.yield ok) else pure (ForInStep.yield r))
      (fun ok s₄ => ok = p n ∧ Keeps s₃ s₄) E' s₃
  elt : ∀ C n t s₃ m₃ E', n ∈ ns → p n = true → s₃.heap.Ns C m₃ → m₃ x = some (.int n t) → (∀ b o, s.heap.get? b = some o → s₃.heap.get? b = some o) →
    wpAny (model prog w) A (eval elt (compEnvC scope cl C env)) (fun y s₄ => (∃ u, y = .int (g n) u) ∧ Keeps s₃ s₄) E' s₃

theorem LcOk.quiet {scope : Scope} {cl : List (Str × Addr)} {x : Str} {ifs : List Expr} {elt : Expr} {p : Int → Bool} {g : Int → Int} {vs : List Value} (H : LcOk prog w A env scope cl x ifs elt s ns p g) (hvs : IntsAre vs ns) {s₂ : Shared} {I : Addr}
    (hk : ∀ b o, s.heap.get? b = some o → b ≠ I ∧ s₂.heap.get? b = some o) :
    QuietOnC prog w A env scope cl x ifs elt [I] (fun i v => vs.toArray[i]? = some v) (pv p) (Fv g) s₂ := by
  have mem : ∀ (i : Nat) (v : Value), vs.toArray[i]? = some v → ∃ n t, v = Value.int n t ∧ n ∈ ns := by
    intro i v hv
    obtain ⟨n, t, e, hn⟩ := hvs.at i v (by simpa using hv)
    exact ⟨n, t, e, List.mem_of_getElem? hn⟩
  refine ⟨?_, ?_⟩
  · intro C i v s₃ m₃ E' hC hP hns hx hkp _
    obtain ⟨n, t, rfl, hn⟩ := mem i v hP
    exact H.tests C n t s₃ m₃ E' hn hns hx fun b o e => hkp b o (by simpa using (hk b o e).1) (hk b o e).2
  · intro C i v s₃ m₃ E' hC hP hp hns hx hkp _
    obtain ⟨n, t, rfl, hn⟩ := mem i v hP
    refine wpAny_mono (H.elt C n t s₃ m₃ E' hn hp hns hx fun b o e => hkp b o (by simpa using (hk b o e).1) (hk b o e).2) (fun y s₄ hy => ?_) fun _ _ e => e
    obtain ⟨⟨u, rfl⟩, k⟩ := hy
    exact ⟨⟨n, t, u, rfl, rfl⟩, k⟩

/-- a comprehension over a list of ints -/
theorem lc {elt iter : Expr} {x : Str} {px pos : Pos} {ifs : List Expr} {scope : Scope} {cl : List (Str × Addr)} {Q : Value → Shared → Prop}
    (hclos : closureFor scope env = pure cl) (hcell : ∀ y ∈ scope.names, y.2 ≠ .cell) (hkind : scope.kind = .function) (hnames : ∀ y ∈ scope.names, y.2 = .local → scope.names.lookup y.1 = some .local) (hx : scope.names.lookup x = some .local)
    (h : wpAny (model prog w) A (eval iter env) (fun xv s₁ => ∃ l o ns m news p g, xv = .ref l ∧ A.handled = none ∧ Sf s₀ h₀ env.locals m news s₁ ∧ s₁.heap.get? l = some o ∧ IL o ns ∧ ns.length ≤ 1000000 ∧ LcOk prog w A env scope cl x ifs elt s₁ ns p g ∧
      ∀ D ob s', IL ob ((ns.filter p).map g) → Sf s₀ h₀ env.locals m ((D, ob) :: news) s' → Q (.ref D) s') E s)
    (hs : ∀ x, foldedSetIterable iter env x = pure x := by intro _; rfl) :
    wpAny (model prog w) A (eval (.ListComp elt [⟨.Name x px, iter, ifs, 0⟩] scope pos) env) Q E s := by
  have key : wpAny (model prog w) A (eval iter env) (fun xv s₁ => wpAny (model prog w) A (pyIter xv) (fun it s₂ => ∃ I fp wr n P St p F, it = .ref I ∧ Walks prog w A I fp wr n P St ∧ n ≤ sizeLine ∧ St 0 s₂.heap ∧ (∀ b ∈ fp, b < s₂.heap.objs.size) ∧
      QuietOnC prog w A env scope cl x ifs elt wr P p F s₂ ∧
      (∀ D h' tk ys (vs : List Value), s₂.heap.get? D = none → h'.IsList D ys → h'.PlainList D ys → vs.length = n → (∀ j v, vs[j]? = some v → P j v) → Paired F (vs.filter p) ys.toList →
        (∀ b o, b ∉ wr → s₂.heap.get? b = some o → h'.get? b = some o) → Q (.ref D) { s₂ with heap := h', toks := tk })) E s₁) E s := by
    refine wpAny_mono h (fun xv s₁ h₁ => ?_) fun _ _ e => e
    obtain ⟨l, o, ns, m, news, p, g, rfl, hh, S, hg, hi, hz, H, hQ⟩ := h₁
    obtain ⟨vs, hvs, hl⟩ := hi.isList
    have hlt : l < s₁.heap.objs.size := Heap.lt_size hg
    refine wpAny_pyIter_list (hl hg) ?_
    have W := Walks.list (prog := prog) (w := w) (A := A) hh s₁.heap.objs.size l (Nat.ne_of_lt hlt) vs.toArray
    refine ⟨_, _, _, _, _, _, pv p, Fv g, rfl, W, ?_, ⟨⟨_, Heap.get?_push_size _ rfl, rfl, rfl⟩, (hl hg).push _⟩, ?_, H.quiet hvs fun b o e => ⟨Nat.ne_of_lt (Heap.lt_size e), Heap.get?_push_of_some _ e⟩, ?_⟩
    · rw [List.size_toArray, hvs.length]; unfold sizeLine; omega
    · intro b hb
      simp only [List.mem_cons, List.not_mem_nil, or_false] at hb
      show b < (s₁.heap.push _).objs.size
      rw [Heap.size_push]
      rcases hb with rfl | rfl
      · exact Nat.lt_succ_self _
      · exact Nat.lt_succ_of_lt hlt
    · intro D h' tk ys vs' hD _ hpl hlen hP hF hk
      have hsz : vs.toArray.size = vs.length := by simp
      have e : vs' = vs := by
        apply List.ext_getElem?
        intro i
        rcases Nat.lt_or_ge i vs'.length with q | q
        · have h1 := hP i vs'[i] (by simp [q])
          rw [List.getElem?_eq_getElem q]
          simpa using h1.symm
        · rw [List.getElem?_eq_none q, List.getElem?_eq_none (by omega)]
      subst e
      obtain ⟨n, hD'⟩ := hpl
      have hD0 : s₁.heap.get? D = none := by
        cases q : s₁.heap.get? D with
        | none => rfl
        | some ob => have := Heap.get?_push_of_some { cls := .type "list_iterator", data := .fields #[.ref l, .int 0 0] } q; rw [hD] at this; cases this
      have O : Out [] s₁ { s₁ with heap := h', toks := tk } := ⟨fun b o _ e => hk b o (by simpa using Nat.ne_of_lt (Heap.lt_size e)) (Heap.get?_push_of_some _ e), rfl, rfl, rfl⟩
      exact hQ D _ _ ⟨ys.toList, n, by simp, paired_ints hvs hF⟩ (S.call1 O ⟨hD', hD0⟩)
  rw [eval_ListComp]
  refine wpAny_comprehension_free (use := none) rfl hs hclos hkind hnames (wpAny_mono key (fun xv s₁ h₁ => wpAny_mono h₁ (fun it s₂ h₂ => ?_) fun _ _ e => e) fun _ _ e => e)
  obtain ⟨I, fp, wr, n, P, St, p, F, rfl, W, hsz, hst, hfp, hq, hQ⟩ := h₂
  refine comp_block_walkC (RR := fun acc C => compPost (model prog w) A E none Q acc C) W hsz p F hcell hkind hx hst hfp hq ?_
  intro D C h' tk m' ys vs hD hC hDC hn hl hpl hlen hP hF hk
  exact ⟨m', hn, fun h'' hs'' => hQ D h'' tk ys vs hD (hl.extBut hs''.extBut hDC) (hpl.extBut hs''.extBut hDC) hlen hP hF fun b o hbf e => hs''.extBut b o (by rintro rfl; rw [hC] at e; cases e) (hk b o hbf e)⟩
/-- a comprehension over a list of ints that a name takes at once -/
theorem lca {elt iter : Expr} {x y : Str} {px py pos spos : Pos} {ifs : List Expr} {scope : Scope} {cl : List (Str × Addr)} {Q : Flow → Shared → Prop} (p : Int → Bool) (g : Int → Int)
    (hsw : swapsWith (.ListComp elt [⟨.Name x px, iter, ifs, 0⟩] scope pos) (some (.Name y py)) spos.line env = pure true)
    (hclos : closureFor scope env = pure cl) (hcell : ∀ y ∈ scope.names, y.2 ≠ .cell) (hkind : scope.kind = .function) (hnames : ∀ y ∈ scope.names, y.2 = .local → scope.names.lookup y.1 = some .local) (hx : scope.names.lookup x = some .local)
    (h : wpAny (model prog w) A (eval iter env) (fun xv s₁ => ∃ l o ns m news, xv = .ref l ∧ A.handled = none ∧ Sf s₀ h₀ env.locals m news s₁ ∧ s₁.heap.get? l = some o ∧ IL o ns ∧ ns.length ≤ 1000000 ∧ LcOk prog w A env scope cl x ifs elt s₁ ns p g ∧
      ∀ D ob s', IL ob ((ns.filter p).map g) → Sf s₀ h₀ env.locals (up m y (.ref D)) ((D, ob) :: news) s' → Q .next s') E s)
    (hs : ∀ x, foldedSetIterable iter env x = pure x := by intro _; rfl) (hy : env.kindOf y = some .local := by rfl) (hp : (env.scope.kind == .class || (env.scope.kind == .module && env.locals != env.globals)) = false := by rfl) :
    wpAny (model prog w) A (exec (.Assign [.Name y py] (.ListComp elt [⟨.Name x px, iter, ifs, 0⟩] scope pos) spos) env) Q E s := by
  refine wpAny_Assign_ListComp_free (pv p) (Fv g) hsw hclos hcell hkind hnames hx hy hp (wpAny_mono h (fun xv s₁ h₁ => ?_) fun _ _ e => e) hs
  obtain ⟨l, o, ns, m, news, rfl, hh, S, hg, hi, hz, H, hQ⟩ := h₁
  obtain ⟨vs, hvs, hl⟩ := hi.isList
  have hlt : l < s₁.heap.objs.size := Heap.lt_size hg
  refine wpAny_pyIter_list (hl hg) ?_
  have W := Walks.list (prog := prog) (w := w) (A := A) hh s₁.heap.objs.size l (Nat.ne_of_lt hlt) vs.toArray
  have hLlt : env.locals < s₁.heap.objs.size := S.F.ns.lt
  refine ⟨_, _, _, _, _, _, m, rfl, W, ?_, ⟨⟨_, Heap.get?_push_size _ rfl, rfl, rfl⟩, (hl hg).push _⟩, ?_, ?_, (S.push { cls := .type "list_iterator", data := .fields #[.ref l, .int 0 0] }).F.ns, H.quiet hvs fun b o e => ⟨Nat.ne_of_lt (Heap.lt_size e), Heap.get?_push_of_some _ e⟩, ?_⟩
  · rw [List.size_toArray, hvs.length]; unfold sizeLine; omega
  · intro b hb
    simp only [List.mem_cons, List.not_mem_nil, or_false] at hb
    show b < (s₁.heap.push _).objs.size
    rw [Heap.size_push]
    rcases hb with rfl | rfl
    · exact Nat.lt_succ_self _
    · exact Nat.lt_succ_of_lt hlt
  · simpa using Nat.ne_of_lt hLlt
  · intro D h' tk ys vs' hD _ hpl hlen hP hF hns hk
    have e : vs' = vs := by
      apply List.ext_getElem?
      intro i
      rcases Nat.lt_or_ge i vs'.length with q | q
      · have h1 := hP i vs'[i] (by simp [q])
        rw [List.getElem?_eq_getElem q]
        simpa using h1.symm
      · rw [List.getElem?_eq_none q, List.getElem?_eq_none (by simpa [hlen] using q)]
    subst e
    obtain ⟨n, hD'⟩ := hpl
    have hD0 : s₁.heap.get? D = none := by
      cases q : s₁.heap.get? D with
      | none => rfl
      | some ob => have := Heap.get?_push_of_some { cls := .type "list_iterator", data := .fields #[.ref l, .int 0 0] } q; rw [hD] at this; cases this
    have keep : ∀ b o, b ≠ env.locals → s₁.heap.get? b = some o → h'.get? b = some o := fun b o hb e => hk b o hb (by simpa using Nat.ne_of_lt (Heap.lt_size e)) (Heap.get?_push_of_some _ e)
    have old : ∀ b o, h₀.get? b = some o → b ≠ env.locals := fun b o e q => absurd (Heap.lt_size e) (by rw [q]; exact Nat.not_lt.mpr S.F.above)
    refine hQ D (listOf ys n) _ ⟨ys.toList, n, by simp, paired_ints hvs hF⟩ ⟨⟨hns, fun b o e => keep b o (old b o e) (S.F.keep b o e), S.F.above⟩, fun q hq => ?_, List.nodup_cons.mpr ⟨fun hm => ?_, S.D⟩, S.g, S.d, S.o⟩
    · rcases List.mem_cons.mp hq with rfl | hq
      · refine ⟨hD', fun q => ?_, ?_⟩
        · obtain ⟨oL, _, _, hgL, _⟩ := S.F.ns
          rw [← q, hD0] at hgL
          cases hgL
        · cases q : h₀.get? D with
          | none => rfl
          | some o => have := S.F.keep _ _ q; rw [hD0] at this; cases this
      · have := S.N q hq
        exact ⟨keep _ _ this.2.1 this.1, this.2⟩
    · obtain ⟨q, hq, e⟩ := List.mem_map.mp hm
      have := (S.N q hq).1
      rw [e, hD0] at this
      cases this
theorem keeps_toks (s : Shared) (tk : Nat) : Keeps s { s with toks := tk } := ⟨s.heap, tk, rfl, fun _ _ e => e⟩
theorem no_tests {c : Bool} {f : Expr → Bool → Sem (ForInStep Bool)} {Q : Bool → Shared → Prop} (h : Q c s) : wpAny (model prog w) A (forIn ([] : List Expr) c f) Q E s := wpAny_pure h
end
section
variable {prog : Program} {w : World} {K : Frag} {A : Around} {E : Value → Shared → Prop} {s s₀ : Shared} {h₀ : Heap} {env : Env} {m : Str → Option Value} {news pre post : List (Addr × Obj)} {L l b : Addr} {ns ms : List Int} {o o₂ : Obj}
theorem l_extend {Q : Value → Shared → Prop} (S : Sf s₀ h₀ L m (pre ++ (l, o) :: post) s) (hi : IL o ns) (hg : s.heap.get? b = some o₂) (hi₂ : IL o₂ ms) (hz : ns.length + ms.length ≤ 1000000)
    (h : ∀ ob s', IL ob (ns ++ ms) → Sf s₀ h₀ L m (pre ++ (l, ob) :: post) s' → Q .none s') :
    wpAny (model prog w) A (call (.builtin "list.extend") [.ref l, .ref b]) Q E s := by
  obtain ⟨vs, e, rfl, hvs⟩ := hi
  obtain ⟨ws, e2, rfl, hws⟩ := hi₂
  have hx := S.get (List.mem_append_right pre (.head post))
  have z1 : vs.toArray.size = ns.length := by simp [hvs.length]
  have z2 : ws.toArray.size = ms.length := by simp [hws.length]
  refine call_meets PySem.F.slot_list_extend ⟨_, hx, rfl⟩ PySem.F.entry_list_extend (PySem.F.args_list_extend_2 _ _) (PySem.AutoSeq1.list_extend_list_list_0 l vs.toArray e b ws.toArray e2 ?_ ?_ ?_) ⟨hx, hg, ?_⟩
  · rw [z1, z2]
    intro q
    have q2 := (Bool.and_eq_true_iff.mp q).2
    unfold Builtin.List.listTooLong sizeLine at q2
    have := of_decide_eq_true q2
    omega
  · rw [z1]; unfold sizeLine; omega
  · rw [z1, z2]; unfold sizeLine; omega
  · refine h _ _ ⟨vs ++ ws, (if (vs.toArray ++ ws.toArray).size == vs.toArray.size then e else e + 1), ?_, hvs.append hws⟩ (S.updAt (Heap.SameBut.update ..) (Heap.get?_update_self _ hx rfl))
    have q : vs.toArray ++ ws.toArray = (vs ++ ws).toArray := by simp
    show ({ cls := .type "list", data := .seq (vs.toArray ++ ws.toArray) _ } : Obj) = _
    simp only [q]
theorem m_extend {pl : Sem Bool} {Q : Value × List Value → Shared → Prop} (S : Sf s₀ h₀ L m news s) (hm : (l, o) ∈ news) (hi : IL o ns) (h : Q (.builtin "list.extend", [.ref l]) s) : wpAny (model prog w) A (getMethod (.ref l) (Str.ofString "extend") pl) Q E s := by
  obtain ⟨vs, e, rfl, hvs⟩ := hi
  exact kf_method S.N hm PySem.F.slot_list_extend PySem.F.type_list_extend h
theorem l_sumL {Q : Value → Shared → Prop} (hh : A.handled = none) (S : Sf s₀ h₀ L m news s) (hg : s.heap.get? l = some o) (hi : WL o ns) (h : ∀ s' (v : Int) t, Sf s₀ h₀ L m news s' → Q (.int v t) s') :
    wpAny (model prog w) A (call (.builtin "sum") [.ref l]) Q E s := by
  obtain ⟨vs, hvs, hl⟩ := hi.isList
  have hlt : l < s.heap.objs.size := Heap.lt_size hg
  refine call_sum_walkG (wpAny_pyIter_list (hl hg) ?_)
  refine ⟨_, _, _, _, _, _, fun i => ns.getD i 0, rfl, Walks.list (A := A.in1) hh s.heap.objs.size l (Nat.ne_of_lt hlt) vs.toArray, ⟨⟨_, Heap.get?_push_size _ rfl, rfl, rfl⟩, (hl hg).push _⟩, ?_, ?_, ?_⟩
  · intro c hc
    simp only [List.mem_cons, List.not_mem_nil, or_false] at hc
    show c < (s.heap.push _).objs.size
    rw [Heap.size_push]
    rcases hc with rfl | rfl
    · exact Nat.lt_succ_self _
    · exact Nat.lt_succ_of_lt hlt
  · intro i v hv
    exact hvs.int_at i v (by simpa using hv)
  · intro h' tk t' hk
    exact h _ _ _ (S.grown (fun c o e => hk c o (by simpa using Nat.ne_of_lt (Heap.lt_size e)) (Heap.get?_push_of_some _ e)) tk)
theorem l_sum {Q : Value → Shared → Prop} (hh : A.handled = none) (S : Sf s₀ h₀ L m news s) (hg : s.heap.get? l = some o) (hi : IL o ns) (h : ∀ s' (v : Int) t, Sf s₀ h₀ L m news s' → Q (.int v t) s') :
    wpAny (model prog w) A (call (.builtin "sum") [.ref l]) Q E s := l_sumL hh S hg hi.weak h
end
section
variable {prog : Program} {w : World} {K : Frag} {A : Around} {E : Value → Shared → Prop} {s s₀ : Shared} {h₀ : Heap} {env : Env} {m : Str → Option Value} {news pre post : List (Addr × Obj)} {L l b c : Addr} {ns ms : List Int} {o o₂ oc : Obj}
/-- a def with one captured name is entered -/
theorem enterC {Q : Value → Shared → Prop} {name qual : Str} {params : Arguments} {body : List Stmt} {scope : Scope} {dV kV doc pm cdv ct oc : Value} {an od : Option Addr} {osl : Array (Option Value)} {f : Addr} {vs : List Value} {binds : List (Str × Value)} (cn : Str)
    (G : Gl K s.heap) (ho : K.lookup f = some ⟨oc, od, .func (fnOf name qual params body scope dV kV doc pm an cdv ct), osl⟩) (hcd : codeIn K cdv qual = true) (hroom : A.depth < recursionLimit)
    (hbind : bindArgs (fnOf name qual params body scope dV kV doc pm an cdv ct) ⟨vs, []⟩ = pure binds) (hloc : ∀ y ∈ binds, scope.names.lookup y.1 = some .local)
    (hcn : (envOfC qual scope s.heap.objs.size f cdv).cells = [(cn, s.heap.objs.size + 1)]) (hcb : bindC (envOfC qual scope s.heap.objs.size f cdv).kindOf binds (fun _ => none) cn = none)
    (h : ∀ (s' : Shared) (co : Obj), co.data = .cell none → Sf s s.heap (envOfC qual scope s.heap.objs.size f cdv).locals (bindL (envOfC qual scope s.heap.objs.size f cdv).kindOf binds fun _ => none) [(s.heap.objs.size + 1, co)] s' →
      wpAny (model prog w) (A.deeper (envOfC qual scope s.heap.objs.size f cdv)) (execs body (envOfC qual scope s.heap.objs.size f cdv)) (fun fl s'' => Q (retOf fl) s'') (fun _ _ => False) s')
    (hco : scope.isCoroutine = false := by rfl) (hgen : scope.isGenerator = false := by rfl) (hk : scope.kind = .function := by rfl) : wpAny (model prog w) A (call (.ref f) vs) Q E s := by
  refine wpAny_call (codeAny_call_cells (fd := fnOf name qual params body scope dV kV doc pm an cdv ct) (body := body) (binds := binds) hroom (G.inn _ _ ho) rfl G.lim (codeRec_of G.inn hcd) rfl hbind rfl (fun x hx => .inl (hloc x hx)) (fun s₁ X => ?_) hco hgen hk)
  obtain ⟨h', tk, rfl, hkeep⟩ := X.done
  have hl : (callEnvC (fnOf name qual params body scope dV kV doc pm an cdv ct) s.heap.objs.size f).cells = [(cn, s.heap.objs.size + 1)] := hcn
  have hc := X.cell cn (s.heap.objs.size + 1) (by rw [hl]; simp [List.lookup])
  obtain ⟨co, hco1, hco2⟩ := hc
  refine wpAny_mono (h _ co (hco2.trans (congrArg Data.cell hcb)) ⟨⟨X.toInCall.ns, hkeep, Nat.le_refl _⟩, fun p hp => ?_, by simp, rfl, rfl, rfl⟩) (fun fl s' hq => ?_) fun _ _ x => x.elim
  · rw [List.mem_singleton.mp hp]
    exact ⟨hco1, Nat.ne_of_gt (Nat.lt_succ_self _), Heap.get?_none_of_le (Nat.le_succ _)⟩
  · cases fl <;> exact hq
theorem st_cell {x : Str} {v : Value} {v₀ : Option Value} {Q : Unit → Shared → Prop} (S : Sf s₀ h₀ L m (pre ++ (c, oc) :: post) s) (hd : oc.data = .cell v₀) (hc : env.cells.lookup x = some c)
    (h : ∀ s' oc', oc'.data = .cell (some v) → Sf s₀ h₀ L m (pre ++ (c, oc') :: post) s' → Q () s') (hk : env.scope.kind = .function := by rfl) (hx : env.kindOf x = some .cell := by rfl) :
    wpAny (model prog w) A (storeName env x v) Q E s := by
  refine wpAny_storeName_cell hk hx hc ⟨oc, S.get (List.mem_append_right _ (.head _)), hd⟩ fun h' hv hs => ?_
  obtain ⟨oc', ho', hd'⟩ := hv
  exact h _ oc' hd' (S.updAt hs ho')
end
/-- what a caught StopIteration leaves: all but the iterator and the caller's frame stays; the frame up to its slots -/
structure OutX (it LL : Addr) (s s' : Shared) : Prop where
  keep : ∀ b o, b ≠ it → b ≠ LL → s.heap.get? b = some o → s'.heap.get? b = some o
  upto : s.heap.UpToSlots s'.heap
  g : s'.gens = s.gens
  d : s'.drawn = s.drawn
  o : s'.os = s.os
section
variable {prog : Program} {w : World} {K : Frag} {A : Around} {E : Value → Shared → Prop} {s s₀ : Shared} {h₀ : Heap} {env : Env} {m : Str → Option Value} {news pre post : List (Addr × Obj)} {L l it : Addr} {ns ms : List Int} {o ob : Obj} {a b : Int} {t u : Tok}
theorem Sf.brk {s' : Shared} (S : Sf s₀ h₀ L m ((it, ob) :: news) s) (O : OutX it L s s') : Sf s₀ h₀ L m news s' := by
  have hz := S.N (it, ob) (.head _)
  have hne : ∀ p ∈ news, p.1 ≠ it := fun p hp e => (List.nodup_cons.mp S.D).1 (List.mem_map.mpr ⟨p, hp, e⟩)
  refine ⟨⟨Heap.UpToSlots.ns O.upto S.F.ns, fun b o e => O.keep b o (fun q => ?_) (fun q => ?_) (S.F.keep b o e), S.F.above⟩, fun p hp => ?_, (List.nodup_cons.mp S.D).2, O.g.trans S.g, O.d.trans S.d, O.o.trans S.o⟩
  · rw [q, hz.2.2] at e; cases e
  · exact absurd (Heap.lt_size e) (by rw [q]; exact Nat.not_lt.mpr S.F.above)
  · have := S.N p (.tail _ hp)
    exact ⟨O.keep _ _ (hne p hp) this.2.1 this.1, this.2⟩
theorem Sf.glB (S : Sf s₀ h₀ L m ((it, ob) :: news) s) (G : Gl K h₀) : Gl K ((s.heap.hide it).hide L) := by
  have hz := S.N (it, ob) (.head _)
  refine G.keeps fun b o e => (Heap.hide_ne _ (fun q => ?_)).trans ((Heap.hide_ne _ (fun q => ?_)).trans (S.F.keep b o e))
  · exact absurd (Heap.lt_size e) (by rw [q]; exact Nat.not_lt.mpr S.F.above)
  · rw [q, hz.2.2] at e
    cases e
theorem Sf.frameObj (S : Sf s₀ h₀ L m news s) : ∃ oL, s.heap.get? L = some oL ∧ ∀ vs, oL.data ≠ .fields vs := by
  obtain ⟨o, es, ep, h1, h2, _⟩ := S.F.ns
  exact ⟨o, h1, fun vs q => by rw [h2] at q; cases q⟩
theorem o_divmod {Q : Value → Shared → Prop} (k : Nat) (S : Sf s₀ h₀ L m news s) (hb : 0 < b) (hk : b.natAbs < 2 ^ k) (hk' : k ≤ 8000) (h : ∀ D t1 t2 s', Sf s₀ h₀ L m ((D, tupOf [.int (a / b) t1, .int (a % b) t2]) :: news) s' → Q (.ref D) s') :
    wpAny (model prog w) A (call (.builtin "divmod") [.int a t, .int b u]) Q E s := by
  refine divmod_int (by omega) ?_ (.inl (noPy hk hk'))
  rw [Int.fdiv_eq_ediv_of_nonneg _ (by omega), Int.fmod_eq_emod_of_nonneg _ (by omega)]
  exact h _ _ _ _ (S.push _ rfl _)
theorem if_join {c : Bool} {X : Value → Shared → Prop} {e1 e2 : Sem Value} (J : Value → Shared → Prop) (h1 : c = true → wpAny (model prog w) A e1 J E s) (h2 : c = false → wpAny (model prog w) A e2 J E s) (h : ∀ v s', J v s' → X v s') :
    if c = true then wpAny (model prog w) A e1 X E s else wpAny (model prog w) A e2 X E s := by
  cases c with
  | true => exact wpAny_mono (h1 rfl) h fun _ _ x => x
  | false => exact wpAny_mono (h2 rfl) h fun _ _ x => x
theorem if_joinS {c : Bool} {X : Value → Shared → Prop} {e1 e2 : Sem Value} (S : Sf s₀ h₀ L m ((it, ob) :: news) s) (J : Value → Obj → Prop) (h1 : c = true → wpAny (model prog w) A e1 (fun v s' => ∃ ob', J v ob' ∧ Sf s₀ h₀ L m ((it, ob') :: news) s') E s)
    (h2 : c = false → wpAny (model prog w) A e2 (fun v s' => ∃ ob', J v ob' ∧ Sf s₀ h₀ L m ((it, ob') :: news) s') E s) (h : ∀ v ob' s', J v ob' → Sf s₀ h₀ L m ((it, ob') :: news) s' → X v s') :
    if c = true then wpAny (model prog w) A e1 X E s else wpAny (model prog w) A e2 X E s :=
  if_join _ h1 h2 fun v s' ⟨ob', a, b⟩ => h v ob' s' a b
end
/-- p is a period of the first n figures -/
def Per (f : Nat → Int) (n p : Nat) : Prop := ∀ j, j + p < n → f j = f (j + p)
/-- p is the least one -/
structure LP (f : Nat → Int) (n p : Nat) : Prop where
  pos : 1 ≤ p
  le : p ≤ n
  per : Per f n p
  least : ∀ q, 1 ≤ q → q < p → ¬ Per f n q
theorem LP.uniq {f : Nat → Int} {n p q : Nat} (a : LP f n p) (b : LP f n q) : p = q := by
  rcases Nat.lt_trichotomy p q with h | h | h
  · exact absurd a.per (b.least p a.pos h)
  · exact h
  · exact absurd b.per (a.least q b.pos h)
theorem LP.one (f : Nat → Int) : LP f 1 1 := ⟨Nat.le_refl _, Nat.le_refl _, fun j h => absurd h (by omega), fun q h1 h2 => absurd h2 (by omega)⟩
theorem Per.congr {f g : Nat → Int} {n p : Nat} (h : Per f n p) (e : ∀ j, j < n → f j = g j) : Per g n p := fun j hj => by
  rw [← e j (by omega), ← e (j + p) hj]; exact h j hj
theorem LP.congr {f g : Nat → Int} {n p : Nat} (h : LP f n p) (e : ∀ j, j < n → f j = g j) : LP g n p :=
  ⟨h.pos, h.le, h.per.congr e, fun q h1 h2 hq => h.least q h1 h2 (hq.congr fun j hj => (e j hj).symm)⟩
/-- the inner loop of the table: idx figures come again at the end of the first i, no shorter period serves i + 1 -/
structure Inv (f : Nat → Int) (i idx : Nat) : Prop where
  lt : idx < i
  per : Per f i (i - idx)
  no : ∀ q, 1 ≤ q → q < i - idx → ¬ Per f (i + 1) q
theorem inv_start {f : Nat → Int} {i p : Nat} (h : LP f i p) (hi : 1 ≤ i) : Inv f i (i - p) := by
  have := h.pos
  have := h.le
  have e : i - (i - p) = p := by omega
  exact ⟨by omega, by rw [e]; exact h.per, fun q h1 h2 hq => h.least q h1 (by omega) fun j hj => hq j (by omega)⟩
theorem inv_hit {f : Nat → Int} {i idx : Nat} (h : Inv f i idx) (e : f i = f idx) : LP f (i + 1) (i - idx) := by
  have hlt := h.lt
  refine ⟨by omega, by omega, fun j hj => ?_, h.no⟩
  rcases Nat.lt_or_ge (j + (i - idx)) i with q | q
  · exact h.per j q
  · have e1 : j = idx := by omega
    have e2 : j + (i - idx) = i := by omega
    rw [e2, e1, e]
theorem inv_zero {f : Nat → Int} {i : Nat} (h : Inv f i 0) (e : f i ≠ f 0) : LP f (i + 1) (i + 1) := by
  refine ⟨by omega, Nat.le_refl _, fun j hj => absurd hj (by omega), fun q h1 h2 hq => ?_⟩
  rcases Nat.lt_or_ge q i with c | c
  · exact h.no q h1 (by omega) hq
  · have : q = i := by omega
    subst this
    exact e ((hq 0 (by omega)).symm ▸ by simp)
theorem inv_next {f : Nat → Int} {i idx p : Nat} (h : Inv f i idx) (e : f i ≠ f idx) (hl : LP f idx p) : Inv f i (idx - p) := by
  have hlt := h.lt
  have hp := hl.pos
  have hle := hl.le
  have e0 : i - (idx - p) = (i - idx) + p := by omega
  refine ⟨by omega, ?_, ?_⟩
  · rw [e0]
    intro j hj
    have a := hl.per j (by omega)
    have b := h.per (j + p) (by omega)
    rw [a, b]
    congr 1
    omega
  · rw [e0]
    intro q h1 h2 hq
    rcases Nat.lt_trichotomy q (i - idx) with c | c | c
    · exact h.no q h1 c hq
    · have := hq idx (by omega)
      rw [c, show idx + (i - idx) = i by omega] at this
      exact e this.symm
    · refine hl.least (q - (i - idx)) (by omega) (by omega) fun j hj => ?_
      have a := hq j (by omega)
      have b := h.per (j + (q - (i - idx))) (by omega)
      rw [show j + (q - (i - idx)) + (i - idx) = j + q by omega] at b
      rw [a, b]
/-- the first k places of the table -/
def Tbl (f : Nat → Int) (k : Nat) (T : List Int) : Prop := ∀ i, i < k → ∃ p, LP f (i + 1) p ∧ T.getD i 0 = (i : Int) + 1 - p
theorem Tbl.set {f : Nat → Int} {k p : Nat} {T : List Int} {v : Int} (h : Tbl f (k + 1) T) (hk : k + 1 < T.length) (hl : LP f (k + 2) p) (hv : v = (k : Int) + 2 - p) : Tbl f (k + 2) (T.set (k + 1) v) := by
  intro i hi
  rcases Nat.lt_or_ge i (k + 1) with c | c
  · obtain ⟨q, h1, h2⟩ := h i c
    refine ⟨q, h1, ?_⟩
    rw [← h2]
    simp [List.getD_eq_getElem?_getD, List.getElem?_set, show k + 1 ≠ i by omega]
  · have e : i = k + 1 := by omega
    subst e
    refine ⟨p, hl, ?_⟩
    rw [hv]
    simp [List.getD_eq_getElem?_getD, List.getElem?_set, hk]
    omega
theorem Tbl.first {f : Nat → Int} {T : List Int} (h : T.getD 0 0 = 0) : Tbl f 1 T := by
  intro i hi
  have e : i = 0 := by omega
  subst e
  exact ⟨1, LP.one f, by rw [h]; rfl⟩
/-- the number that k figures from a on tell -/
def val (f : Nat → Int) (a : Nat) : Nat → Int
  | 0 => 0
  | k + 1 => 64 * val f a k + f (a + k)
theorem q64_pos (n : Nat) : (0 : Int) < 64 ^ n := Int.pow_pos (by decide)
theorem val_split (f : Nat → Int) (a k : Nat) : ∀ l, val f a (k + l) = val f a k * 64 ^ l + val f (a + k) l
  | 0 => by simp [val]
  | l + 1 => by
    have ih := val_split f a k l
    show 64 * val f a (k + l) + f (a + (k + l)) = _
    rw [ih]
    simp only [val, Int.pow_succ, Nat.add_assoc]
    grind
theorem val_lt {f : Nat → Int} (hf : ∀ j, 0 ≤ f j ∧ f j < 64) (a : Nat) : ∀ k, 0 ≤ val f a k ∧ val f a k < 64 ^ k
  | 0 => ⟨Int.le_refl 0, show (0 : Int) < 1 by decide⟩
  | k + 1 => by
    have ih := val_lt hf a k
    have := hf (a + k)
    simp only [val, Int.pow_succ]
    omega
theorem val_congr {f g : Nat → Int} {a b : Nat} : ∀ {k}, (∀ j, j < k → f (a + j) = g (b + j)) → val f a k = val g b k
  | 0, _ => rfl
  | k + 1, h => by
    simp only [val]
    rw [val_congr (fun j hj => h j (by omega)), h k (by omega)]
theorem val_inj {f : Nat → Int} (hf : ∀ j, 0 ≤ f j ∧ f j < 64) {a b : Nat} : ∀ {k}, val f a k = val f b k → ∀ j, j < k → f (a + j) = f (b + j)
  | 0, _, j, hj => absurd hj (by omega)
  | k + 1, h, j, hj => by
    simp only [val] at h
    have h1 := hf (a + k)
    have h2 := hf (b + k)
    rcases Nat.lt_or_ge j k with c | c
    · exact val_inj hf (k := k) (by omega) j c
    · have : j = k := by omega
      subst this
      omega
theorem val_neg (f : Nat → Int) (a : Nat) : ∀ k, val (fun j => 63 - f j) a k = 64 ^ k - 1 - val f a k
  | 0 => rfl
  | k + 1 => by
    simp only [val, Int.pow_succ]
    rw [val_neg f a k]
    omega
theorem div_lem {x y M : Int} (h0 : 0 ≤ y) (h1 : y < M) : (x * M + y) / M = x := by
  rw [Int.add_comm, Int.add_mul_ediv_right _ _ (by omega), Int.ediv_eq_zero_of_lt h0 h1]
  omega
theorem mod_lem {x y M : Int} (h0 : 0 ≤ y) (h1 : y < M) : (x * M + y) % M = y := by
  rw [Int.add_comm, Int.add_mul_emod_self_right]
  exact Int.emod_eq_of_lt h0 h1
theorem val_div {f : Nat → Int} (hf : ∀ j, 0 ≤ f j ∧ f j < 64) (a k l : Nat) : val f a (k + l) / 64 ^ l = val f a k := by
  rw [val_split]
  exact div_lem (val_lt hf _ _).1 (val_lt hf _ _).2
theorem val_mod {f : Nat → Int} (hf : ∀ j, 0 ≤ f j ∧ f j < 64) (a k l : Nat) : val f a (k + l) % 64 ^ l = val f (a + k) l := by
  rw [val_split]
  exact mod_lem (val_lt hf _ _).1 (val_lt hf _ _).2
/-- q figures ahead of the cut c come again behind it -/
def Loc (f : Nat → Int) (n c q : Nat) : Prop := ∀ i, i < c → c ≤ i + q → i + q < n → f i = f (i + q)
theorem Per.loc {f : Nat → Int} {n q : Nat} (h : Per f n q) (c : Nat) : Loc f n c q := fun i _ _ h3 => h i h3
/-- span figures ahead of the cut come again behind it, as far as there are figures -/
def SpanOk (left ahead right behind span : Int) : Prop :=
  (left / 64 ^ (max 0 (span - behind)).toNat) % 64 ^ (min span behind - max 0 (span - ahead)).toNat = (right / 64 ^ (max 0 (behind - span)).toNat) % 64 ^ (min span behind - max 0 (span - ahead)).toNat
theorem span_loc {f : Nat → Int} (hf : ∀ j, 0 ≤ f j ∧ f j < 64) {n c q : Nat} (hc : c ≤ n) (hq : q ≤ n) : SpanOk (val f 0 c) c (val f c (n - c)) (n - c : Nat) q ↔ Loc f n c q := by
  unfold SpanOk
  have e1 : (max 0 ((q : Int) - (n - c : Nat))).toNat = q - (n - c) := by omega
  have e2 : (min (q : Int) (n - c : Nat) - max 0 ((q : Int) - c)).toNat = min q (n - c) - (q - c) := by omega
  have e3 : (max 0 (((n - c : Nat) : Int) - q)).toNat = (n - c) - q := by omega
  rw [e1, e2, e3]
  have a1 : val f 0 c = val f 0 (((c - q) + (min q (n - c) - (q - c))) + (q - (n - c))) := by congr 1; omega
  have a2 : val f c (n - c) = val f c (((q - c) + (min q (n - c) - (q - c))) + ((n - c) - q)) := by congr 1; omega
  rw [a1, a2, val_div hf, val_div hf, val_mod hf, val_mod hf]
  constructor
  · intro h i h1 h2 h3
    have := val_inj hf h (i - (c - q)) (by omega)
    rw [show 0 + (c - q) + (i - (c - q)) = i by omega, show c + (q - c) + (i - (c - q)) = i + q by omega] at this
    exact this
  · intro h
    refine val_congr fun j hj => ?_
    have := h (c - q + j) (by omega) (by omega) (by omega)
    rw [show c - q + j + q = c + (q - c) + j by omega] at this
    rw [← this]
    congr 1
    omega
/-- the rest behind a, as a fraction -/
def Dv (f : Nat → Int) (n a : Nat) : Int := val f a (n - a) * 64 ^ a
structure Top1 (f : Nat → Int) (n x : Nat) : Prop where
  lt : x < n
  le : ∀ i, i < n → Dv f n i ≤ Dv f n x
  first : ∀ i, i < x → Dv f n i < Dv f n x
theorem Top1.le' {f : Nat → Int} {n x : Nat} (h : Top1 f n x) (hf : ∀ j, 0 ≤ f j ∧ f j < 64) {i : Nat} (hi : i ≤ n) : Dv f n i ≤ Dv f n x := by
  rcases Nat.lt_or_ge i n with c | c
  · exact h.le i c
  · have : i = n := by omega
    subst this
    unfold Dv
    rw [Nat.sub_self]
    show 0 * _ ≤ _
    rw [Int.zero_mul]
    exact Int.mul_nonneg (val_lt hf _ _).1 (Int.le_of_lt (q64_pos _))
theorem Top1.pref {f : Nat → Int} {n x r : Nat} (h : Top1 f n x) (hf : ∀ j, 0 ≤ f j ∧ f j < 64) (hr : x + r < n) : val f (x + r) (n - x - r) ≤ val f x (n - x - r) := by
  have h1 := h.le (x + r) hr
  unfold Dv at h1
  rw [show n - (x + r) = n - x - r by omega, Int.pow_add, Int.mul_comm (64 ^ x), ← Int.mul_assoc] at h1
  have h2 := Int.le_of_mul_le_mul_right h1 (q64_pos x)
  rw [show n - x = (n - x - r) + r by omega, val_split] at h2
  rw [show n - x - r + r - r = n - x - r by omega] at h2
  have h3 := (val_lt hf (x + (n - x - r)) r).2
  have h4 : val f (x + r) (n - x - r) * 64 ^ r < (val f x (n - x - r) + 1) * 64 ^ r := by
    rw [Int.add_mul, Int.one_mul]
    omega
  have := Int.lt_of_mul_lt_mul_right h4 (Int.le_of_lt (q64_pos r))
  omega
theorem no_short {f : Nat → Int} {n c r : Nat} (T : Top1 f n c) (hf : ∀ j, 0 ≤ f j ∧ f j < 64) (h1 : 1 ≤ r) (hrc : r ≤ c) (hl : Loc f n c r) : False := by
  have hcn := T.lt
  have hlt := T.first (c - r) (by omega)
  unfold Dv at hlt
  rcases Nat.lt_or_ge (n - c) r with q | q
  · have eW : val f (c - r) (n - c) = val f c (n - c) := by
      refine val_congr fun j hj => ?_
      rw [hl (c - r + j) (by omega) (by omega) (by omega)]
      congr 1; omega
    rw [show n - (c - r) = (n - c) + r by omega, val_split, eW] at hlt
    have h2 := (val_lt hf (c - r + (n - c)) r).1
    have h3 : (64 : Int) ^ c = 64 ^ r * 64 ^ (c - r) := by rw [← Int.pow_add]; congr 1; omega
    rw [h3, ← Int.mul_assoc] at hlt
    have := Int.lt_of_mul_lt_mul_right hlt (Int.le_of_lt (q64_pos (c - r)))
    omega
  · have eW : val f (c - r) r = val f c r := by
      refine val_congr fun j hj => ?_
      rw [hl (c - r + j) (by omega) (by omega) (by omega)]
      congr 1; omega
    have hle := T.le' hf (i := c + r) (by omega)
    unfold Dv at hle
    have a1 : val f (c - r) (n - (c - r)) * 64 ^ (c - r) * 64 ^ r = val f c r * 64 ^ n + val f c (n - c) * 64 ^ c := by
      rw [show n - (c - r) = r + (n - c) by omega, val_split, eW, show c - r + r = c by omega]
      have h3 : (64 : Int) ^ c = 64 ^ r * 64 ^ (c - r) := by rw [← Int.pow_add]; congr 1; omega
      have h4 : (64 : Int) ^ n = 64 ^ (n - c) * 64 ^ c := by rw [← Int.pow_add]; congr 1; omega
      rw [h4, h3]
      grind
    have a2 : val f c (n - c) * 64 ^ c * 64 ^ r = val f c r * 64 ^ n + val f (c + r) (n - (c + r)) * 64 ^ (c + r) := by
      have e : val f c (n - c) = val f c r * 64 ^ (n - (c + r)) + val f (c + r) (n - (c + r)) := by
        rw [← val_split]; congr 1; omega
      have h4 : (64 : Int) ^ n = 64 ^ (n - (c + r)) * 64 ^ (c + r) := by rw [← Int.pow_add]; congr 1; omega
      rw [e, h4, Int.pow_add]
      grind
    have a3 := Int.mul_lt_mul_of_pos_right hlt (q64_pos r)
    rw [a1, a2] at a3
    omega
theorem crit {f : Nat → Int} {n c b r : Nat} (T : Top1 f n c) (T' : Top1 (fun j => 63 - f j) n b) (hb : b ≤ c) (hf : ∀ j, 0 ≤ f j ∧ f j < 64) (h1 : 1 ≤ r) (hl : Loc f n c r) : Per f n r := by
  have hcn := T.lt
  rcases Nat.lt_or_ge c r with hcr | hcr
  · rcases Nat.lt_or_ge r (n - c) with q | q
    · have p1 := T.pref hf (r := r) (by omega)
      have p2 := T'.pref (fun j => by have := hf j; omega) (r := r) (by omega)
      rw [val_neg, val_neg] at p2
      have e1 : val f b (n - b - r) = val f b (c - b) * 64 ^ (n - c - r) + val f c (n - c - r) := by
        rw [show n - b - r = (c - b) + (n - c - r) by omega, val_split]
        congr 2; omega
      have e2 : val f (b + r) (n - b - r) = val f b (c - b) * 64 ^ (n - c - r) + val f (c + r) (n - c - r) := by
        rw [show n - b - r = (c - b) + (n - c - r) by omega, val_split]
        congr 2
        · refine val_congr fun j hj => ?_
          rw [hl (b + j) (by omega) (by omega) (by omega)]
          congr 1; omega
        · omega
      have e3 : val f c (n - c - r) = val f (c + r) (n - c - r) := by omega
      intro j hj
      rcases Nat.lt_or_ge j c with k | k
      · exact hl j k (by omega) hj
      · have := val_inj hf e3 (j - c) (by omega)
        rw [show c + (j - c) = j by omega, show c + r + (j - c) = j + r by omega] at this
        exact this
    · exact fun j hj => hl j (by omega) (by omega) hj
  · exact (no_short T hf h1 hcr hl).elim
theorem Loc.neg {f : Nat → Int} {n c r : Nat} (h : Loc f n c r) : Loc (fun j => 63 - f j) n c r := fun i a b d => by
  show 63 - f i = 63 - f (i + r)
  rw [h i a b d]
theorem Per.neg {f : Nat → Int} {n r : Nat} (h : Per (fun j => 63 - f j) n r) : Per f n r := fun i d => by
  have := h i d
  simp only at this
  omega
theorem crit2 {f : Nat → Int} {n c b r : Nat} (T : Top1 f n c) (T' : Top1 (fun j => 63 - f j) n b) (hf : ∀ j, 0 ≤ f j ∧ f j < 64) (h1 : 1 ≤ r) (hl : Loc f n (max c b) r) : Per f n r := by
  rcases Nat.le_total b c with h | h
  · rw [Nat.max_eq_left h] at hl
    exact crit T T' h hf h1 hl
  · rw [Nat.max_eq_right h] at hl
    refine (crit T' (b := c) ?_ h (fun j => by have := hf j; omega) h1 hl.neg).neg
    have e : (fun j => 63 - (63 - f j)) = f := funext fun j => by omega
    rw [e]
    exact T
theorem span_lp {f : Nat → Int} {n c b r : Nat} (T : Top1 f n c) (T' : Top1 (fun j => 63 - f j) n b) (hf : ∀ j, 0 ≤ f j ∧ f j < 64) (h1 : 1 ≤ r) (hr : r ≤ n) (hl : Loc f n (max c b) r ∨ r = n) (hno : ∀ q, 1 ≤ q → q < r → ¬ Loc f n (max c b) q) : LP f n r := by
  refine ⟨h1, hr, ?_, fun q q1 q2 hq => hno q q1 q2 (hq.loc _)⟩
  refine crit2 T T' hf h1 ?_
  rcases hl with h | h
  · exact h
  · exact fun i _ _ h3 => absurd h3 (by omega)
set_option maxHeartbeats 8000000 in
open_top hd for PySem.Challenge.rw_rs0015_01
noncomputable abbrev KK (w : World) : Frag := hd.heap_39 w.params
section
variable (w : World)
theorem g_overlap : nsIn (KK w) mainGlobals (Str.ofString "_generate_overlap_table") = some (some (.ref 21)) := by rfl
theorem g_parse : nsIn (KK w) mainGlobals (Str.ofString "_parse_varint") = some (some (.ref 28)) := by rfl
theorem g_row : nsIn (KK w) mainGlobals (Str.ofString "_law_row") = some (some (.ref 33)) := by rfl
theorem g_octets : nsIn (KK w) mainGlobals (Str.ofString "_law_octets") = some (some (.ref 40)) := by rfl
theorem g_breaks : nsIn (KK w) mainGlobals (Str.ofString "_law_breaks") = some (some (.ref 47)) := by rfl
theorem g_cut : nsIn (KK w) mainGlobals (Str.ofString "_law_cut") = some (some (.ref 54)) := by rfl
theorem g_span : nsIn (KK w) mainGlobals (Str.ofString "_law_span") = some (some (.ref 61)) := by rfl
theorem k_overlap : keepIn (KK w) (.ref 21) = true := by rfl
theorem k_parse : keepIn (KK w) (.ref 28) = true := by rfl
theorem k_row : keepIn (KK w) (.ref 33) = true := by rfl
theorem k_octets : keepIn (KK w) (.ref 40) = true := by rfl
theorem k_breaks : keepIn (KK w) (.ref 47) = true := by rfl
theorem k_cut : keepIn (KK w) (.ref 54) = true := by rfl
theorem k_span : keepIn (KK w) (.ref 61) = true := by rfl
theorem n_len : nsIn (KK w) mainGlobals (Str.ofString "len") = some none := by rfl
theorem n_range : nsIn (KK w) mainGlobals (Str.ofString "range") = some none := by rfl
theorem n_iter : nsIn (KK w) mainGlobals (Str.ofString "iter") = some none := by rfl
theorem n_next : nsIn (KK w) mainGlobals (Str.ofString "next") = some none := by rfl
theorem n_max : nsIn (KK w) mainGlobals (Str.ofString "max") = some none := by rfl
theorem n_min : nsIn (KK w) mainGlobals (Str.ofString "min") = some none := by rfl
theorem n_sum : nsIn (KK w) mainGlobals (Str.ofString "sum") = some none := by rfl
theorem n_divmod : nsIn (KK w) mainGlobals (Str.ofString "divmod") = some none := by rfl
theorem n_isinstance : nsIn (KK w) mainGlobals (Str.ofString "isinstance") = some none := by rfl
theorem n_bool : nsIn (KK w) mainGlobals (Str.ofString "bool") = some none := by rfl
theorem n_int : nsIn (KK w) mainGlobals (Str.ofString "int") = some none := by rfl
theorem n_stop : nsIn (KK w) mainGlobals (Str.ofString "StopIteration") = some none := by rfl
end
theorem b_len : bootBuiltins (Str.ofString "len") = some (.builtin "len") := by boot_by_name
theorem b_range : bootBuiltins (Str.ofString "range") = some (.type "range") := by boot_by_name
theorem b_iter : bootBuiltins (Str.ofString "iter") = some (.builtin "iter") := by boot_by_name
theorem b_next : bootBuiltins (Str.ofString "next") = some (.builtin "next") := by boot_by_name
theorem b_max : bootBuiltins (Str.ofString "max") = some (.builtin "max") := by boot_by_name
theorem b_min : bootBuiltins (Str.ofString "min") = some (.builtin "min") := by boot_by_name
theorem b_sum : bootBuiltins (Str.ofString "sum") = some (.builtin "sum") := by boot_by_name
theorem b_divmod : bootBuiltins (Str.ofString "divmod") = some (.builtin "divmod") := by boot_by_name
theorem b_isinstance : bootBuiltins (Str.ofString "isinstance") = some (.builtin "isinstance") := by boot_by_name
theorem b_bool : bootBuiltins (Str.ofString "bool") = some (.type "bool") := by boot_by_name
theorem b_int : bootBuiltins (Str.ofString "int") = some (.type "int") := by boot_by_name
theorem b_stop : bootBuiltins (Str.ofString "StopIteration") = some (.type "StopIteration") := by boot_by_name
local macro_rules | `(tactic| walk_at "mem") => `(tactic| first | exact List.Mem.head _ | (refine List.Mem.tail _ ?_; walk_at "mem") | assumption)
local macro_rules | `(tactic| walk_at "rd") => `(tactic| first | with_reducible exact up_eq | (with_reducible refine up_ne ?rdn ?_; (case rdn => decide); walk_at "rd") | with_reducible assumption | rfl)
local macro_rules | `(tactic| walk_at "hg") => `(tactic| first | with_reducible assumption | exact Sf.get (by with_reducible assumption) (by walk_at "mem") | exact Sf.old (by with_reducible assumption) (by with_reducible assumption))
local macro_rules | `(tactic| walk_at "sz") => `(tactic| first | assumption | omega | (simp only [List.length_append, List.length_map, List.length_range, List.length_take, List.length_drop, List.length_replicate, List.length_set, List.length_cons, List.length_nil] at *; omega))
local macro_rules | `(tactic| walk_at "callb") => `(tactic| first
  | ((with_reducible show wpAny _ _ (eval (Expr.Call (Expr.Name (Str.ofString "len") _) _ _ _) _) _ _ _); refine call_b (by with_reducible assumption) (by with_reducible assumption) (n_len _) b_len ?_)
  | ((with_reducible show wpAny _ _ (eval (Expr.Call (Expr.Name (Str.ofString "max") _) _ _ _) _) _ _ _); refine call_b (by with_reducible assumption) (by with_reducible assumption) (n_max _) b_max ?_)
  | ((with_reducible show wpAny _ _ (eval (Expr.Call (Expr.Name (Str.ofString "min") _) _ _ _) _) _ _ _); refine call_b (by with_reducible assumption) (by with_reducible assumption) (n_min _) b_min ?_)
  | ((with_reducible show wpAny _ _ (eval (Expr.Call (Expr.Name (Str.ofString "iter") _) _ _ _) _) _ _ _); refine call_b (by with_reducible assumption) (by with_reducible assumption) (n_iter _) b_iter ?_)
  | ((with_reducible show wpAny _ _ (eval (Expr.Call (Expr.Name (Str.ofString "next") _) _ _ _) _) _ _ _); refine call_b (by with_reducible assumption) (by with_reducible assumption) (n_next _) b_next ?_)
  | ((with_reducible show wpAny _ _ (eval (Expr.Call (Expr.Name (Str.ofString "sum") _) _ _ _) _) _ _ _); refine call_b (by with_reducible assumption) (by with_reducible assumption) (n_sum _) b_sum ?_)
  | ((with_reducible show wpAny _ _ (eval (Expr.Call (Expr.Name (Str.ofString "divmod") _) _ _ _) _) _ _ _); refine call_b (by with_reducible assumption) (by with_reducible assumption) (n_divmod _) b_divmod ?_)
  | ((with_reducible show wpAny _ _ (eval (Expr.Call (Expr.Name (Str.ofString "isinstance") _) _ _ _) _) _ _ _); refine call_b (by with_reducible assumption) (by with_reducible assumption) (n_isinstance _) b_isinstance ?_)
  | ((with_reducible show wpAny _ _ (eval (Expr.Call (Expr.Name (Str.ofString "range") _) _ _ _) _) _ _ _); refine call_t (by with_reducible assumption) (by with_reducible assumption) (n_range _) b_range ?_)
  | ((with_reducible show wpAny _ _ (eval (Expr.Call (Expr.Name (Str.ofString "_generate_overlap_table") _) _ _ _) _) _ _ _); refine call_d (by with_reducible assumption) (by with_reducible assumption) (g_overlap _) (k_overlap _) ?_)
  | ((with_reducible show wpAny _ _ (eval (Expr.Call (Expr.Name (Str.ofString "_parse_varint") _) _ _ _) _) _ _ _); refine call_d (by with_reducible assumption) (by with_reducible assumption) (g_parse _) (k_parse _) ?_)
  | ((with_reducible show wpAny _ _ (eval (Expr.Call (Expr.Name (Str.ofString "_law_row") _) _ _ _) _) _ _ _); refine call_d (by with_reducible assumption) (by with_reducible assumption) (g_row _) (k_row _) ?_)
  | ((with_reducible show wpAny _ _ (eval (Expr.Call (Expr.Name (Str.ofString "_law_octets") _) _ _ _) _) _ _ _); refine call_d (by with_reducible assumption) (by with_reducible assumption) (g_octets _) (k_octets _) ?_)
  | ((with_reducible show wpAny _ _ (eval (Expr.Call (Expr.Name (Str.ofString "_law_breaks") _) _ _ _) _) _ _ _); refine call_d (by with_reducible assumption) (by with_reducible assumption) (g_breaks _) (k_breaks _) ?_)
  | ((with_reducible show wpAny _ _ (eval (Expr.Call (Expr.Name (Str.ofString "_law_cut") _) _ _ _) _) _ _ _); refine call_d (by with_reducible assumption) (by with_reducible assumption) (g_cut _) (k_cut _) ?_)
  | ((with_reducible show wpAny _ _ (eval (Expr.Call (Expr.Name (Str.ofString "_law_span") _) _ _ _) _) _ _ _); refine call_d (by with_reducible assumption) (by with_reducible assumption) (g_span _) (k_span _) ?_))
local macro_rules | `(tactic| walk_at "op") => `(tactic| ((with_reducible rename Sf _ _ _ _ _ _ => S0); (first
  | ((with_reducible show wpAny _ _ (eval (Expr.Constant (Const.int _) _ _) _) _ _ _); refine c_int S0 ?_)
  | ((with_reducible show wpAny _ _ (binaryOp Operator.Add (Value.int _ _) (Value.int _ _)) _ _ _); refine o_add S0 ?_)
  | ((with_reducible show wpAny _ _ (binaryOp Operator.Sub (Value.int _ _) (Value.int _ _)) _ _ _); refine o_sub S0 ?_)
  | ((with_reducible show wpAny _ _ (inplaceOp Operator.Add (Value.int _ _) (Value.int _ _)) _ _ _); refine o_iadd S0 ?_)
  | ((with_reducible show wpAny _ _ (unaryOp UnaryOp.USub (Value.int _ _)) _ _ _); refine o_neg S0 ?_)
  | ((with_reducible show wpAny _ _ (binaryOp Operator.BitAnd (Value.int _ _) (Value.int _ _)) _ _ _); refine o_and S0 ?_)
  | ((with_reducible show wpAny _ _ (inplaceOp Operator.BitOr (Value.int _ _) (Value.int _ _)) _ _ _); refine o_ior S0 ?_)
  | ((with_reducible show wpAny _ _ (binaryOp Operator.Mod (Value.int _ _) (Value.int (64 ^ _) _)) _ _ _); refine o_mod64 S0 ?_)
  | ((with_reducible show wpAny _ _ (binaryOp Operator.Mod (Value.int _ _) (Value.int _ _)) _ _ _); refine o_mod S0 (by first | decide | omega) ?_)
  | ((with_reducible show wpAny _ _ (binaryOp Operator.FloorDiv (Value.int _ _) (Value.int (64 ^ _) _)) _ _ _); refine o_div64 S0 (by omega) ?_)
  | ((with_reducible show wpAny _ _ (call (Value.builtin "max") [Value.int _ _, Value.int _ _]) _ _ _); refine o_max (by assumption) S0 ?_)
  | ((with_reducible show wpAny _ _ (call (Value.builtin "min") [Value.int _ _, Value.int _ _]) _ _ _); refine o_min (by assumption) S0 ?_)
  | ((with_reducible show wpAny _ _ (binaryOp Operator.Pow (Value.int 64 _) (Value.int _ _)) _ _ _); refine o_pow64 S0 (by omega) (by omega) ?_)
  | ((with_reducible show wpAny _ _ (call (Value.builtin "len") [Value.ref _]) _ _ _); refine l_len S0 (by walk_at "hg") (by with_reducible assumption) (by walk_at "sz") ?_)); intro s' t' S'; clear S0))
local macro_rules | `(tactic| walk_at "store") => `(tactic| ((with_reducible show wpAny _ _ (storeName _ _ _) _ _ _); (with_reducible rename Sf _ _ _ _ _ _ => S0); (refine st_local S0 ?_); intro s' S'; clear S0))
local macro_rules | `(tactic| walk_at "me") => `(tactic| first
  | ((with_reducible show wpAny _ _ (execs [] _) _ _ _); refine wpAny_execs_nil ?_)
  | ((with_reducible show wpAny _ _ (execs (_ :: _) _) _ _ _); refine wpAny_execs_cons ?_)
  | ((with_reducible show wpAny _ _ (exec (Stmt.Assign [Expr.Name _ _] _ _) _) _ _ _); refine wpAny_Assign_Name ?_)
  | ((with_reducible show wpAny _ _ (exec (Stmt.AugAssign (Expr.Name _ _) _ _ _) _) _ _ _); refine wpAny_AugAssign_Name ?_)
  | ((with_reducible show wpAny _ _ (exec (Stmt.Assign [Expr.Subscript _ _ _] _ _) _) _ _ _); refine wpAny_Assign_Subscript ?_)
  | ((with_reducible show wpAny _ _ (exec (Stmt.Expr _ _) _) _ _ _); refine wpAny_Expr ?_)
  | ((with_reducible show wpAny _ _ (exec (Stmt.If _ _ _ _) _) _ _ _); refine wpAny_If ?_)
  | ((with_reducible show wpAny _ _ (exec (Stmt.Return (some _) _) _) _ _ _); refine wpAny_Return_some ?_)
  | ((with_reducible show wpAny _ _ (isTrue (Expr.Compare _ [_] [_] _) _ _) _ _ _); refine wpAny_isTrue_Compare1 ?_)
  | ((with_reducible show wpAny _ _ (eval (Expr.Compare _ [_] [_] _) _) _ _ _); refine wpAny_Compare1 ?_)
  | ((with_reducible show wpAny _ _ (eval (Expr.BinOp _ _ _ _) _) _ _ _); refine wpAny_BinOp ?_)
  | ((with_reducible show wpAny _ _ (eval (Expr.UnaryOp _ _ _) _) _ _ _); refine UnaryOp_ ?_)
  | ((with_reducible show wpAny _ _ (eval (Expr.IfExp _ _ _ _) _) _ _ _); refine IfExp_ ?_)
  | ((with_reducible show wpAny _ _ (eval (Expr.Subscript _ _ _) _) _ _ _); refine Subscript_ ?_)
  | ((with_reducible show wpAny _ _ (eval (Expr.Name _ _) _) _ _ _); refine nm_local (by with_reducible assumption) (by walk_at "rd") ?_)
  | ((with_reducible show wpAny _ _ (loadName _ _) _ _ _); refine ld_local (by with_reducible assumption) (by walk_at "rd") ?_)
  | ((with_reducible show wpAny _ _ (spliced (backTo _ (starEach [] _))) _ _ _); refine spliced_none ?_)
  | ((with_reducible show wpAny _ _ (spliced (backTo _ (starEach (_ :: _) _))) _ _ _); refine spliced_more ?_)
  | ((with_reducible show wpAny _ _ (truthy (Value.bool _)) _ _ _); refine wpAny_truthy_bool ?_)
  | ((with_reducible show wpAny _ _ (compareOp CmpOp.Eq (Value.int _ _) (Value.int _ _)) _ _ _); refine PyProof.Rows.eq_int ?_)
  | ((with_reducible show wpAny _ _ (compareOp CmpOp.NotEq (Value.int _ _) (Value.int _ _)) _ _ _); refine PyProof.Rows.ne_int ?_)
  | ((with_reducible show wpAny _ _ (compareOp CmpOp.Lt (Value.int _ _) (Value.int _ _)) _ _ _); refine PyProof.Rows.lt_int ?_)
  | ((with_reducible show wpAny _ _ (compareOp CmpOp.Gt (Value.int _ _) (Value.int _ _)) _ _ _); refine PyProof.Rows.gt_int ?_)
  | ((with_reducible show wpAny _ _ (compareOp CmpOp.LtE (Value.int _ _) (Value.int _ _)) _ _ _); refine PySem.P.le_int ?_)
  | ((with_reducible show wpAny _ _ (compareOp CmpOp.GtE (Value.int _ _) (Value.int _ _)) _ _ _); refine PySem.P.ge_int ?_)
  | ((with_reducible show wpAny _ _ (eval (Expr.Call (Expr.Attribute _ _ _) _ _ _) _) _ _ _); refine MethodCall_ ?_)
  | ((with_reducible show wpAny _ _ (callWith _ (Value.builtin _) _ (backTo _ (starEach (_ :: _) _)) _) _ _ _); refine callWith_method1 ?_)
  | ((with_reducible show wpAny _ _ (getMethod (Value.ref _) (Str.ofString "append") _) _ _ _); first | refine m_append (by walk_at "hg") (by with_reducible assumption) ?_ | refine rm_append (by walk_at "hg") (by with_reducible assumption) ?_)
  | ((with_reducible show wpAny _ _ (eval (Expr.List _ _) _) _ _ _); refine List_ ?_)
  | ((with_reducible show wpAny _ _ (eval (Expr.Tuple _ _ _) _) _ _ _); refine Tuple_ ?_)
  | ((with_reducible show wpAny _ _ (eval (Expr.Constant (Const.bool _) _ _) _) _ _ _); refine PyProof.Rows.Constant_bool ?_)
  | ((with_reducible show wpAny _ _ (exec (Stmt.Break _) _) _ _ _); refine wpAny_Break ?_)
  | ((with_reducible show wpAny _ _ (eval (Expr.Slice _ _ _ _) _) _ _ _); refine wpAny_Slice ?_)
  | ((with_reducible show wpAny _ _ (evalPart none _) _ _ _); refine evalPart_none_step ?_)
  | ((with_reducible show wpAny _ _ (evalPart (some _) _) _ _ _); refine evalPart_some_step ?_)
  | ((with_reducible show wpAny _ _ (getMethod (Value.ref _) (Str.ofString "extend") _) _ _ _); refine m_extend (by with_reducible assumption) (by walk_at "mem") (by with_reducible assumption) ?_)
  | ((with_reducible show wpAny _ _ (isTrue (Expr.BinOp _ _ _ _) _ _) _ _ _); refine isTrue_plain ?_)
  | ((with_reducible show wpAny _ _ (isTrue (Expr.Call _ _ _ _) _ _) _ _ _); refine isTrue_plain ?_)
  | ((with_reducible show wpAny _ _ (isTrue (Expr.UnaryOp UnaryOp.Not _ _) _ _) _ _ _); refine isTrue_not ?_)
  | ((with_reducible show wpAny _ _ (isTrue (Expr.BoolOp BoolOp.Or (_ :: _) _) _ _) _ _ _); refine isTrue_or ?_)
  | ((with_reducible show wpAny _ _ (isTrue (Expr.BoolOp BoolOp.Or [] _) _ _) _ _ _); refine isTrue_or_nil ?_)
  | ((with_reducible show wpAny _ _ (isTrue (Expr.BoolOp BoolOp.And (_ :: _) _) _ _) _ _ _); refine isTrue_and ?_)
  | ((with_reducible show wpAny _ _ (isTrue (Expr.BoolOp BoolOp.And [] _) _ _) _ _ _); refine isTrue_and_nil ?_)
  | ((with_reducible show wpAny _ _ (truthy (Value.int _ _)) _ _ _); refine PySem.P.truthy_int ?_)
  | ((with_reducible show wpAny _ _ (exec (Stmt.For (Expr.Name _ _) _ _ _ _) _) _ _ _); refine wpAny_For ?_)
  | ((with_reducible show wpAny _ _ (call (Value.type "range") [Value.int _ _]) _ _ _); ((with_reducible rename Sf _ _ _ _ _ _ => S0); refine rg_1 S0 ?_; intro r' s' t' u' v' hr' S'; clear S0))
  | ((with_reducible show wpAny _ _ (call (Value.type "range") [Value.int _ _, Value.int _ _]) _ _ _); ((with_reducible rename Sf _ _ _ _ _ _ => S0); refine rg_2 S0 ?_; intro r' s' t' u' v' hr' S'; clear S0))
  | ((with_reducible show wpAny _ _ (subscriptTail _ _ (Value.ref _) (Value.int _ _)) _ _ _); (refine l_item (by walk_at "hg") (by with_reducible assumption) (by omega) (by walk_at "sz") (by walk_at "sz") ?_; intro t'))
  | ((with_reducible show TurnEnd _ _ _ _); dsimp only [TurnEnd])
  | walk_at "store"
  | walk_at "op"
  | walk_at "callb")
def octOf (ns : List Int) (cut : Int) (k : Nat) : Int := ns.getD k 0 + (if (k : Int) + 1 = cut ∨ (k : Int) + 1 = ns.length then 0 else 64) + 128 * (((k : Int) + cut / 2) % 2)
def octs (ns : List Int) (cut : Int) : List Int := (List.range ns.length).map (octOf ns cut)
theorem octets_call {prog : Program} {w : World} {A : Around} {E : Value → Shared → Prop} {s : Shared} {Q : Value → Shared → Prop} {l : Addr} {o : Obj} {ns : List Int} {cut : Int} {t : Tok}
    (G : Gl (KK w) s.heap) (hl : s.heap.get? l = some o) (hi : IL o ns) (hz : ns.length ≤ 1000) (hc0 : 0 ≤ cut) (hc1 : cut ≤ 1000) (hh : A.handled = none) (hd : A.depth < recursionLimit) (hu : A.units + 10 < cLine)
    (h : ∀ a ob s', IL ob (octs ns cut) → Out [] s s' → New s s' a ob → Q (.ref a) s') :
    wpAny (model prog w) A (call (.ref 40) [.ref l, .int cut t]) Q E s := by
  refine enter (binds := [(Str.ofString "row", .ref l), (Str.ofString "cut", .int cut t)]) G (by rfl) (by rfl) hd (by rfl) (locs rfl) ?_
  intro s1 S
  repeat (walk_at "me")
  refine l_new S .nil (by decide) ?_
  intro a ob s2 hob S2
  clear S
  repeat (walk_at "me")
  rename_i r' s' t' u' v' hr' S'
  refine for_range ns.length (fun i m news => m (Str.ofString "row") = some (.ref l) ∧ m (Str.ofString "cut") = some (.int cut t) ∧ m (Str.ofString "octets") = some (.ref a) ∧ ∃ ob, news = [(a, ob)] ∧ IL ob ((List.range i).map (octOf ns cut)))
    hh S' hr' (.inl (by omega)) (by omega) (by omega) (by omega) (by omega) ⟨by walk_at "rd", by walk_at "rd", by walk_at "rd", ob, rfl, hob⟩ ?_ ?_
  · rintro i ti m₁ news₁ it oi s3 hlt ⟨h1, h2, h3, ob, rfl, hob⟩ S3
    repeat (walk_at "me")
    rename_i S4
    refine t_new S4 (by simp) ?_
    intro a5 s5 S5
    refine in_tup2 S5 ?_
    replace S5 := S5.tail
    repeat (walk_at "me")
    refine if_const S5 ?_
    intro s6 t6 S6
    repeat (walk_at "me")
    refine o_div 10 (by assumption) (by decide) (by decide) (by decide) ?_
    intro s7 t7 S7
    repeat (walk_at "me")
    refine o_mul 10 10 (by assumption) (by decide) (by omega) (by decide) ?_
    intro s8 t8 S8
    repeat (walk_at "me")
    refine l_append (pre := [_]) (by assumption) hob (by simp; omega) ?_
    intro ob' s9 hob' S9
    repeat (walk_at "me")
    refine ⟨_, _, ⟨by walk_at "rd", by walk_at "rd", by walk_at "rd", ob', rfl, ?_⟩, S9⟩
    rw [List.range_succ, List.map_append]
    simpa [octOf] using hob'
  · rintro m₁ news₁ s3 ⟨h1, h2, h3, ob, rfl, hob⟩ S3
    repeat (walk_at "me")
    exact h a ob _ hob S3.out (S3.new (.head _))
theorem parse_ok {prog : Program} {w : World} {A : Around} {E : Value → Shared → Prop} {s : Shared} {Q : Value → Shared → Prop} {l it : Addr} {lo ob : Obj} {os : List Int} {i k : Nat}
    (G : Gl (KK w) (s.heap.hide it)) (hx : s.heap.get? it = some ob) (hob : LIt l i ob) (hl : (s.heap.hide it).get? l = some lo) (hi : IL lo os) (hr : ∀ x ∈ os, 0 ≤ x ∧ x < 256) (hz : i + k < os.length) (hz2 : os.length ≤ 1000)
    (hmore : ∀ j, j < k → os.getD (i + j) 0 / 64 % 2 = 1) (hlast : os.getD (i + k) 0 / 64 % 2 = 0) (hd : A.depth < recursionLimit)
    (h : ∀ t ob' s', LIt l (i + k + 1) ob' → s'.heap.get? it = some ob' → Out [it] s s' → Q (.int (valL os i (k + 1)) t) s') :
    wpAny (model prog w) A (call (.ref 28) [.ref it]) Q E s := by
  refine enterW (binds := [(Str.ofString "iterator", .ref it)]) G hx (by rfl) (by rfl) hd (by rfl) (locs rfl) ?_
  intro s1 S
  have rng : ∀ j, j < os.length → 0 ≤ os.getD j 0 ∧ os.getD j 0 < 256 := by
    intro j hj
    have e : os.getD j 0 = os[j] := by simp [hj]
    rw [e]; exact hr _ (List.getElem_mem _)
  repeat (walk_at "me")
  refine n_item S hob (S.old hl) hi (by omega) ?_
  intro t2 ob2 s2 hob2 S2
  clear S
  repeat (walk_at "me")
  rename_i s' S'
  refine r_whileE (fun n s' => ∃ (j : Nat) (m : Str → Option Value) (ob' : Obj), j ≤ k ∧ n = k - j ∧ m (Str.ofString "iterator") = some (.ref it) ∧ IV m (Str.ofString "b") (os.getD (i + j) 0) ∧ IV m (Str.ofString "val") (valL os i (j + 1)) ∧ LIt l (i + j + 1) ob' ∧ Sf s (s.heap.hide it) _ m [(it, ob')] s')
    PassesOwn.leaving ?_ k ⟨0, _, ob2, by omega, by omega, by walk_at "rd", .mk (by walk_at "rd") rfl, .mk (by walk_at "rd") ?_, hob2, S'⟩
  · rintro n s3 ⟨j, m, ob', hj, rfl, h1, ⟨tb, h2⟩, ⟨tv, h3⟩, hob', S3⟩
    repeat (walk_at "me")
    obtain ⟨r1, r2⟩ := rng (i + j) (by omega)
    rw [and64 r1 r2]
    refine split_bool ?_ ?_
    · intro hc
      have hjk : j < k := by
        rcases Nat.lt_or_ge j k with q | q
        · exact q
        · have : j = k := by omega
          subst this
          rw [hlast] at hc
          simp at hc
      repeat (walk_at "me")
      have hv := valL_lt os i (j + 1)
      refine o_ishl6 (6 * (j + 1)) (by assumption) (nat64 hv.1 hv.2) (by omega) ?_
      intro s5 t5 S5
      repeat (walk_at "me")
      rename_i S6
      refine n_item S6 hob' (S6.old hl) hi (by omega) ?_
      intro t7 ob7 s7 hob7 S7
      repeat (walk_at "me")
      rename_i s8 S8
      rw [show i + j + 1 = i + (j + 1) from by omega, bitAnd_m6, bitOr64 hv.1 (Int.emod_nonneg _ (by decide)) (Int.emod_lt_of_pos _ (by decide))] at S8
      refine ⟨k - (j + 1), by omega, j + 1, _, ob7, by omega, rfl, by walk_at "rd", .mk (by walk_at "rd") ?_, .mk (by walk_at "rd") ?_, hob7, S8⟩
      · rfl
      · simp only [valL]
        omega
    · intro hc
      have hjk : j = k := by
        rcases Nat.lt_or_ge j k with q | q
        · rw [hmore j q] at hc
          simp at hc
        · omega
      subst hjk
      repeat (walk_at "me")
      exact h _ ob' _ hob' ((by assumption : Sf _ _ _ _ _ _).get (.head _)) (by assumption : Sf _ _ _ _ _ _).outW
  · simp [valL, bitAnd_m6]

theorem parse_stop {prog : Program} {w : World} {A : Around} {E : Value → Shared → Prop} {s : Shared} {Q : Value → Shared → Prop} {l it : Addr} {lo ob : Obj} {os : List Int} {i : Nat} {base : Heap} {outer : List Env}
    (G : Gl (KK w) (s.heap.hide it)) (hx : s.heap.get? it = some ob) (hob : LIt l i ob) (hl : (s.heap.hide it).get? l = some lo) (hi : IL lo os) (hr : ∀ x ∈ os, 0 ≤ x ∧ x < 256) (hz2 : os.length ≤ 1000)
    (hmore : ∀ j, i ≤ j → j < os.length → os.getD j 0 / 64 % 2 = 1) (hd : A.depth < recursionLimit) (hh : A.handled = none)
    (hfr : A.frames = some outer) (hbs : base.StaysIn s.heap) (hbit : base.get? it = none) (hff : s.heap.FunFrames base outer)
    (h : ∀ e s', Flies base outer s s' e → E (.ref e) s') :
    wpAny (model prog w) A (call (.ref 28) [.ref it]) Q E s := by
  refine enterW (binds := [(Str.ofString "iterator", .ref it)]) G hx (by rfl) (by rfl) hd (by rfl) (locs rfl) ?_
  intro s1 S
  have rng : ∀ j, j < os.length → 0 ≤ os.getD j 0 ∧ os.getD j 0 < 256 := by
    intro j hj
    have e : os.getD j 0 = os[j] := by simp [hj]
    rw [e]; exact hr _ (List.getElem_mem _)
  repeat (walk_at "me")
  rcases Nat.lt_or_ge i os.length with hlt | hge
  · refine n_item S hob (S.old hl) hi hlt ?_
    intro t2 ob2 s2 hob2 S2
    clear S
    repeat (walk_at "me")
    rename_i s' S'
    refine r_whileE (fun n s' => ∃ (j : Nat) (m : Str → Option Value) (ob' : Obj), i + j < os.length ∧ n = os.length - (i + j) ∧ m (Str.ofString "iterator") = some (.ref it) ∧ IV m (Str.ofString "b") (os.getD (i + j) 0) ∧ IV m (Str.ofString "val") (valL os i (j + 1)) ∧ LIt l (i + j + 1) ob' ∧ Sf s (s.heap.hide it) _ m [(it, ob')] s')
      PassesOwn.leaving ?_ (os.length - i) ⟨0, _, ob2, by omega, by omega, by walk_at "rd", .mk (by walk_at "rd") rfl, .mk (by walk_at "rd") ?_, hob2, S'⟩
    · rintro n s3 ⟨j, m, ob', hj, rfl, h1, ⟨tb, h2⟩, ⟨tv, h3⟩, hob', S3⟩
      repeat (walk_at "me")
      obtain ⟨r1, r2⟩ := rng (i + j) (by omega)
      rw [and64 r1 r2, hmore (i + j) (by omega) hj]
      rw [if_pos (by decide)]
      repeat (walk_at "me")
      have hv := valL_lt os i (j + 1)
      refine o_ishl6 (6 * (j + 1)) (by assumption) (nat64 hv.1 hv.2) (by omega) ?_
      intro s5 t5 S5
      repeat (walk_at "me")
      rename_i S6
      rcases Nat.lt_or_ge (i + j + 1) os.length with hlt2 | hge2
      · refine n_item S6 hob' (S6.old hl) hi (by omega) ?_
        intro t7 ob7 s7 hob7 S7
        repeat (walk_at "me")
        rename_i s8 S8
        rw [show i + j + 1 = i + (j + 1) from by omega, bitAnd_m6, bitOr64 hv.1 (Int.emod_nonneg _ (by decide)) (Int.emod_lt_of_pos _ (by decide))] at S8
        refine ⟨os.length - (i + (j + 1)), by omega, j + 1, _, ob7, by omega, rfl, by walk_at "rd", .mk (by walk_at "rd") ?_, .mk (by walk_at "rd") ?_, hob7, S8⟩
        · rfl
        · simp only [valL]
          omega
      · refine n_end hh (S6.get (.head _)) hob' (S6.old hl) hi hge2 ?_
        intro e h' hst
        exact stop_leave hx hob hfr hbs hbit hff S6 hst (Nat.le_refl _) rfl (by show ScopeKind.function ≠ ScopeKind.module; decide) h
    · simp [valL, bitAnd_m6]
  · refine n_end hh (S.get (.head _)) hob (S.old hl) hi hge ?_
    intro e h' hst
    exact stop_leave hx hob hfr hbs hbit hff S hst (Nat.le_refl _) rfl (by show ScopeKind.function ≠ ScopeKind.module; decide) h

theorem breaks_stop {prog : Program} {w : World} {A : Around} {E : Value → Shared → Prop} {s : Shared} {Q : Value → Shared → Prop} {l it LL : Addr} {lo ob oL : Obj} {os : List Int} {i : Nat} {envL : Env}
    (G : Gl (KK w) ((s.heap.hide it).hide LL)) (hx : s.heap.get? it = some ob) (hob : LIt l i ob) (hl : (s.heap.hide it).get? l = some lo) (hi : IL lo os) (hr : ∀ x ∈ os, 0 ≤ x ∧ x < 256) (hz2 : os.length ≤ 1000)
    (hmore : ∀ j, i ≤ j → j < os.length → os.getD j 0 / 64 % 2 = 1) (hd : A.depth + 1 < recursionLimit) (hh : A.handled = none)
    (hfr : A.frames = some [envL]) (hfL : envL.frame = some LL) (hkL : envL.scope.kind ≠ .module) (hLL : s.heap.get? LL = some oL) (hdL : ∀ vs, oL.data ≠ .fields vs)
    (h : ∀ s', OutX it LL s s' → Q (.bool true) s') :
    wpAny (model prog w) A (call (.ref 47) [.ref it]) Q E s := by
  have hne : LL ≠ it := by
    intro q
    rw [q, hx] at hLL
    exact hdL _ ((Option.some.inj hLL) ▸ hob.2)
  have sub : ∀ b o, ((s.heap.hide it).hide LL).get? b = some o → (s.heap.hide it).get? b = some o := fun b o e => Heap.of_hide e
  have G1 : Gl (KK w) (s.heap.hide it) := G.keeps sub
  refine enterW (binds := [(Str.ofString "tape", .ref it)]) G1 hx (by rfl) (by rfl) (by omega) (by rfl) (locs rfl) ?_
  intro s1 S
  have hbit : ((s.heap.hide it).hide LL).get? it = none := by
    cases hq : ((s.heap.hide it).hide LL).get? it with
    | none => rfl
    | some o => have := sub _ _ hq; rw [Heap.hide_self] at this; cases this
  have hbs : ((s.heap.hide it).hide LL).StaysIn s1.heap := fun b o e => S.F.keep b o (sub b o e)
  have hlne : l ≠ it := fun q => by rw [q, Heap.hide_self] at hl; cases hl
  refine wpAny_execs_cons ?_
  refine wpAny_Try_except ?_
  repeat (walk_at "me")
  refine ⟨(S.gl G1).inn, ?_⟩
  refine parse_stop (base := (s.heap.hide it).hide LL) (outer := [_, envL]) (S.glW G1) (S.get (.head _)) hob ((Heap.hide_ne _ hlne).trans (S.old hl)) hi hr hz2 hmore (by show A.depth + 1 < _; omega) hh (Around.frames_deeper hfr) hbs hbit ?_ ?_
  · refine Heap.FunFrames.cons (by show ScopeKind.function ≠ ScopeKind.module; decide) rfl S.F.ns ?_ ⟨hkL, ⟨LL, oL, hfL, Heap.hide_self .., S.F.keep _ _ ((Heap.hide_ne _ hne).trans hLL), hdL⟩, trivial⟩
    show ((s.heap.hide it).hide LL).get? s.heap.objs.size = none
    cases hq : ((s.heap.hide it).hide LL).get? s.heap.objs.size with
    | none => rfl
    | some o => exact absurd (Heap.lt_size (Heap.of_hide (sub _ _ hq))) (Nat.lt_irrefl _)
  · intro e s2 fl
    obtain ⟨a0, hfl⟩ := fl.fly
    refine wpAny_looks_onW (Around.frames_deeper hfr) rfl hfl fun h3 hh3 u3 => ?_
    refine wpAny_landsW (s := { s2 with heap := h3 }) hh3 fun h4 hfl4 u4 => ?_
    have G4 : Gl (KK w) h4 := G.keeps hfl4.1
    obtain ⟨mg, mb, ga, gb, gc⟩ := G4.names
    refine wpAny_handleBy_builtin (X := "StopIteration") (T := "StopIteration") (b := true) owsi_raise.isExc (by rw [isSubtype_type]; kernel_rfl) owsi_facts.sub ?_
    refine Name_function_global rfl rfl (loadGlobal_builtin ga (mg_none_of G4.inn ga (n_stop w)) gb ((gc _ (by decide)).trans b_stop) ?_) (by decide)
    refine ⟨rfl, hfl4.there, ?_⟩
    rw [if_pos rfl]
    refine wpAny_setFlight_noneW (s := { s2 with heap := h4 }) hfl4.1 hfl4.2.2.1 hfl4.2.2.2.at fun h5 k1 k2 k3 k4 => ?_
    repeat (walk_at "me")
    refine h _ ⟨fun b o hb hbL eb => k1 b o ((Heap.hide_ne _ hbL).trans ((Heap.hide_ne _ hb).trans eb)), fun b o eb hn => ?_, fl.g.trans S.g, fl.d.trans S.d, fl.o.trans S.o⟩
    have hbit' : b ≠ it := by
      intro q
      rw [q, hx] at eb
      exact hn _ ((Option.some.inj eb) ▸ hob.2)
    obtain ⟨sl2, e2⟩ := fl.upto b o (S.F.keep b o ((Heap.hide_ne _ hbit').trans eb)) hn
    obtain ⟨sl3, e3⟩ := u3 b _ e2 hn
    obtain ⟨sl4, e4⟩ := u4 b _ e3 hn
    exact ⟨sl4, k4 b _ e4 hn⟩
theorem overlap_call {prog : Program} {w : World} {A : Around} {E : Value → Shared → Prop} {s : Shared} {Q : Value → Shared → Prop} {l : Addr} {o : Obj} {ns : List Int}
    (G : Gl (KK w) s.heap) (hl : s.heap.get? l = some o) (hi : IL o ns) (hz : ns.length ≤ 200) (hh : A.handled = none) (hd : A.depth < recursionLimit)
    (h : ∀ a ob T s', IL ob T → T.length = ns.length → Tbl (fun j => ns.getD j 0) ns.length T → Out [] s s' → New s s' a ob → Q (.ref a) s') :
    wpAny (model prog w) A (call (.ref 21) [.ref l]) Q E s := by
  refine enter (binds := [(Str.ofString "prefix", .ref l)]) G (by rfl) (by rfl) hd (by rfl) (locs rfl) ?_
  intro s1 S
  repeat (walk_at "me")
  rename_i S1
  refine l_new S1 (.cons 0 _ .nil) (by decide) ?_
  intro a0 ob0 s2 hob0 S2
  clear S1
  repeat (walk_at "me")
  rename_i S3
  refine l_mul S3 (S3.get (.head _)) hob0 (by omega) (by omega) (by simp; omega) ?_
  intro a ob s4 hob S4
  replace S4 := S4.sublist (news' := [(a, ob)]) (by simp)
  repeat (walk_at "me")
  rename_i r' s' t' u' v' hr' S'
  refine for_range (ns.length - 1) (fun k m news => m (Str.ofString "prefix") = some (.ref l) ∧ m (Str.ofString "table") = some (.ref a) ∧ ∃ ob T, news = [(a, ob)] ∧ IL ob T ∧ T.length = ns.length ∧ Tbl (fun j => ns.getD j 0) (k + 1) T)
    hh S' hr' (by omega) (by omega) (by omega) (by omega) (by omega) ⟨by walk_at "rd", by walk_at "rd", ob, _, rfl, hob, ?_, Tbl.first ?_⟩ ?_ ?_
  · simp
  · cases ns with
    | nil => rfl
    | cons x r => simp [List.replicate_succ]
  · rintro k ti m₁ news₁ it oi s3 hlt ⟨h1, h2, ob, T, rfl, hob, hT, hTb⟩ S3
    repeat (walk_at "me")
    rename_i s5 S5
    obtain ⟨p, hlp, ep⟩ := hTb k (by omega)
    have hpl := hlp.le
    have e1 : (0 : Int) + 1 + (k : Nat) - 1 = (k : Nat) := by omega
    refine r_while (fun n s' => ∃ (m : Str → Option Value), Inv (fun j => ns.getD j 0) (k + 1) n ∧ m (Str.ofString "prefix") = some (.ref l) ∧ m (Str.ofString "table") = some (.ref a) ∧ IV m (Str.ofString "i") (1 + (k : Nat)) ∧ IV m (Str.ofString "idx") (n : Nat) ∧ Sf s s.heap _ m [(it, oi), (a, ob)] s')
      ?_ (k + 1 - p) ⟨_, inv_start hlp (by omega), by walk_at "rd", by walk_at "rd", .mk (by walk_at "rd") rfl, .mk (by walk_at "rd") ?_, S5⟩
    · rintro n s6 ⟨m, hinv, h1, h2, ⟨ti, h3⟩, ⟨tx, h4⟩, S6⟩
      have hn := hinv.lt
      have ei : ((1 : Int) + (k : Nat)).toNat = k + 1 := by omega
      repeat (walk_at "me")
      rw [ei, Int.toNat_natCast]
      refine split_bool ?_ ?_
      · intro hc
        have hc' : ns.getD (k + 1) 0 ≠ ns.getD n 0 := by simpa using hc
        repeat (walk_at "me")
        refine split_bool ?_ ?_
        · intro h0
          have hn0 : n = 0 := by simpa using h0
          subst hn0
          repeat (walk_at "me")
          refine l_set (pre := [_]) (by assumption) hob (by omega) (by omega) (by omega) ?_
          intro ob' s7 hob' S7
          repeat (walk_at "me")
          refine ⟨_, _, ⟨by walk_at "rd", by walk_at "rd", ob', _, rfl, hob', by simp [hT], ?_⟩, S7⟩
          rw [ei]
          exact hTb.set (by omega) (inv_zero hinv hc') (by omega)
        · intro h0
          have hn0 : n ≠ 0 := by simpa using h0
          repeat (walk_at "me")
          rename_i S7
          obtain ⟨q, hlq, eq⟩ := hTb (n - 1) (by omega)
          rw [show n - 1 + 1 = n by omega] at hlq
          have := hlq.le
          have := hlq.pos
          refine ⟨n - q, by omega, _, inv_next hinv hc' hlq, by walk_at "rd", by walk_at "rd", .mk (by walk_at "rd") rfl, .mk (by walk_at "rd") ?_, S7⟩
          rw [show ((n : Int) - 1).toNat = n - 1 by omega, eq]
          omega
      · intro hc
        have hc' : ns.getD (k + 1) 0 = ns.getD n 0 := by simpa using hc
        repeat (walk_at "me")
        refine l_set (pre := [_]) (by assumption) hob (by omega) (by omega) (by omega) ?_
        intro ob' s7 hob' S7
        repeat (walk_at "me")
        refine ⟨_, _, ⟨by walk_at "rd", by walk_at "rd", ob', _, rfl, hob', by simp [hT], ?_⟩, S7⟩
        rw [ei]
        exact hTb.set (by omega) (inv_hit hinv hc') (by omega)
    · rw [show ((1 : Int) + (k : Nat) - 1).toNat = k by omega, ep]
      omega
  · rintro m₁ news₁ s3 ⟨h1, h2, ob, T, rfl, hob, hT, hTb⟩ S3
    repeat (walk_at "me")
    refine h a ob T _ hob hT (fun i hi => hTb i (by omega)) S3.out (S3.new (.head _))
theorem span_call {prog : Program} {w : World} {A : Around} {E : Value → Shared → Prop} {s : Shared} {Q : Value → Shared → Prop} {left right : Int} {ahead behind : Nat} {t1 t2 t3 t4 : Tok}
    (G : Gl (KK w) s.heap) (ha : ahead ≤ 300) (hb : behind ≤ 300) (hp : 1 ≤ ahead + behind) (hh : A.handled = none) (hd : A.depth < recursionLimit)
    (h : ∀ (r : Nat) t s', 1 ≤ r → r ≤ ahead + behind → (SpanOk left ahead right behind r ∨ r = ahead + behind) → (∀ q : Nat, 1 ≤ q → q < r → ¬ SpanOk left ahead right behind q) → Out [] s s' → Q (.int r t) s') :
    wpAny (model prog w) A (call (.ref 61) [.int left t1, .int ahead t2, .int right t3, .int behind t4]) Q E s := by
  refine enter (binds := [(Str.ofString "left", .int left t1), (Str.ofString "ahead", .int ahead t2), (Str.ofString "right", .int right t3), (Str.ofString "behind", .int behind t4)]) G (by rfl) (by rfl) hd (by rfl) (locs rfl) ?_
  intro s1 S
  repeat (walk_at "me")
  rename_i r' s' t' u' v' hr' S'
  refine for_range (ahead + behind - 1) (fun k m news => news = [] ∧ m (Str.ofString "left") = some (.int left t1) ∧ m (Str.ofString "ahead") = some (.int ahead t2) ∧ m (Str.ofString "right") = some (.int right t3) ∧ m (Str.ofString "behind") = some (.int behind t4) ∧ ∀ q : Nat, 1 ≤ q → q < k + 1 → ¬ SpanOk left ahead right behind q)
    hh S' hr' (by omega) (by omega) (by omega) (by omega) (by omega) ⟨rfl, by walk_at "rd", by walk_at "rd", by walk_at "rd", by walk_at "rd", fun q h1 h2 => absurd h2 (by omega)⟩ ?_ ?_
  · rintro k ti m₁ news₁ it oi s3 hlt ⟨rfl, h1, h2, h3, h4, hno⟩ S3
    repeat (walk_at "me")
    rename_i s4 t4' S4
    have ek : (1 : Int) + (k : Nat) = ((k + 1 : Nat) : Int) := by omega
    refine split_bool ?_ ?_
    · intro hc
      have hc' : SpanOk left ahead right behind ((k + 1 : Nat) : Int) := by
        rw [← ek]
        exact eq_of_beq hc
      repeat (walk_at "me")
      have := h (k + 1) ti s4 (by omega) (by omega) (.inl hc') hno S4.out
      rw [← ek] at this
      exact this
    · intro hc
      have hc' : ¬ SpanOk left ahead right behind ((k + 1 : Nat) : Int) := by
        rw [← ek]
        intro q
        unfold SpanOk at q
        rw [q] at hc
        simp at hc
      repeat (walk_at "me")
      refine ⟨_, _, ⟨rfl, by walk_at "rd", by walk_at "rd", by walk_at "rd", by walk_at "rd", ?_⟩, S4⟩
      intro q q1 q2
      rcases Nat.lt_or_ge q (k + 1) with c | c
      · exact hno q q1 c
      · have e : q = k + 1 := by omega
        rw [e]
        exact hc'
  · rintro m₁ news₁ s3 ⟨rfl, h1, h2, h3, h4, hno⟩ S3
    repeat (walk_at "me")
    rename_i s4 t4' S4
    have := h (ahead + behind) t4' s4 hp (Nat.le_refl _) (.inr rfl) (fun q q1 q2 => hno q q1 (by omega)) S4.out
    rw [show ((ahead + behind : Nat) : Int) = (ahead : Int) + behind by omega] at this
    exact this
def triH (ns : List Int) (size front : Nat) (i : Nat) : Int × Int × Int := (ns.getD i 0 / 64 ^ (size - front) * 64 ^ i, (front : Int) - i, i)
def triL (ns : List Int) (size front : Nat) (i : Nat) : Int × Int × Int := ((64 ^ (front - i) - 1 - ns.getD i 0 / 64 ^ (size - front)) * 64 ^ i, (front : Int) - i, i)
def TriIn (tups : List (Addr × Obj)) (a : Addr) (x : Int × Int × Int) : Prop := ∃ t1 t2 t3, (a, tupOf [.int x.1 t1, .int x.2.1 t2, .int x.2.2 t3]) ∈ tups
theorem TriIn.mono {tups tups' : List (Addr × Obj)} {a : Addr} {x : Int × Int × Int} (h : TriIn tups a x) (hs : ∀ p ∈ tups, p ∈ tups') : TriIn tups' a x := by
  obtain ⟨t1, t2, t3, h⟩ := h
  exact ⟨t1, t2, t3, hs _ h⟩
theorem getD_snoc {rs : List Addr} {a : Addr} {i : Nat} : (rs ++ [a]).getD i 0 = if i < rs.length then rs.getD i 0 else if i = rs.length then a else 0 := by
  simp only [List.getD_eq_getElem?_getD, List.getElem?_append]
  split
  · rfl
  · split
    · rename_i h1 h2
      subst h2
      simp
    · rename_i h1 h2
      have : i - rs.length ≠ 0 := by omega
      cases hq : i - rs.length with
      | zero => omega
      | succ n => simp
set_option maxHeartbeats 4000000 in
theorem cut_call {prog : Program} {w : World} {A : Around} {E : Value → Shared → Prop} {s : Shared} {Q : Value → Shared → Prop} {l : Addr} {o : Obj} {ns : List Int} {size front : Nat} {t1 t2 : Tok}
    (G : Gl (KK w) s.heap) (hl : s.heap.get? l = some o) (hi : IL o ns) (hf : 1 ≤ front) (hfs : front ≤ size) (hsz : size ≤ 200) (hlen : front ≤ ns.length) (hlen2 : ns.length ≤ 1000)
    (hr : ∀ i, i < front → 0 ≤ ns.getD i 0 / 64 ^ (size - front) ∧ ns.getD i 0 / 64 ^ (size - front) < 64 ^ (front - i))
    (hh : A.handled = none) (hd : A.depth < recursionLimit) (hu : A.units + 10 < cLine)
    (h : ∀ (bh bl : Nat) t s', bh < front → bl < front → (∀ i, i < front → tle (triH ns size front i) (triH ns size front bh)) → (∀ i, i < front → tle (triL ns size front i) (triL ns size front bl)) → Out [] s s' → Q (.int (max bh bl : Nat) t) s') :
    wpAny (model prog w) A (call (.ref 54) [.ref l, .int size t1, .int front t2]) Q E s := by
  refine enter (binds := [(Str.ofString "rests", .ref l), (Str.ofString "size", .int size t1), (Str.ofString "front", .int front t2)]) G (by rfl) (by rfl) hd (by rfl) (locs rfl) ?_
  intro s1 S
  repeat (walk_at "me")
  refine rl_new S ?_
  intro ah oh s2 hoh S2
  repeat (walk_at "me")
  rename_i S3
  refine rl_new S3 ?_
  intro al ol s4 hol S4
  repeat (walk_at "me")
  rename_i r' s' t' u' v' hr' S'
  refine for_range front (fun k m news => m (Str.ofString "rests") = some (.ref l) ∧ m (Str.ofString "size") = some (.int size t1) ∧ m (Str.ofString "front") = some (.int front t2) ∧ m (Str.ofString "high") = some (.ref ah) ∧ m (Str.ofString "low") = some (.ref al) ∧
      ∃ oh ol hr lr tups, news = (ah, oh) :: (al, ol) :: tups ∧ RL oh hr ∧ RL ol lr ∧ hr.length = k ∧ lr.length = k ∧ (∀ i, i < k → TriIn tups (hr.getD i 0) (triH ns size front i)) ∧ ∀ i, i < k → TriIn tups (lr.getD i 0) (triL ns size front i))
    hh (S'.perm (List.Perm.swap ..)) hr' (by omega) (by omega) (by omega) (by omega) (by omega)
    ⟨by walk_at "rd", by walk_at "rd", by walk_at "rd", by walk_at "rd", by walk_at "rd", oh, ol, [], [], [], rfl, hoh, hol, rfl, rfl, fun i h => absurd h (by omega), fun i h => absurd h (by omega)⟩ ?_ ?_
  · rintro k ti m₁ news₁ it oi s3 hlt ⟨h1, h2, h3, h4, h5, oh, ol, hr1, lr1, tups, rfl, hoh, hol, hlh, hll, hTh, hTl⟩ S3
    repeat (walk_at "me")
    obtain ⟨rk0, rk1⟩ := hr k hlt
    have ek : ((0 : Int) + (k : Nat)).toNat = k := by omega
    have es : ((size : Int) - (front : Nat)).toNat = size - front := by omega
    have ef : ((front : Int) - (0 + (k : Nat))).toNat = front - k := by omega
    refine o_mul (6 * (front - k)) (6 * k + 1) (by assumption) (by rw [ek, es]; exact nat64 rk0 rk1) (by rw [ek]; exact p64_nat k) (by omega) ?_
    intro s5 t5 S5
    repeat (walk_at "me")
    refine t_new (by assumption) (by simp) ?_
    intro a6 s6 S6
    repeat (walk_at "me")
    refine rl_append (pre := [_, _]) S6 hoh (by omega) ?_
    intro oh' s7 hoh' S7
    replace S7 : Sf s s.heap _ _ ((a6, _) :: (it, oi) :: (ah, oh') :: (al, ol) :: tups) s7 := S7
    repeat (walk_at "me")
    refine o_mul (6 * (front - k)) (6 * k + 1) (by assumption) (by rw [ek, es, ef]; exact nat64 (by omega) (by omega)) (by rw [ek]; exact p64_nat k) (by omega) ?_
    intro s8 t8 S8
    repeat (walk_at "me")
    refine t_new (by assumption) (by simp) ?_
    intro a9 s9 S9
    repeat (walk_at "me")
    refine rl_append (pre := [_, _, _, _]) S9 hol (by omega) ?_
    intro ol' s10 hol' S10
    rw [ek, es, ef] at S10
    replace S10 := S10.perm (List.perm_append_comm (l₁ := [_, _]) (l₂ := [_, _, _]) |>.append_right tups)
    repeat (walk_at "me")
    refine ⟨_, _, ⟨by walk_at "rd", by walk_at "rd", by walk_at "rd", by walk_at "rd", by walk_at "rd", oh', ol', _, _, _, rfl, hoh', hol', by simp [hlh], by simp [hll], ?_, ?_⟩, S10⟩
    · intro i hi
      rw [getD_snoc, hlh]
      split
      · rename_i hik
        exact (hTh i hik).mono fun p hp => .tail _ (.tail _ hp)
      · have : i = k := by omega
        subst this
        rw [if_pos rfl, show triH ns size front i = (ns.getD i 0 / 64 ^ (size - front) * 64 ^ i, (front : Int) - (0 + (i : Nat)), (0 : Int) + (i : Nat)) from by simp [triH]]
        exact ⟨_, _, _, .tail _ (.head _)⟩
    · intro i hi
      rw [getD_snoc, hll]
      split
      · rename_i hik
        exact (hTl i hik).mono fun p hp => .tail _ (.tail _ hp)
      · have : i = k := by omega
        subst this
        rw [if_pos rfl, show triL ns size front i = ((64 ^ (front - i) - 1 - ns.getD i 0 / 64 ^ (size - front)) * 64 ^ i, (front : Int) - (0 + (i : Nat)), (0 : Int) + (i : Nat)) from by simp [triL]]
        exact ⟨_, _, _, .head _⟩
  · rintro m₁ news₁ s3 ⟨h1, h2, h3, h4, h5, oh, ol, hr1, lr1, tups, rfl, hoh, hol, hlh, hll, hTh, hTl⟩ S3
    repeat (walk_at "me")
    obtain ⟨eh, rfl⟩ := hoh
    obtain ⟨el, rfl⟩ := hol
    have hKh : ∀ hp : Heap, (∀ p ∈ ((ah, listOf (hr1.map Value.ref).toArray eh) :: (al, listOf (lr1.map Value.ref).toArray el) :: tups), hp.get? p.1 = some p.2) → (∀ b o, s.heap.get? b = some o → hp.get? b = some o) → hp.get? ah = some (listOf (hr1.map Value.ref).toArray eh) ∧ ∀ i, i < hr1.length → Tri hp (hr1.getD i 0) (triH ns size front i) := by
      intro hp hn _
      refine ⟨hn _ (.head _), fun i hi => ?_⟩
      obtain ⟨a, b, c, hm⟩ := hTh i (by omega)
      exact ⟨a, b, c, hn _ (.tail _ (.tail _ hm))⟩
    have hKl : ∀ hp : Heap, (∀ p ∈ ((ah, listOf (hr1.map Value.ref).toArray eh) :: (al, listOf (lr1.map Value.ref).toArray el) :: tups), hp.get? p.1 = some p.2) → (∀ b o, s.heap.get? b = some o → hp.get? b = some o) → hp.get? al = some (listOf (lr1.map Value.ref).toArray el) ∧ ∀ i, i < lr1.length → Tri hp (lr1.getD i 0) (triL ns size front i) := by
      intro hp hn _
      refine ⟨hn _ (.tail _ (.head _)), fun i hi => ?_⟩
      obtain ⟨a, b, c, hm⟩ := hTl i (by omega)
      exact ⟨a, b, c, hn _ (.tail _ (.tail _ hm))⟩
    refine mx_call hh (by show A.units + 3 + 2 < cLine; omega) (by omega) S3 hKh ?_
    intro bh s5 hbh htb S5
    repeat (walk_at "me")
    rename_i s6 t6 S6
    refine tri_2 ((hKh s6.heap (fun p hp => (S6.N p hp).1) S6.F.keep).2 bh hbh) ?_
    intro t7
    repeat (walk_at "me")
    refine mx_call hh (by show A.units + 3 + 2 < cLine; omega) (by omega) S6 hKl ?_
    intro bl s8 hbl htl S8
    repeat (walk_at "me")
    rename_i s9 t9 S9
    refine tri_2 ((hKl s9.heap (fun p hp => (S9.N p hp).1) S9.F.keep).2 bl hbl) ?_
    intro t10
    repeat (walk_at "me")
    rename_i s11 t11 S11
    have := h bh bl t11 s11 (by omega) (by omega) (fun i hi => htb i (by omega)) (fun i hi => htl i (by omega)) S11.out
    rw [show ((max bh bl : Nat) : Int) = max (triH ns size front bh).2.2 (triL ns size front bl).2.2 from by simp only [triH, triL]; omega] at this
    exact this
set_option maxHeartbeats 4000000 in
theorem row_call {prog : Program} {w : World} {A : Around} {E : Value → Shared → Prop} {s : Shared} {Q : Value → Shared → Prop} {l : Addr} {o : Obj} {ns : List Int}
    (G : Gl (KK w) s.heap) (hl : s.heap.get? l = some o) (hi : WL o ns) (hz : ns.length ≤ 1000) (hh : A.handled = none) (hd : A.depth < recursionLimit)
    (h : ∀ a ob r s', IL ob r → r.length ≤ 11 → (∀ x ∈ r, 0 ≤ x ∧ x < 64) → Out [] s s' → New s s' a ob → Q (.ref a) s') :
    wpAny (model prog w) A (call (.ref 33) [.ref l]) Q E s := by
  refine enterC (binds := [(Str.ofString "script", .ref l)]) (Str.ofString "shift") G (by rfl) (by rfl) hd (by rfl) (locs rfl) (by rfl) (by rfl) ?_
  intro s1 co hco S
  repeat (walk_at "me")
  refine l_new S .nil (by decide) ?_
  intro a ob s2 hob S2
  clear S
  repeat (walk_at "me")
  rename_i S3
  refine l_sliceL S3 (S3.old hl) hi .none (.int _ _) (fun vs hv => kmk_upto hv (by decide)) (by omega) ?_
  intro a4 ob4 s4 hob4 S4
  clear S3
  repeat (walk_at "me")
  rename_i S5
  refine l_new S5 (.cons 0 _ (.cons 3 _ (.cons 1 _ (.cons 7 _ (.cons 3 _ (.cons 7 _ (.cons 6 _ .nil))))))) (by decide) ?_
  intro a6 ob6 s6 hob6 S6
  clear S5
  refine l_add S6 (S6.get (.tail _ (.head _))) hob4 (S6.get (.head _)) hob6 (by simp; omega) ?_
  intro d ob7 s7 hob7 S7
  replace S7 := S7.sublist (news' := [(d, ob7), (a, ob), (s.heap.objs.size + 1, co)]) (by simp)
  replace S7 := S7.perm (List.Perm.swap ..)
  have hlen7 : (ns.take (5 : Int).toNat ++ [0, 3, 1, 7, 3, 7, 6]).length ≤ 12 := by simp; omega
  generalize (ns.take (5 : Int).toNat ++ [0, 3, 1, 7, 3, 7, 6]) = xs at hob7 hlen7
  obtain ⟨vs, e7, rfl, hvs⟩ := hob7
  refine for_list (fun i m news => m (Str.ofString "script") = some (.ref l) ∧ m (Str.ofString "row") = some (.ref a) ∧ ∃ ob r, news = [(a, ob), (d, listOf vs.toArray e7), (s.heap.objs.size + 1, co)] ∧ IL ob r ∧ r.length ≤ 6 * i ∧ ∀ x ∈ r, 0 ≤ x ∧ x < 3)
    hh S7 rfl ?_ (S7.get (.tail _ (.head _))) ⟨by walk_at "rd", by walk_at "rd", ob, _, rfl, hob, by simp, by simp⟩ ?_ ?_
  · rintro i m₁ news₁ p s₁ ⟨_, _, ob, r, rfl, _⟩ S8
    exact S8.get (.tail _ (.tail _ (.head _)))
  · rintro i v m₁ news₁ it oi s8 hlt hv ⟨h1, h2, ob, r, rfl, hob, hr, hr3⟩ S8
    obtain ⟨n, tn, rfl, hn⟩ := hvs.at i v hv
    have hi12 : i < 12 := by have := hvs.length; omega
    repeat (walk_at "me")
    refine o_div 10 (by assumption) (by decide) (by decide) (by decide) ?_
    intro s9 t9 S9
    repeat (walk_at "me")
    rename_i S10
    have hp0 : 0 ≤ n % 45 / 3 := by omega
    generalize n % 45 / 3 = part at S10 hp0
    refine split_bool ?_ ?_
    · intro _
      repeat (walk_at "me")
      refine l_append (pre := [_]) (by assumption) hob (by omega) ?_
      intro ob' s11 hob' S11
      repeat (walk_at "me")
      refine ⟨_, _, ⟨by walk_at "rd", by walk_at "rd", ob', _, rfl, hob', by simp; omega, ?_⟩, S11⟩
      intro x hx
      rcases List.mem_append.mp hx with hx | hx
      · exact hr3 x hx
      · rw [List.mem_singleton.mp hx]
        omega
    · intro _
      repeat (walk_at "me")
      refine split_bool ?_ ?_
      · intro _
        repeat (walk_at "me")
        rename_i S12
        refine l_slice S12 (S12.get (.tail _ (.head _))) hob .none (.int _ _) (fun vs hv => kmk_upto hv (by omega)) (by omega) ?_
        intro a13 ob13 s13 hob13 S13
        repeat (walk_at "me")
        refine l_extend (pre := [_, _]) S13 hob (S13.get (.head _)) hob13 (by simp; omega) ?_
        intro ob' s14 hob' S14
        replace S14 := S14.sublist (news' := [(it, oi), (a, ob'), (d, listOf vs.toArray e7), (s.heap.objs.size + 1, co)]) (List.sublist_cons_self _ _)
        repeat (walk_at "me")
        refine ⟨_, _, ⟨by walk_at "rd", by walk_at "rd", ob', _, rfl, hob', ?_, ?_⟩, S14⟩
        · simp only [List.length_append, List.length_take]
          omega
        · intro x hx
          rcases List.mem_append.mp hx with hx | hx
          · exact hr3 x hx
          · exact hr3 x (List.mem_of_mem_take hx)
      · intro _
        repeat (walk_at "me")
        rename_i S12
        refine l_slice S12 (S12.get (.tail _ (.head _))) hob (.int _ _) .none (fun vs hv => kmk_from_neg hv (by omega)) (by omega) ?_
        intro a13 ob13 s13 hob13 S13
        repeat (walk_at "me")
        refine l_extend (pre := [_, _]) S13 hob (S13.get (.head _)) hob13 (by simp; omega) ?_
        intro ob' s14 hob' S14
        replace S14 := S14.sublist (news' := [(it, oi), (a, ob'), (d, listOf vs.toArray e7), (s.heap.objs.size + 1, co)]) (List.sublist_cons_self _ _)
        repeat (walk_at "me")
        refine ⟨_, _, ⟨by walk_at "rd", by walk_at "rd", ob', _, rfl, hob', ?_, ?_⟩, S14⟩
        · simp only [List.length_append, List.length_drop]
          omega
        · intro x hx
          rcases List.mem_append.mp hx with hx | hx
          · exact hr3 x hx
          · exact hr3 x (List.mem_of_mem_drop hx)
  · rintro m₁ news₁ s8 ⟨h1, h2, ob, r, rfl, hob, hr, hr3⟩ S8
    repeat (walk_at "me")
    have hvl := hvs.length
    refine l_sumL hh S8 (S8.old hl) hi ?_
    intro s9 sm t9 S9
    repeat (walk_at "me")
    rename_i S10
    refine st_cell (pre := [_, _]) S10 hco (by rfl) ?_
    intro s11 co' hco' S11
    repeat (walk_at "me")
    refine lc (s₀ := s) (h₀ := s.heap) (cl := [(Str.ofString "shift", s.heap.objs.size + 1)]) (by rfl) (by decide) (by rfl) (by decide) (by rfl) ?_
    repeat (walk_at "me")
    rename_i S12
    refine l_slice S12 (S12.get (.head _)) hob .none (.int _ _) (fun vs hv => kmk_upto hv (by decide)) (by omega) ?_
    intro a13 ob13 s13 hob13 S13
    refine ⟨a13, ob13, _, _, _, fun _ => true, fun n => (21 * n + sm % 64) % 64, rfl, hh, S13, S13.get (.head _), hob13, by simp; omega, ⟨?_, ?_⟩, ?_⟩
    · intro C n t s₃ m₃ E' hn hns hx hk
      exact no_tests ⟨rfl, keeps_toks s₃ s₃.toks⟩
    · intro C n t s₃ m₃ E' hn _ hns hx hk
      have hn3 := hr3 n (List.mem_of_mem_take hn)
      refine wpAny_BinOp (wpAny_BinOp (wpAny_BinOp (wpAny_Constant_int ?_)))
      refine wpAny_Name (wpAny_loadName_local rfl rfl hns hx ?_) (by decide)
      refine P.mul_int ?_ (mulOk_of (k := 10) (l := 10) (by decide) (by omega) (by decide))
      refine wpAny_Name (wpAny_loadName_cell rfl rfl rfl ⟨co', hk _ _ (S13.get (.tail _ (.tail _ (.tail _ (.head _))))), hco'⟩ ?_) (by decide)
      refine PyProof.Rows.add_int ?_
      refine wpAny_Constant_int ?_
      refine mod_int' (by decide) ?_
      rw [Int.fmod_eq_emod_of_nonneg _ (by decide)]
      exact ⟨⟨_, rfl⟩, keeps_toks _ _⟩
    · intro D ob' s14 hob' S14
      refine h D ob' _ s14 hob' (by rw [List.length_map]; exact Nat.le_trans (List.length_filter_le _ _) (by simp; omega)) ?_ S14.out (S14.new (.head _))
      intro x hx
      obtain ⟨y, _, rfl⟩ := List.mem_map.mp hx
      omega
/-- a row's figures -/
def fig (r : List Int) (j : Nat) : Int := r.getD j 0
theorem fig_rng {r : List Int} (hr : ∀ x ∈ r, 0 ≤ x ∧ x < 64) (j : Nat) : 0 ≤ fig r j ∧ fig r j < 64 := by
  unfold fig
  rcases Nat.lt_or_ge j r.length with h | h
  · have e : r.getD j 0 = r[j] := by simp [h]
    rw [e]; exact hr _ (List.getElem_mem _)
  · have e : r.getD j 0 = 0 := by simp [h]
    rw [e]; decide
theorem octs_len (r : List Int) (cut : Int) : (octs r cut).length = r.length := by simp [octs]
theorem octs_at {r : List Int} {cut : Int} {k : Nat} (h : k < r.length) : (octs r cut).getD k 0 = octOf r cut k := by
  simp [octs, h]
theorem octOf_eq {r : List Int} {cut : Int} {k : Nat} : octOf r cut k = fig r k + (if (k : Int) + 1 = cut ∨ (k : Int) + 1 = r.length then 0 else 64) + 128 * (((k : Int) + cut / 2) % 2) := rfl
theorem octs_rng {r : List Int} (hr : ∀ x ∈ r, 0 ≤ x ∧ x < 64) (cut : Int) : ∀ x ∈ octs r cut, 0 ≤ x ∧ x < 256 := by
  intro x hx
  obtain ⟨k, _, rfl⟩ := List.mem_map.mp hx
  have := fig_rng hr k
  rw [octOf_eq]
  split <;> omega
theorem oct_more {r : List Int} (hr : ∀ x ∈ r, 0 ≤ x ∧ x < 64) {cut : Int} {k : Nat} (h : k < r.length) (h1 : (k : Int) + 1 ≠ cut) (h2 : k + 1 ≠ r.length) : (octs r cut).getD k 0 / 64 % 2 = 1 := by
  rw [octs_at h, octOf_eq, if_neg (by omega)]
  have := fig_rng hr k
  omega
theorem oct_last {r : List Int} (hr : ∀ x ∈ r, 0 ≤ x ∧ x < 64) {cut : Int} {k : Nat} (h : k < r.length) (h1 : (k : Int) + 1 = cut ∨ k + 1 = r.length) : (octs r cut).getD k 0 / 64 % 2 = 0 := by
  rw [octs_at h, octOf_eq, if_pos (by omega)]
  have := fig_rng hr k
  omega
theorem oct_val {r : List Int} (hr : ∀ x ∈ r, 0 ≤ x ∧ x < 64) {cut : Int} {i : Nat} : ∀ {k : Nat}, i + k ≤ r.length → valL (octs r cut) i k = val (fig r) i k
  | 0, _ => rfl
  | k + 1, h => by
    simp only [valL, val]
    rw [oct_val hr (by omega), octs_at (by omega), octOf_eq]
    have := fig_rng hr (i + k)
    congr 1
    split <;> omega
theorem top_of {f : Nat → Int} {n b : Nat} {tri : Nat → Int × Int × Int} (hb : b < n) (h : ∀ i, i < n → tle (tri i) (tri b)) (ht : ∀ i, i < n → tri i = (Dv f n i, (n : Int) - i, (i : Int))) : Top1 f n b := by
  have key : ∀ i, i < n → Dv f n i < Dv f n b ∨ (Dv f n i = Dv f n b ∧ b ≤ i) := by
    intro i hi
    have := h i hi
    rw [ht i hi, ht b hb] at this
    unfold tle at this
    simp only at this
    omega
  refine ⟨hb, fun i hi => ?_, fun i hi => ?_⟩
  · rcases key i hi with q | q <;> omega
  · rcases key i (by omega) with q | q <;> omega
theorem rest_div {f : Nat → Int} (hf : ∀ j, 0 ≤ f j ∧ f j < 64) {size front i : Nat} (hfs : front ≤ size) (hi : i ≤ front) : val f i (size - i) / 64 ^ (size - front) = val f i (front - i) := by
  rw [show size - i = (front - i) + (size - front) by omega, val_div hf]
theorem front_lp {f : Nat → Int} (hf : ∀ j, 0 ≤ f j ∧ f j < 64) {ns : List Int} {size front bh bl r : Nat} (hfs : front ≤ size) (hns : ∀ i, i < size → ns.getD i 0 = val f i (size - i)) (hbh : bh < front) (hbl : bl < front)
    (hh : ∀ i, i < front → tle (triH ns size front i) (triH ns size front bh)) (hl : ∀ i, i < front → tle (triL ns size front i) (triL ns size front bl)) (h1 : 1 ≤ r) (hr : r ≤ front)
    (hs : SpanOk (val f 0 (max bh bl)) (max bh bl : Nat) (val f (max bh bl) (front - max bh bl)) (front - max bh bl : Nat) r ∨ r = front)
    (hno : ∀ q : Nat, 1 ≤ q → q < r → ¬ SpanOk (val f 0 (max bh bl)) (max bh bl : Nat) (val f (max bh bl) (front - max bh bl)) (front - max bh bl : Nat) q) : LP f front r := by
  have T1 : Top1 f front bh := by
    refine top_of hbh hh fun i hi => ?_
    simp only [triH, Dv]
    rw [hns i (by omega), rest_div hf hfs (by omega)]
  have T2 : Top1 (fun j => 63 - f j) front bl := by
    refine top_of hbl hl fun i hi => ?_
    simp only [triL, Dv]
    rw [hns i (by omega), rest_div hf hfs (by omega), val_neg]
  refine span_lp T1 T2 hf h1 hr (hs.imp_left (span_loc hf (by omega) hr).mp) fun q q1 q2 hq => hno q q1 q2 ((span_loc hf (by omega) (by omega)).mpr hq)
theorem Per.shift {f g : Nat → Int} {n p : Nat} {c : Int} (h : Per f n p) (e : ∀ j, j < n → g j = f j + c) : Per g n p := fun j hj => by
  rw [e j (by omega), e (j + p) hj, h j hj]
theorem LP.shift {f g : Nat → Int} {n p : Nat} {c : Int} (h : LP f n p) (e : ∀ j, j < n → g j = f j + c) : LP g n p :=
  ⟨h.pos, h.le, h.per.shift e, fun q h1 h2 hq => h.least q h1 h2 (hq.shift (c := -c) fun j hj => by rw [e j hj]; omega)⟩
theorem tbl_take {f g : Nat → Int} {n k : Nat} {T T' : List Int} {c : Int} (h : Tbl f n T) (hT : T.length = n) (h' : Tbl g k T') (hT' : T'.length = k) (hk : k ≤ n) (e : ∀ j, j < k → g j = f j + c) : T' = T.take k := by
  apply List.ext_getElem
  · simp; omega
  intro i i1 i2
  obtain ⟨p, hp, ep⟩ := h i (by omega)
  obtain ⟨q, hq, eq⟩ := h' i (by omega)
  have := hq.uniq (hp.shift fun j hj => e j (by omega))
  subst this
  have a1 : T'.getD i 0 = T'[i] := by simp [i1]
  have a2 : T.getD i 0 = (T.take k)[i] := by
    have : i < T.length := by omega
    simp [this]
  rw [← a1, ← a2, ep, eq]
noncomputable def bodyIn (K : Frag) (a : Addr) : List Stmt := match K.lookup a with
  | some ⟨_, _, .func fd, _⟩ => (match fd.body with | .stmts b => b | _ => [])
  | _ => []
noncomputable def scopeIn (K : Frag) (a : Addr) : Scope := match K.lookup a with
  | some ⟨_, _, .func fd, _⟩ => fd.scope
  | _ => default
theorem to_env {prog : Program} {w : World} {A : Around} {E : Value → Shared → Prop} {s s1 : Shared} {h₀ : Heap} {m : Str → Option Value} {news : List (Addr × Obj)} {env : Env} {b : List Stmt} {Q : Flow → Shared → Prop} (S : Sf s h₀ env.locals m news s1)
    (h : Sf s h₀ env.locals m news s1 → wpAny (model prog w) A (execs b env) Q E s1) : wpAny (model prog w) A (execs b env) Q E s1 := h S
section
variable {prog : Program} {w : World} {K : Frag} {A : Around} {E : Value → Shared → Prop} {s : Shared} {env : Env}
theorem nm_builtinG {x : Str} {pos : Pos} {v : Value} {Q : Value → Shared → Prop} (G : Gl K s.heap) (e : nsIn K mainGlobals x = some none) (hv : bootBuiltins x = some v) (h : Q v s)
    (hn : x ≠ "__name__" := by decide) (hk : env.scope.kind = .function := by rfl) (hx : env.kindOf x = some .globalImplicit := by rfl) (hg : env.globals = mainGlobals := by rfl) (hb : env.builtins = builtinsNs := by rfl) (hd : (x == ("__debug__" : Str)) = false := by decide) :
    wpAny (model prog w) A (eval (.Name x pos) env) Q E s := by
  obtain ⟨mg, mb, a, b, c⟩ := G.names
  exact Name_function_global hk hx (loadGlobal_builtin (hg ▸ a) (mg_none_of G.inn a e) (hb ▸ b) ((c x hn).trans hv) h) hd
theorem call_bG {x : Str} {p pos : Pos} {e : Expr} {rest : List Expr} {id : String} {Q : Value → Shared → Prop} (G : Gl K s.heap) (hn : nsIn K mainGlobals x = some none) (hv : bootBuiltins x = some (.builtin id))
    (h : wpAny (model prog w) A (spliced (backTo pos (starEach (e :: rest) env))) (fun vs s₁ => wpAny (model prog w) A (call (.builtin id) vs) Q E s₁) E s)
    (he : eval (.Call (.Name x p) (e :: rest) [] pos) env = (do callWith pos (← eval (.Name x p) env) [] (backTo pos (starEach (e :: rest) env)) (backToKw pos (keywordEach [] env))) := by rfl)
    (hx : x ≠ "__name__" := by decide) (hk : env.scope.kind = .function := by rfl) (hkx : env.kindOf x = some .globalImplicit := by rfl) (hg : env.globals = mainGlobals := by rfl) (hb : env.builtins = builtinsNs := by rfl) (hd : (x == ("__debug__" : Str)) = false := by decide)
    (hse : starEach (e :: rest) env = (false, eval e env) :: starEach rest env := by rfl) (hpl : (backTo pos (starEach rest env)).any (·.1) = false := by rfl) :
    wpAny (model prog w) A (eval (.Call (.Name x p) (e :: rest) [] pos) env) Q E s :=
  Call_ (nm_builtinG G hn hv (callWith_method1 (first := []) h hse hpl) hx hk hkx hg hb hd) he
theorem one_test {c : Expr} {env : Env} {Q : Bool → Shared → Prop} (h : wpAny (model prog w) A (isTrue c env (eval c env)) Q E s) :
    wpAny (model prog w) A (forIn [c] true fun c r => if r = true then do let ok ← isTrue c env (eval c env); pure (ForInStep.yield ok) else pure (ForInStep.yield r)) Q E s := by
  rw [List.forIn_cons]
  simp only [if_true]
  refine wpAny_bind (wpAny_bind (wpAny_mono h (fun b s' hb => ?_) fun _ _ x => x))
  exact wpAny_pure (wpAny_pure hb)
end
set_option maxHeartbeats 4000000 in
theorem law_walk {prog : Program} {w : World} {s s1 : Shared} {Q : Flow → Shared → Prop} {fa l : Addr} {cdv : Value} {o : Obj} {ns : List Int}
    (G : Gl (KK w) s.heap) (hl : s.heap.get? l = some o) (hi : WL o ns) (hz : ns.length ≤ 1000)
    (S : Sf s s.heap (envOf (Str.ofString "law") (scopeIn (KK w) 66) s.heap.objs.size fa cdv).locals (fun x => List.lookup x [(Str.ofString "script", Value.ref l)].reverse) [] s1)
    (h : ∀ m' news' s', Sf s s.heap s.heap.objs.size m' news' s' → Q (.ret (.bool true)) s') :
    wpAny (model prog w) (callerA.deeper (envOf (Str.ofString "law") (scopeIn (KK w) 66) s.heap.objs.size fa cdv)) (execs (bodyIn (KK w) 66) (envOf (Str.ofString "law") (scopeIn (KK w) 66) s.heap.objs.size fa cdv)) Q NoE s1 := by
  have hA : ∃ envL : Env, (callerA.deeper (envOf (Str.ofString "law") (scopeIn (KK w) 66) s.heap.objs.size fa cdv)).frames = some [envL] ∧ envL.frame = some s.heap.objs.size ∧ envL.scope.kind ≠ .module := ⟨_, rfl, rfl, by show ScopeKind.function ≠ ScopeKind.module; decide⟩
  have hh : (callerA.deeper (envOf (Str.ofString "law") (scopeIn (KK w) 66) s.heap.objs.size fa cdv)).handled = none := rfl
  have hd : (callerA.deeper (envOf (Str.ofString "law") (scopeIn (KK w) 66) s.heap.objs.size fa cdv)).depth + 3 < recursionLimit := of_decide_eq_true (by with_unfolding_all rfl)
  have hu : (callerA.deeper (envOf (Str.ofString "law") (scopeIn (KK w) 66) s.heap.objs.size fa cdv)).units + 100 < cLine := of_decide_eq_true (by with_unfolding_all rfl)
  generalize callerA.deeper (envOf (Str.ofString "law") (scopeIn (KK w) 66) s.heap.objs.size fa cdv) = A at hA hh hd hu
  obtain ⟨envL, hA, hAf, hAk⟩ := hA
  show wpAny _ _ (execs (_ :: _) (envOf _ ⟨_, _, _, _, _⟩ _ _ _)) _ _ _
  refine to_env S ?_
  clear S
  intro S
  repeat (walk_at "me")
  refine ⟨(S.gl G).inn, ?_⟩
  refine row_call (S.gl G) (S.old hl) hi hz hh (by omega) ?_
  intro ar obr r s2 hobr hrl hrr O2 N2
  replace S := S.call1 O2 N2
  clear O2 N2
  have hf := fig_rng hrr
  repeat (walk_at "me")
  rename_i S3
  obtain ⟨vs, er, rfl, hvs⟩ := hobr
  have hvl := hvs.length
  refine for_list (fun i m news => m (Str.ofString "row") = some (.ref ar) ∧ IV m (Str.ofString "size") r.length ∧ IV m (Str.ofString "whole") (val (fig r) 0 i) ∧ news = [(ar, listOf vs.toArray er)])
    hh S3 rfl ?_ (S3.get (.head _)) ⟨by walk_at "rd", .mk (by walk_at "rd") rfl, .mk (by walk_at "rd") rfl, rfl⟩ ?_ ?_
  · rintro i m₁ news₁ p s₁ ⟨_, _, _, rfl⟩ S8
    exact S8.get (.tail _ (.head _))
  · rintro i v m₁ news₁ it oi s8 hlt hv ⟨h1, ⟨ts, h2⟩, ⟨tw, h3⟩, rfl⟩ S8
    obtain ⟨n, tn, rfl, hn⟩ := hvs.at i v hv
    repeat (walk_at "me")
    have hw := val_lt hf 0 i
    refine o_mul 7 (6 * i) (by assumption) (by decide) (nat64 hw.1 hw.2) (by omega) ?_
    intro s9 t9 S9
    repeat (walk_at "me")
    rename_i S10
    refine ⟨_, _, ⟨by walk_at "rd", .mk (by walk_at "rd") rfl, .mk (by walk_at "rd") ?_, rfl⟩, S10⟩
    show _ = 64 * val (fig r) 0 i + fig r (0 + i)
    have : n = fig r (0 + i) := by simp [fig, hn]
    rw [this]
  · rintro m₁ news₁ s8 ⟨h1, ⟨ts, h2⟩, ⟨tw, h3⟩, rfl⟩ S8
    have hobr : IL (listOf vs.toArray er) r := ⟨vs, er, rfl, hvs⟩
    generalize listOf vs.toArray er = obr at hobr S8
    rw [hvl] at h3
    clear S3 hvs hvl
    repeat (walk_at "me")
    refine l_new S8 .nil (by decide) ?_
    intro al ol s9 hol S9
    clear S8
    repeat (walk_at "me")
    rename_i S10
    refine l_new S10 .nil (by decide) ?_
    intro ae oe s11 hoe S11
    clear S10
    repeat (walk_at "me")
    rename_i r' s' t' u' v' hr' S'
    refine for_range r.length (fun k m news => m (Str.ofString "row") = some (.ref ar) ∧ IV m (Str.ofString "size") r.length ∧ IV m (Str.ofString "whole") (val (fig r) 0 r.length) ∧ m (Str.ofString "lefts") = some (.ref al) ∧ m (Str.ofString "rests") = some (.ref ae) ∧
        ∃ ol oe, news = [(al, ol), (ae, oe), (ar, obr)] ∧ IL ol ((List.range k).map fun i => val (fig r) 0 i) ∧ IL oe ((List.range k).map fun i => val (fig r) i (r.length - i)))
      hh (S'.perm (List.Perm.swap ..)) hr' (.inl (by omega)) (by omega) (by omega) (by omega) (by omega)
      ⟨by walk_at "rd", .mk (by walk_at "rd") rfl, .mk (by walk_at "rd") rfl, by walk_at "rd", by walk_at "rd", ol, oe, rfl, hol, hoe⟩ ?_ ?_
    · clear S' hol hoe ol oe h1 h2 h3
      rintro k tk m₁ news₁ it oi s3 hlt ⟨h1, ⟨ts, h2⟩, ⟨tw, h3⟩, h4, h5, ol, oe, rfl, hol, hoe⟩ S3
      rw [show (0 : Int) + (k : Nat) = (k : Int) by omega] at S3
      repeat (walk_at "me")
      refine ⟨(S3.gl G).inn, ?_⟩
      refine octets_call (S3.gl G) (S3.get (by walk_at "mem")) hobr (by omega) (by omega) (by omega) hh (by omega) (by omega) ?_
      intro ao oo s4 hoo O4 N4
      replace S3 := S3.call1 O4 N4
      clear O4 N4
      repeat (walk_at "me")
      rename_i S5
      refine i_iter S5 (S5.get (.head _)) hoo ?_
      intro ip op s6 hop S6
      clear S5
      repeat (walk_at "me")
      rename_i s7 t7 S7
      have hlen := octs_len r (k : Int)
      have hrng := octs_rng hrr (k : Int)
      have hne : ao ≠ ip := fun q => (List.nodup_cons.mp S7.D).1 (by simp [← q])
      refine if_joinS S7 (fun v op' => LIt ao k op' ∧ ∃ t, v = .int (val (fig r) 0 k) t) ?_ ?_ ?_
      · intro hc
        have hk0 : 0 < k := by simpa using hc
        repeat (walk_at "me")
        refine ⟨(S7.gl G).inn, ?_⟩
        refine parse_ok (k := k - 1) (S7.glW G) (S7.get (.head _)) hop ((Heap.hide_ne _ hne).trans (S7.get (.tail _ (.head _)))) hoo hrng (by omega) (by omega) ?_ ?_ (by omega) ?_
        · intro j hj
          exact oct_more hrr (by omega) (by omega) (by omega)
        · exact oct_last hrr (by omega) (.inl (by omega))
        · intro t8 op8 s8 hop8 hx8 O8
          rw [show 0 + (k - 1) + 1 = k by omega] at hop8
          refine ⟨op8, ⟨hop8, t8, ?_⟩, S7.callW O8 hx8⟩
          rw [show k - 1 + 1 = k by omega, oct_val hrr (by omega)]
      · intro hc
        have hk0 : k = 0 := by
          have := of_decide_eq_false hc
          omega
        subst hk0
        repeat (walk_at "me")
        rename_i S8
        exact ⟨op, ⟨hop, _, rfl⟩, S8⟩
      · rintro v op8 s8 ⟨hop8, t8, rfl⟩ S8
        clear S7 hop op
        repeat (walk_at "me")
        refine l_append (pre := [_, _, _]) S8 hol (by simp; omega) ?_
        intro ol9 s9 hol9 S9
        replace S9 : Sf s s.heap _ _ ((ip, op8) :: [(ao, oo), (it, oi), (al, ol9), (ae, oe), (ar, obr)]) s9 := S9
        clear S8
        repeat (walk_at "me")
        refine ⟨(S9.gl G).inn, ?_⟩
        refine parse_ok (k := r.length - 1 - k) (S9.glW G) (S9.get (.head _)) hop8 ((Heap.hide_ne _ hne).trans (S9.get (.tail _ (.head _)))) hoo hrng (by omega) (by omega) ?_ ?_ (by omega) ?_
        · intro j hj
          exact oct_more hrr (by omega) (by omega) (by omega)
        · exact oct_last hrr (by omega) (.inr (by omega))
        · intro t10 op10 s10 hop10 hx10 O10
          rw [show k + (r.length - 1 - k) + 1 = r.length by omega] at hop10
          rw [show r.length - 1 - k + 1 = r.length - k by omega, oct_val hrr (by omega)]
          have S10 := S9.callW O10 hx10
          clear S9
          repeat (walk_at "me")
          refine l_append (pre := [_, _, _, _]) S10 hoe (by simp; omega) ?_
          intro oe11 s11 hoe11 S11
          replace S11 : Sf s s.heap _ _ ((ip, op10) :: [(ao, oo), (it, oi), (al, ol9), (ae, oe11), (ar, obr)]) s11 := S11
          clear S10 O10 hx10 hop8 hol hoe
          have eol : ((List.range k).map (fun i => val (fig r) 0 i) ++ [val (fig r) 0 k]) = (List.range (k + 1)).map fun i => val (fig r) 0 i := by simp [List.range_succ]
          have eoe : ((List.range k).map (fun i => val (fig r) i (r.length - i)) ++ [val (fig r) k (r.length - k)]) = (List.range (k + 1)).map fun i => val (fig r) i (r.length - i) := by simp [List.range_succ]
          rw [eol] at hol9
          rw [eoe] at hoe11
          have il : ((List.range (k + 1)).map fun i => val (fig r) 0 i).getD (k : Int).toNat 0 = val (fig r) 0 k := by simp
          have ie : ((List.range (k + 1)).map fun i => val (fig r) i (r.length - i)).getD (k : Int).toNat 0 = val (fig r) k (r.length - k) := by simp
          repeat (walk_at "me")
          refine t_new (by assumption) (by simp) ?_
          intro a12 s12 S12
          rw [il, ie] at S12
          repeat (walk_at "me")
          rename_i S13
          rw [show ((r.length : Int) - (k : Nat)).toNat = r.length - k by omega]
          refine o_divmod (6 * (r.length - k) + 1) S13 (p64_pos _) (p64_nat _) (by omega) ?_
          intro a14 t14 u14 s14 S14
          have ew : val (fig r) 0 r.length = val (fig r) 0 (k + (r.length - k)) := by congr 1; omega
          rw [ew, val_div hf, val_mod hf, Nat.zero_add] at S14
          clear S13
          refine neT_same (by omega) (S14.get (.tail _ (.head _))) ⟨_, S14.get (.head _), rfl, 0, rfl⟩ ?_
          replace S14 := S14.tail.tail
          repeat (walk_at "me")
          rw [if_neg (by decide)]
          repeat (walk_at "me")
          refine ⟨(S14.gl G).inn, ?_⟩
          obtain ⟨oL, gL, dL⟩ := S14.frameObj
          refine breaks_stop (S14.glB G) (S14.get (.head _)) hop10 ((Heap.hide_ne _ hne).trans (S14.get (.tail _ (.head _)))) hoo hrng (by omega) (fun j h1 h2 => absurd h2 (by omega)) (by omega) hh hA hAf hAk gL dL ?_
          intro s15 O15
          have S15 := S14.brk O15
          clear S14 O15 gL dL
          repeat (walk_at "me")
          rw [if_neg (by decide)]
          repeat (walk_at "me")
          rename_i S16
          refine l_slice S16 (S16.get (.head _)) hoo (.int _ _) (.int _ _) (fun vs hv => kmk_run hv (by omega) (by omega)) (by omega) ?_
          intro a17 o17 s17 ho17 S17
          clear S16
          repeat (walk_at "me")
          refine i_iter S17 (S17.get (.head _)) ho17 ?_
          intro ip2 op2 s18 hop2 S18
          clear S17
          repeat (walk_at "me")
          refine ⟨(S18.gl G).inn, ?_⟩
          obtain ⟨oL, gL, dL⟩ := S18.frameObj
          have hne2 : a17 ≠ ip2 := fun q => (List.nodup_cons.mp S18.D).1 (by simp [← q])
          refine breaks_stop (S18.glB G) (S18.get (.head _)) hop2 ((Heap.hide_ne _ hne2).trans (S18.get (.tail _ (.head _)))) ho17 (fun x hx => hrng x (List.mem_of_mem_drop (List.mem_of_mem_take hx))) (by simp; omega) ?_ (by omega) hh hA hAf hAk gL dL ?_
          · intro j _ h2
            have h3 : j < r.length - 1 - k := by
              simp only [List.length_take, List.length_drop] at h2
              omega
            have e : (((octs r (k : Int)).drop (k : Int).toNat).take (min ((r.length : Int) - 1).toNat (octs r (k : Int)).length - (k : Int).toNat)).getD j 0 = (octs r (k : Int)).getD (k + j) 0 := by
              simp only [List.getD_eq_getElem?_getD, List.getElem?_take, List.getElem?_drop, Int.toNat_natCast]
              rw [if_pos (by omega)]
            rw [e]
            exact oct_more hrr (by omega) (by omega) (by omega)
          · intro s19 O19
            have S19 := S18.brk O19
            clear S18 O19 gL dL
            repeat (walk_at "me")
            rw [if_neg (by decide)]
            repeat (walk_at "me")
            rw [if_neg (by decide)]
            repeat (walk_at "me")
            refine ⟨_, _, ⟨by walk_at "rd", .mk (by walk_at "rd") rfl, .mk (by walk_at "rd") rfl, by walk_at "rd", by walk_at "rd", ol9, oe11, rfl, hol9, hoe11⟩, S19.tail.tail⟩
    · clear S' hol hoe ol oe h1 h2 h3
      rintro m₁ news₁ s3 ⟨h1, ⟨ts, h2⟩, ⟨tw, h3⟩, h4, h5, ol, oe, rfl, hol, hoe⟩ S3
      repeat (walk_at "me")
      refine l_new S3 .nil (by decide) ?_
      intro ad od s4 hod S4
      clear S3
      repeat (walk_at "me")
      rename_i r' s' t' u' v' hr' S'
      have hll : ((List.range r.length).map fun i => val (fig r) 0 i).length = r.length := by simp
      have hle : ((List.range r.length).map fun i => val (fig r) i (r.length - i)).length = r.length := by simp
      have gll : ∀ i, i < r.length → ((List.range r.length).map fun i => val (fig r) 0 i).getD i 0 = val (fig r) 0 i := fun i hi => by simp [hi]
      have gle : ∀ i, i < r.length → ((List.range r.length).map fun i => val (fig r) i (r.length - i)).getD i 0 = val (fig r) i (r.length - i) := fun i hi => by simp [hi]
      generalize ((List.range r.length).map fun i => val (fig r) 0 i) = Ls at hol hll gll
      generalize ((List.range r.length).map fun i => val (fig r) i (r.length - i)) = Es at hoe hle gle
      refine for_range r.length (fun k m news => m (Str.ofString "row") = some (.ref ar) ∧ IV m (Str.ofString "size") r.length ∧ m (Str.ofString "lefts") = some (.ref al) ∧ m (Str.ofString "rests") = some (.ref ae) ∧ m (Str.ofString "due") = some (.ref ad) ∧
          ∃ od T, news = [(ad, od), (al, ol), (ae, oe), (ar, obr)] ∧ IL od T ∧ T.length = k ∧ Tbl (fig r) k T)
        hh S' hr' (.inl (by omega)) (by omega) (by omega) (by omega) (by omega)
        ⟨by walk_at "rd", .mk (by walk_at "rd") rfl, by walk_at "rd", by walk_at "rd", by walk_at "rd", od, [], rfl, hod, rfl, fun i hi => absurd hi (by omega)⟩ ?_ ?_
      · clear S' hod od h1 h2 h3 h4 h5
        rintro k tk m₁ news₁ it oi s3 hlt ⟨h1, ⟨ts, h2⟩, h4, h5, h6, od, T, rfl, hod, hTl, hT⟩ S3
        rw [show (1 : Int) + (k : Nat) = ((k + 1 : Nat) : Int) by omega] at S3
        repeat (walk_at "me")
        refine ⟨(S3.gl G).inn, ?_⟩
        refine cut_call (S3.gl G) (S3.get (by walk_at "mem")) hoe (by omega) (by omega) (by omega) (by omega) (by omega) ?_ hh (by omega) (by omega) ?_
        · intro i hi
          rw [gle i (by omega), rest_div hf (by omega) (by omega)]
          exact val_lt hf _ _
        intro bh bl tc s4 hbh hbl hmh hml O4
        replace S3 := S3.call O4
        clear O4
        have hcm : max bh bl < k + 1 := by omega
        repeat (walk_at "me")
        rename_i S5
        rw [Int.toNat_natCast, gle _ (by omega), show ((r.length : Int) - ((k + 1 : Nat) : Int)).toNat = r.length - (k + 1) by omega, rest_div hf (by omega) (by omega)] at S5
        repeat (walk_at "me")
        refine ⟨(S5.gl G).inn, ?_⟩
        rw [Int.toNat_natCast, gll _ (by omega), gle _ (by omega), show ((r.length : Int) - ((k + 1 : Nat) : Int)).toNat = r.length - (k + 1) by omega, rest_div hf (by omega) (by omega), show ((k + 1 : Nat) : Int) - ((max bh bl : Nat) : Int) = ((k + 1 - max bh bl : Nat) : Int) by omega]
        refine span_call (S5.gl G) (by omega) (by omega) (by omega) hh (by omega) ?_
        intro rr tr s6 hr1 hr2 hr3 hr4 O6
        have S6 := S5.call O6
        clear S5 O6
        have hlp : LP (fig r) (k + 1) rr := front_lp hf (by omega) gle hbh hbl hmh hml hr1 (by omega) (hr3.imp_right fun q => by omega) hr4
        repeat (walk_at "me")
        refine l_append (pre := [_]) (by assumption) hod (by omega) ?_
        intro od7 s7 hod7 S7
        repeat (walk_at "me")
        refine ⟨_, _, ⟨by walk_at "rd", .mk (by walk_at "rd") rfl, by walk_at "rd", by walk_at "rd", by walk_at "rd", od7, _, rfl, hod7, by simp [hTl], ?_⟩, S7⟩
        intro i hi
        rcases Nat.lt_or_ge i k with c | c
        · obtain ⟨p, hp, ep⟩ := hT i c
          refine ⟨p, hp, ?_⟩
          rw [← ep]
          simp only [List.getD_eq_getElem?_getD]
          rw [List.getElem?_append_left (by omega)]
        · have : i = k := by omega
          subst this
          refine ⟨rr, hlp, ?_⟩
          simp only [List.getD_eq_getElem?_getD]
          rw [List.getElem?_append_right (by omega), hTl, Nat.sub_self]
          simp
      · clear S' hod od h1 h2 h3 h4 h5
        rintro m₁ news₁ s3 ⟨h1, ⟨ts, h2⟩, h4, h5, h6, od, T, rfl, hod, hTl, hT⟩ S3
        refine wpAny_execs_cons ?_
        refine lca (s₀ := s) (h₀ := s.heap) (cl := []) (fun _ => true) (fun n => n + 1000) (by rfl) (by rfl) (by decide) (by rfl) (by decide) (by rfl) ?_
        repeat (walk_at "me")
        refine ⟨ar, obr, r, _, _, rfl, hh, S3, S3.get (by walk_at "mem"), hobr, by omega, ⟨?_, ?_⟩, ?_⟩
        · intro C n t s₃ m₃ E' hn hns hx hk
          exact no_tests ⟨rfl, keeps_toks s₃ s₃.toks⟩
        · intro C n t s₃ m₃ E' hn _ hns hx hk
          refine wpAny_BinOp ?_
          refine wpAny_Name (wpAny_loadName_local rfl rfl hns hx ?_) (by decide)
          refine wpAny_Constant_int ?_
          refine PyProof.Rows.add_int ?_
          exact ⟨⟨_, rfl⟩, keeps_toks _ _⟩
        intro af of s4 hof S4
        clear S3
        rw [List.filter_eq_self.mpr (fun _ _ => rfl)] at hof
        repeat (walk_at "me")
        rename_i r' s' t' u' v' hr' S'
        refine for_range (r.length + 1) (fun k m news => m (Str.ofString "row") = some (.ref ar) ∧ m (Str.ofString "due") = some (.ref ad) ∧ m (Str.ofString "lifted") = some (.ref af) ∧ news = [(af, of), (ad, od), (ar, obr)])
          hh (S'.sublist (news' := [(af, of), (ad, od), (ar, obr)]) (by simp)) hr' (.inl (by omega)) (by omega) (by omega) (by omega) (by omega)
          ⟨by walk_at "rd", by walk_at "rd", by walk_at "rd", rfl⟩ ?_ ?_
        · clear S' h1 h2 h4 h5 h6
          rintro k tk m₁ news₁ it oi s3 hlt ⟨h1, h2, h3, rfl⟩ S3
          rw [show (0 : Int) + (k : Nat) = (k : Int) by omega] at S3
          refine wpAny_execs_cons ?_
          refine lca (s₀ := s) (h₀ := s.heap) (cl := []) (fun _ => true) (fun n => n + 1000) (by rfl) (by rfl) (by decide) (by rfl) (by decide) (by rfl) ?_
          repeat (walk_at "me")
          refine l_slice S3 (S3.get (by walk_at "mem")) hobr .none (.int _ _) (fun vs hv => kmk_upto hv (by omega)) (by omega) ?_
          intro a5 o5 s5 ho5 S5
          clear S3
          rw [Int.toNat_natCast] at ho5
          refine ⟨a5, o5, r.take k, _, _, rfl, hh, S5, S5.get (.head _), ho5, by simp; omega, ⟨?_, ?_⟩, ?_⟩
          · intro C n t s₃ m₃ E' hn hns hx hk
            exact no_tests ⟨rfl, keeps_toks s₃ s₃.toks⟩
          · intro C n t s₃ m₃ E' hn _ hns hx hk
            refine wpAny_BinOp ?_
            refine wpAny_Name (wpAny_loadName_local rfl rfl hns hx ?_) (by decide)
            refine wpAny_Constant_int ?_
            refine PyProof.Rows.add_int ?_
            exact ⟨⟨_, rfl⟩, keeps_toks _ _⟩
          intro ah oh s6 hoh S6
          clear S5
          rw [List.filter_eq_self.mpr (fun _ _ => rfl)] at hoh
          replace S6 := S6.sublist (news' := [(ah, oh), (it, oi), (af, of), (ad, od), (ar, obr)]) (by simp)
          repeat (walk_at "me")
          refine ⟨(S6.gl G).inn, ?_⟩
          have hhl : ((r.take k).map (fun n => n + 1000)).length = k := by simp; omega
          refine overlap_call (S6.gl G) (S6.get (.head _)) hoh (by omega) hh (by omega) ?_
          intro at7 ot7 T7 s7 hot7 hT7l hT7 O7 N7
          replace S6 := S6.call1 O7 N7
          clear O7 N7
          rw [hhl] at hT7l hT7
          have eT : T7 = T.take k := by
            refine tbl_take (c := 1000) hT hTl hT7 hT7l (by omega) fun j hj => ?_
            have : j < r.length := by omega
            simp [fig, hj, this]
          subst eT
          repeat (walk_at "me")
          rename_i S8
          refine l_slice S8 (S8.get (by walk_at "mem")) hod .none (.int _ _) (fun vs hv => kmk_upto hv (by omega)) (by omega) ?_
          intro a9 o9 s9 ho9 S9
          clear S8
          rw [Int.toNat_natCast] at ho9
          refine ne_same (by omega) (S9.get (by walk_at "mem")) hot7 (S9.get (.head _)) ho9 ?_
          replace S9 := S9.tail
          repeat (walk_at "me")
          rw [if_neg (by decide)]
          repeat (walk_at "me")
          refine l_slice S9 (S9.get (by walk_at "mem")) hof .none (.int _ _) (fun vs hv => kmk_upto hv (by omega)) (by simp; omega) ?_
          intro a10 o10 s10 ho10 S10
          clear S9
          rw [Int.toNat_natCast, ← List.map_take] at ho10
          refine ne_same (by omega) (S10.get (by walk_at "mem")) hoh (S10.get (.head _)) ho10 ?_
          replace S10 := S10.tail
          repeat (walk_at "me")
          rw [if_neg (by decide)]
          repeat (walk_at "me")
          rw [if_neg (by decide)]
          repeat (walk_at "me")
          refine lc (s₀ := s) (h₀ := s.heap) (cl := []) (by rfl) (by decide) (by rfl) (by decide) (by rfl) ?_
          repeat (walk_at "me")
          refine ⟨at7, ot7, T.take k, _, _, fun _ => false, fun n => n, rfl, hh, S10, S10.get (.head _), hot7, by simp; omega, ⟨?_, ?_⟩, ?_⟩
          · intro C n t s₃ m₃ E' hn hns hx hk
            have G3 : Gl (KK w) s₃.heap := (S10.gl G).keeps hk
            refine one_test ?_
            refine isTrue_or (isTrue_plain ?_)
            refine call_bG G3 (n_isinstance w) b_isinstance ?_
            refine spliced_more ?_
            refine wpAny_Name (wpAny_loadName_local rfl rfl hns hx ?_) (by decide)
            refine spliced_more ?_
            refine nm_builtinG G3 (n_bool w) b_bool ?_
            refine spliced_none ?_
            refine IsiPair.int_bool ?_
            refine wpAny_truthy_bool ?_
            rw [if_neg (by decide)]
            refine isTrue_or (isTrue_not (isTrue_plain ?_))
            refine call_bG (s := { s₃ with toks := s₃.toks + 1 }) G3 (n_isinstance w) b_isinstance ?_
            refine spliced_more ?_
            refine wpAny_Name (wpAny_loadName_local (s := { s₃ with toks := s₃.toks + 1 }) rfl rfl hns hx ?_) (by decide)
            refine spliced_more ?_
            refine nm_builtinG (s := { s₃ with toks := s₃.toks + 1 }) G3 (n_int w) b_int ?_
            refine spliced_none ?_
            refine IsiPair.int_int ?_
            refine wpAny_truthy_bool ?_
            rw [if_neg (by decide)]
            refine isTrue_or_nil ?_
            exact ⟨rfl, keeps_toks _ _⟩
          · intro C n t s₃ m₃ E' hn hp
            exact absurd hp (by decide)
          intro a11 o11 s11 ho11 S11
          clear S10
          rw [List.filter_eq_nil_iff.mpr (fun _ _ => by decide), List.map_nil] at ho11
          repeat (walk_at "me")
          refine l_new S11 .nil (by decide) ?_
          intro a12 o12 s12 ho12 S12
          clear S11
          refine ne_same (by omega) (S12.get (by walk_at "mem")) ho11 (S12.get (.head _)) ho12 ?_
          replace S12 := S12.tail.tail
          repeat (walk_at "me")
          rw [if_neg (by decide)]
          repeat (walk_at "me")
          exact ⟨_, _, ⟨by walk_at "rd", by walk_at "rd", by walk_at "rd", rfl⟩, S12.tail.tail⟩
        · rintro m₁ news₁ s3 ⟨_, _, _, rfl⟩ S3
          repeat (walk_at "me")
          exact h _ _ _ S3
end Mine
set_option maxHeartbeats 8000000 in
theorem PySem.Challenge.cw_rs0015_01_holds : PySem.Challenge.rw_rs0015_01.Holds :=
 Mine.hd (by
  w_strict (k_go0
            rename_i hL ra w1 r0 hI hr hc1 hc2 K0 hD h1 F N0
            rename Top _ _ _ _ _ _ => T
            rename Frag.In _ _ => KX
            rename _ = #[] => hg
            obtain ⟨ol, hol, hcl, hdt⟩ := hL
            refine wpAny_mono (Mine.law_walk ⟨KX, ⟨_, _, Top.g T, Top.b T, Top.builtins T⟩, Top.nolimit T⟩ hol ⟨_, hI, hcl, hdt⟩ (by omega) ⟨F, N0, List.nodup_nil, rfl, rfl, rfl⟩ ?_) (fun _ _ x => x) (fun _ _ x => x.elim)
            intro m' news' s' S'
            refine goodW_bool S'.F (S'.g.trans hg) (raisesW_false ?_) ?_ S'.o; (· wrow_none_raised); (· first | wrow_post | kc_post)))
