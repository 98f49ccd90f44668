import PyProof.Rows.All
import Wide.All
import OpenK.AllK
import Wide.FinOn
import PySem.Challenge.RW_pg0188_01
open PySem PySem.W PyProof.Rows
set_option Elab.async false
set_option linter.unusedVariables false
set_option linter.unusedSimpArgs false
set_option maxRecDepth 100000 in
set_option maxHeartbeats 8000000 in
open_top Mine.hd for PySem.Challenge.rw_pg0188_01
local macro_rules | `(tactic| walk_at $s:str) => `(tactic| k_extra $s)
local macro_rules | `(tactic| k_ne) => `(tactic| k_extra "ne")
local macro_rules | `(tactic| k_mem) => `(tactic| k_extra "mem")
local macro_rules | `(tactic| k_all) => `(tactic| k_extra "all")
local macro_rules | `(tactic| kcj_all) => `(tactic| k_extra "cj")
local macro_rules | `(tactic| walk_at "my lt") => `(tactic| (intro l1; try k_lt l1))
local macro_rules | `(tactic| walk_at "my lt2") => `(tactic| (intro l1 lD; try k_lt l1))
section
open PySem PySem.W PyProof.Rows PySem.Calls PySem.Spec
namespace Mine
def sBody : Stmt → List Stmt
  | .FunctionDef _ _ b _ _ _ _ _ _ _ => b
  | .For _ _ b _ _ => b
  | _ => []
def sArgs : Stmt → Arguments
  | .FunctionDef _ a _ _ _ _ _ _ _ _ => a
  | _ => default
def sScope : Stmt → Scope
  | .FunctionDef _ _ _ _ _ _ s _ _ _ => s
  | _ => default
def sAt : Nat → List Stmt → Stmt
  | _, [] => .Pass default
  | 0, s :: _ => s
  | n + 1, _ :: r => sAt n r
end Mine
namespace Mine
def KB (ds : List Addr) (h g : Heap) : Prop := ∀ b o, b ∉ ds → h.get? b = some o → g.get? b = some o

section
variable {prog : Program} {w : World} {A₀ A : Around} {s : Shared} {base h₀ : Heap} {outer : List Env} {L : Addr} {m mg mb : Str → Option Value} {env : Env} {news : List (Addr × Obj)} {K : Frag} {p : Program} {loose : List Str} {mean : ExcName → Option Value}
  {R : Result → Shared → Prop} {name qual : Str} {params : Arguments} {body : List Stmt} {scope : Scope} {cl : List (Str × Addr)} {dV kV doc pm cdv ct oc : Value} {an od : Option Addr} {osl : Array (Option Value)} {fo : Obj} {f : Addr} {args : Args} {binds : List (Str × Value)}

theorem groundKB (B : Below A₀ base outer h₀) (F : Fr h₀ L s.heap m) (N : News h₀ L s.heap news) (hA : A.frames = some (env :: outer)) (hf : env.frame = some L) (hke : env.scope.kind = .function) :
    Below A base (env :: outer) (hideAll s.heap (news.map (·.1))) ∧ h₀.StaysIn (hideAll s.heap (news.map (·.1))) ∧ KB (news.map (·.1)) s.heap (hideAll s.heap (news.map (·.1))) :=
  let ⟨_, b, c, _⟩ := groundX (R := fun _ _ => True) B F N hA hf hke
  ⟨b, c, fun _ _ hb e => hideAll_get _ e hb⟩

theorem enterF (B : Below A₀ base outer h₀) (F : Fr h₀ L s.heap m) (N : News h₀ L s.heap news) (hlim : h₀.NoLimit) (hA : A.frames = some (env :: outer)) (hf : env.frame = some L) (hke : env.scope.kind = .function)
    (ho : s.heap.get? f = some fo) (hd : fo.data = .func (fnX name qual params body scope cl dV kV doc pm an cdv ct)) (hcd : s.heap.CodeRec cdv qual) (hroom : A.depth < recursionLimit)
    (hbind : BindsTo s (fnX name qual params body scope cl dV kV doc pm an cdv ct) args binds) (hloc : ∀ y ∈ binds, scope.names.lookup y.1 = some .local)
    (h : ∀ g L' h₁, KB (news.map (·.1)) s.heap g → s.heap.objs.size ≤ L' → Fr g L' h₁ (fun y => binds.reverse.lookup y) → News g L' h₁ news → Below A base (env :: outer) g → h₀.StaysIn g →
      wpAny (model prog w) (A.deeper (envX qual scope L' f cdv cl)) (execs body (envX qual scope L' f cdv cl))
        (fun fl s' => R (.ok (.ret (match fl with | .ret v => v | _ => .none))) s')
        (fun e s' => wpAny (model prog w) (A.deeper (envX qual scope L' f cdv cl)) (leaving (envX qual scope L' f cdv cl) e) (fun _ s'' => R (.error e) s'') (fun e' s'' => R (.error e') s'') s')
        { s with heap := h₁, toks := s.toks + binds.length })
    (hcell : ∀ x ∈ scope.names, x.2 ≠ .cell) (hco : scope.isCoroutine = false) (hgen : scope.isGenerator = false) (hk : scope.kind = .function) : codeAny (model prog w) A (.call (.ref f) args) R s := by
  obtain ⟨BG, st, kb⟩ := groundKB B F N hA hf hke
  refine codeAny_call_def (fd := fnX name qual params body scope cl dV kV doc pm an cdv ct) (body := body) (binds := binds) hroom ho hd (hlim.keeps F.keep) hcd rfl hbind hcell hloc (fun h₁ hns hk₁ => ?_) hco hgen hk
  exact h _ s.heap.objs.size h₁ kb (Nat.le_refl _) ⟨hns, fun b o e => hk₁ b o (of_hideAll _ e), Nat.le_of_eq (hideAll_size _ _)⟩
    (fun p hp => ⟨hk₁ _ _ (N p hp).1, Nat.ne_of_lt (Heap.lt_size (N p hp).1), hideAll_none _ (List.mem_map_of_mem hp)⟩) BG st

theorem enterC (B : Below A₀ base outer h₀) (F : Fr h₀ L s.heap m) (N : News h₀ L s.heap news) (hlim : h₀.NoLimit) (hA : A.frames = some (env :: outer)) (hf : env.frame = some L) (hke : env.scope.kind = .function)
    (ho : s.heap.get? f = some fo) (hd : fo.data = .func (fnX name qual params body scope [] dV kV doc pm an cdv ct)) (hcd : s.heap.CodeRec cdv qual) (hroom : A.depth < recursionLimit)
    (hbind : BindsTo s (fnX name qual params body scope [] dV kV doc pm an cdv ct) args binds)
    (hkind : (binds.all fun y => scope.names.lookup y.1 == some .local || scope.names.lookup y.1 == some .cell) = true)
    (hnd : ((cellsFrom 0 scope.names []).map (·.1)).Nodup)
    (h : ∀ g L' h₁ tk cells, KB (news.map (·.1)) s.heap g → s.heap.objs.size ≤ L' → Fr g L' h₁ (bindL (envOfC qual scope L' f cdv).kindOf binds fun _ => none) → News g L' h₁ (cells ++ news) →
      CellsAre (bindC (envOfC qual scope L' f cdv).kindOf binds fun _ => none) (cellsFrom (L' + 1) scope.names []) cells → Below A base (env :: outer) g → h₀.StaysIn g → (∀ p ∈ news, p.1 < L') →
      wpAny (model prog w) (A.deeper (envOfC qual scope L' f cdv)) (execs body (envOfC qual scope L' f cdv))
        (fun fl s' => R (.ok (.ret (match fl with | .ret v => v | _ => .none))) s')
        (fun e s' => wpAny (model prog w) (A.deeper (envOfC qual scope L' f cdv)) (leaving (envOfC qual scope L' f cdv) e) (fun _ s'' => R (.error e) s'') (fun e' s'' => R (.error e') s'') s')
        { s with heap := h₁, toks := tk })
    (hco : scope.isCoroutine = false) (hgen : scope.isGenerator = false) (hk : scope.kind = .function) : codeAny (model prog w) A (.call (.ref f) args) R s := by
  obtain ⟨BG, st, kb⟩ := groundKB B F N hA hf hke
  refine codeAny_call_function hroom ho hd hco hgen rfl hcd (hbind _ _ _ _ ?_)
  refine wpAny_newFunctionEnv_cells hk (kindsX hkind _) fun env' he s' x => ?_
  subst he
  refine ⟨(hlim.keeps F.keep).keeps x.toInCall.keep, codeAny_func ?_⟩
  obtain ⟨h₁, tk, rfl, _⟩ := x.done
  have hk₁ := x.toInCall.keep
  obtain ⟨cells, NC, Y⟩ := Cl.news (h₀ := s.heap) (Nat.le_refl _) fun n c hm => ⟨x.cell n c (lookup_of_mem_nodup (cellsFrom_names scope.names 0 (s.heap.objs.size + 1) [] [] rfl ▸ hnd) hm), x.above n c hm⟩
  refine h _ s.heap.objs.size h₁ tk cells kb (Nat.le_refl _) ⟨x.toInCall.ns, fun b o e => hk₁ b o (of_hideAll _ e), Nat.le_of_eq (hideAll_size _ _)⟩ (fun p hp => ?_) Y BG st (fun p hp => Heap.lt_size (N p hp).1)
  rcases List.mem_append.mp hp with hp | hp
  · refine ⟨(NC p hp).1, (NC p hp).2.1, ?_⟩
    cases q : (hideAll s.heap (news.map (·.1))).get? p.1 with
    | none => rfl
    | some o => have := of_hideAll _ q; rw [(NC p hp).2.2] at this; cases this
  · exact ⟨hk₁ _ _ (N p hp).1, Nat.ne_of_lt (Heap.lt_size (N p hp).1), hideAll_none _ (List.mem_map_of_mem hp)⟩

/-- entering a def of the written part -/
theorem enterK (B : Below A₀ base outer h₀) (F : Fr h₀ L s.heap m) (X₀ : K.In h₀) (N : News h₀ L s.heap news) (T : Top p loose mean mg mb h₀) (hA : A.frames = some (env :: outer)) (hf : env.frame = some L) (hke : env.scope.kind = .function)
    (ho : K.lookup f = some ⟨oc, od, .func (fnX name qual params body scope cl dV kV doc pm an cdv ct), osl⟩) (hcd : codeIn K cdv qual = true) (hroom : A.depth < recursionLimit)
    (hbind : BindsTo s (fnX name qual params body scope cl dV kV doc pm an cdv ct) args binds) (hloc : ∀ y ∈ binds, scope.names.lookup y.1 = some .local)
    (h : ∀ g L' h₁, KB (news.map (·.1)) s.heap g → s.heap.objs.size ≤ L' → Fr g L' h₁ (fun y => binds.reverse.lookup y) → News g L' h₁ news → Below A base (env :: outer) g → K.In g → Top p loose mean mg mb g →
      wpAny (model prog w) (A.deeper (envX qual scope L' f cdv cl)) (execs body (envX qual scope L' f cdv cl))
        (fun fl s' => R (.ok (.ret (match fl with | .ret v => v | _ => .none))) s')
        (fun e s' => wpAny (model prog w) (A.deeper (envX qual scope L' f cdv cl)) (leaving (envX qual scope L' f cdv cl) e) (fun _ s'' => R (.error e) s'') (fun e' s'' => R (.error e') s'') s')
        { s with heap := h₁, toks := s.toks + binds.length })
    (hcell : ∀ x ∈ scope.names, x.2 ≠ .cell) (hco : scope.isCoroutine = false) (hgen : scope.isGenerator = false) (hk : scope.kind = .function) : codeAny (model prog w) A (.call (.ref f) args) R s :=
  enterF B F N T.nolimit hA hf hke ((X₀.keeps F.keep) _ _ ho) rfl (codeRec_of (X₀.keeps F.keep) hcd) hroom hbind hloc (fun g L' h₁ kb hl F' N' B' st => h g L' h₁ kb hl F' N' B' (X₀.keeps st) (T.keeps st)) hcell hco hgen hk

theorem enterKC (B : Below A₀ base outer h₀) (F : Fr h₀ L s.heap m) (X₀ : K.In h₀) (N : News h₀ L s.heap news) (T : Top p loose mean mg mb h₀) (hA : A.frames = some (env :: outer)) (hf : env.frame = some L) (hke : env.scope.kind = .function)
    (ho : K.lookup f = some ⟨oc, od, .func (fnX name qual params body scope [] dV kV doc pm an cdv ct), osl⟩) (hcd : codeIn K cdv qual = true) (hroom : A.depth < recursionLimit)
    (hbind : BindsTo s (fnX name qual params body scope [] dV kV doc pm an cdv ct) args binds)
    (hkind : (binds.all fun y => scope.names.lookup y.1 == some .local || scope.names.lookup y.1 == some .cell) = true)
    (hnd : ((cellsFrom 0 scope.names []).map (·.1)).Nodup)
    (h : ∀ g L' h₁ tk cells, KB (news.map (·.1)) s.heap g → s.heap.objs.size ≤ L' → Fr g L' h₁ (bindL (envOfC qual scope L' f cdv).kindOf binds fun _ => none) → News g L' h₁ (cells ++ news) →
      CellsAre (bindC (envOfC qual scope L' f cdv).kindOf binds fun _ => none) (cellsFrom (L' + 1) scope.names []) cells → Below A base (env :: outer) g → K.In g → Top p loose mean mg mb g → (∀ p ∈ news, p.1 < L') →
      wpAny (model prog w) (A.deeper (envOfC qual scope L' f cdv)) (execs body (envOfC qual scope L' f cdv))
        (fun fl s' => R (.ok (.ret (match fl with | .ret v => v | _ => .none))) s')
        (fun e s' => wpAny (model prog w) (A.deeper (envOfC qual scope L' f cdv)) (leaving (envOfC qual scope L' f cdv) e) (fun _ s'' => R (.error e) s'') (fun e' s'' => R (.error e') s'') s')
        { s with heap := h₁, toks := tk })
    (hco : scope.isCoroutine = false) (hgen : scope.isGenerator = false) (hk : scope.kind = .function) : codeAny (model prog w) A (.call (.ref f) args) R s :=
  enterC B F N T.nolimit hA hf hke ((X₀.keeps F.keep) _ _ ho) rfl (codeRec_of (X₀.keeps F.keep) hcd) hroom hbind hkind hnd (fun g L' h₁ tk cells kb hl F' N' Y B' st l => h g L' h₁ tk cells kb hl F' N' Y B' (X₀.keeps st) (T.keeps st) l) hco hgen hk
end
end Mine
end
section
open PySem PySem.W PyProof.Rows PySem.Calls PySem.Spec
namespace Mine
section
variable {prog : Program} {w : World} {A : Around} {E : Value → Shared → Prop} {s : Shared} {h₀ : Heap} {L : Addr} {m : Str → Option Value} {news : List (Addr × Obj)} {l : Addr} {v : Value} {c : Nat} {x : Int} {u : Tok} {Q : Value → Shared → Prop}
theorem flat_one (v : Value) : ∀ k : Nat, (List.replicate k [v]).flatten = List.replicate k v
  | 0 => rfl
  | k + 1 => by rw [List.replicate_succ, List.flatten_cons, flat_one v k, List.replicate_succ]; rfl
theorem mulRep (F : Fr h₀ L s.heap m) (N : News h₀ L s.heap news) (hm : (l, W.listOf #[v] c) ∈ news) (h0 : 0 ≤ x) (h1 : x ≤ 256)
    (h : ∀ D h', Fr h₀ L h' m → News h₀ L h' ((D, W.listOf (List.replicate x.toNat v).toArray 0) :: news) → (∀ p ∈ news, p.1 < D) → Q (.ref D) { s with heap := h' }) : wpAny (model prog w) A (binaryOp .Mult (.ref l) (.int x u)) Q E s :=
  KMa.mul (vs := [v]) F N (News.isList N hm) (by omega) (by omega) (by show 1 * x.toNat ≤ 256; omega) (flat_one v _) h
end
end Mine
namespace Mine
theorem frKB {h₀ h h' : Heap} {L : Addr} {m : Str → Option Value} {ds : List Addr} (F : Fr h₀ L h m) (kb : KB ds h h') (hL : L ∉ ds) (hd : ∀ d ∈ ds, h₀.get? d = none) : Fr h₀ L h' m :=
  ⟨F.ns.at' fun o e => kb L o hL e, fun b o e => kb b o (fun hb => by rw [hd b hb] at e; cases e) (F.keep b o e), F.above⟩
theorem newsKB {h₀ h h' : Heap} {L : Addr} {news : List (Addr × Obj)} {ds : List Addr} (N : News h₀ L h news) (kb : KB ds h h') (hd : ∀ p ∈ news, p.1 ∉ ds) : News h₀ L h' news :=
  fun p hp => ⟨kb _ _ (hd p hp) (N p hp).1, (N p hp).2⟩
theorem newsKB1 {h₀ h h' : Heap} {L D : Addr} {o o' : Obj} {rest : List (Addr × Obj)} (N : News h₀ L h ((D, o) :: rest)) (kb : KB [D] h h') (hD : h'.get? D = some o') (ne : ∀ p ∈ rest, p.1 ≠ D) : News h₀ L h' ((D, o') :: rest) :=
  fun p hp => by
    rcases List.mem_cons.mp hp with rfl | hp
    · exact ⟨hD, (N (D, o) (.head _)).2⟩
    · exact newsKB (fun q hq => N q (.tail _ hq)) kb (fun q hq hm => ne q hq (List.mem_singleton.mp hm)) p hp
theorem newsKBU {h₀ h h' : Heap} {L D : Addr} {o o' : Obj} {news news' : List (Addr × Obj)} (N : News h₀ L h news) (kb : KB [D] h h') (hD : h'.get? D = some o') (U : Upd D o o' news news') : News h₀ L h' news' := by
  obtain ⟨pre, post, rfl, rfl, a, b⟩ := U.split
  intro p hp
  rcases List.mem_append.mp hp with hp | hp
  · exact newsKB (fun q hq => N q (List.mem_append_left _ hq)) kb (fun q hq hm => a q hq (List.mem_singleton.mp hm)) p hp
  · rcases List.mem_cons.mp hp with rfl | hp
    · exact ⟨hD, (N (D, o) (List.mem_append_right _ (.head _))).2⟩
    · exact newsKB (fun q hq => N q (List.mem_append_right _ (.tail _ hq))) kb (fun q hq hm => b q hq (List.mem_singleton.mp hm)) p hp
theorem KB.trans {ds : List Addr} {a b c : Heap} (x : KB ds a b) (y : KB ds b c) : KB ds a c := fun i o h e => y i o h (x i o h e)
theorem KB.mono {ds es : List Addr} {a b : Heap} (x : KB ds a b) (hs : ∀ d ∈ ds, d ∈ es) : KB es a b := fun i o h e => x i o (fun q => h (hs _ q)) e

/-- what a frame left, said of the heap it began with: all of it stands but the named one -/
theorem kbEnd {h g h' : Heap} {L' D : Addr} {m' : Str → Option Value} {o' : Obj} {news rest : List (Addr × Obj)} (kb : KB (news.map (·.1)) h g) (F : Fr g L' h' m') (N : News g L' h' rest) (N0 : ∀ p ∈ news, h.get? p.1 = some p.2) (sub : ∀ p ∈ news, p.1 ≠ D → p ∈ rest) (_hD : (D, o') ∈ rest) : KB [D] h h' := by
  intro b o hb e
  by_cases hn : b ∈ news.map (·.1)
  · obtain ⟨p, hp, rfl⟩ := List.mem_map.mp hn
    have h1 := sub p hp (fun q => hb (List.mem_singleton.mpr q))
    have h2 := N0 p hp
    rw [e] at h2
    rw [Option.some.inj h2]
    exact (N p h1).1
  · exact F.keep b o (kb b o hn e)

section
variable {prog : Program} {w : World} {A : Around} {E : Value → Shared → Prop} {s : Shared} {a b : Int} {t u : Tok} {Q : Value → Shared → Prop}
theorem rsh1 (h : ∀ q : Int, 2 * q ≤ a → a < 2 * q + 2 → Q (.int q s.toks) { s with toks := s.toks + 1 }) : wpAny (model prog w) A (binaryOp .RShift (.int a t) (.int 1 u)) Q E s := by
  refine rshift_int (by decide) (h _ ?_ ?_)
  · show 2 * a.fdiv 2 ≤ a
    rw [Int.fdiv_eq_ediv_of_nonneg a (by decide : (0 : Int) ≤ 2)]; omega
  · show a < 2 * a.fdiv 2 + 2
    rw [Int.fdiv_eq_ediv_of_nonneg a (by decide : (0 : Int) ≤ 2)]; omega
theorem fdiv_pow_facts {a : Int} (ha : 0 ≤ a) (k : Nat) : 0 ≤ a.fdiv (2 ^ k) ∧ a.fdiv (2 ^ k) ≤ a := by
  have hp : (0 : Int) < 2 ^ k := Int.pow_pos (by decide)
  rw [Int.fdiv_eq_ediv_of_nonneg a (Int.le_of_lt hp)]
  exact ⟨Int.ediv_nonneg ha (Int.le_of_lt hp), Int.ediv_le_self _ ha⟩
theorem rshX (hb : 0 ≤ b) (ha : 0 ≤ a) (h : ∀ q : Int, q = a / 2 ^ b.toNat → 0 ≤ q → q ≤ a → Q (.int q s.toks) { s with toks := s.toks + 1 }) : wpAny (model prog w) A (binaryOp .RShift (.int a t) (.int b u)) Q E s :=
  rshift_int hb (h _ (Int.fdiv_eq_ediv_of_nonneg a (Int.le_of_lt (Int.pow_pos (by decide)))) (fdiv_pow_facts ha _).1 (fdiv_pow_facts ha _).2)
theorem mulX (ha : 0 ≤ a) (ha2 : a ≤ 256) (hb : 0 ≤ b) (hb2 : b ≤ 64) (h : ∀ z : Int, z = a * b → 0 ≤ z → z ≤ 16384 → Q (.int z s.toks) { s with toks := s.toks + 1 }) : wpAny (model prog w) A (binaryOp .Mult (.int a t) (.int b u)) Q E s := by
  have h2 : a * b ≤ 256 * 64 := Int.mul_le_mul ha2 hb2 hb (by decide)
  exact mul_int (h _ rfl (Int.mul_nonneg ha hb) (by omega)) (.of_left (intBits_le (by omega)))
theorem lshX (hb : 0 ≤ b) (hb2 : b ≤ 16384) (ha : 0 ≤ a) (ha2 : a < 2 ^ 60) (h : ∀ z : Int, z = a * 2 ^ b.toNat → Q (.int z s.toks) { s with toks := s.toks + 1 }) : wpAny (model prog w) A (binaryOp .LShift (.int a t) (.int b u)) Q E s :=
  lshift_int_small hb (by omega) (by omega) (h _ rfl)
end
end Mine
end
section
open PySem PySem.W PyProof.Rows PySem.Calls PySem.Spec
namespace Mine
def digs (B : Int) : Nat → Int → List Int
  | 0, _ => []
  | k + 1, x => x % B :: digs B k (x / B)
def splice (ns : List Int) (lo : Nat) (ds : List Int) : List Int := ns.take lo ++ ds ++ ns.drop (lo + ds.length)
theorem digs_length (B : Int) : ∀ (k : Nat) (x : Int), (digs B k x).length = k
  | 0, _ => rfl
  | k + 1, x => by rw [digs, List.length_cons, digs_length B k]
theorem digs_one {B x : Int} (h0 : 0 ≤ x) (h1 : x < B) : digs B 1 x = [x] := by
  show [x % B] = [x]
  rw [Int.emod_eq_of_lt h0 h1]
theorem digs_add {B : Int} (hB : 0 < B) : ∀ (i j : Nat) (x : Int), digs B (i + j) x = digs B i (x % B ^ i) ++ digs B j (x / B ^ i)
  | 0, j, x => by simp [digs]
  | i + 1, j, x => by
    have e : i + 1 + j = (i + j) + 1 := by omega
    have hp : (0 : Int) < B ^ i := Int.pow_pos hB
    rw [e, digs, digs_add hB i j (x / B), digs, List.cons_append]
    have e1 : x % B ^ (i + 1) % B = x % B := Int.emod_emod_of_dvd x ⟨B ^ i, by rw [Int.pow_succ, Int.mul_comm]⟩
    have e2 : x / B / B ^ i = x / B ^ (i + 1) := by rw [Int.ediv_ediv_of_nonneg (Int.le_of_lt hB), Int.pow_succ, Int.mul_comm]
    have e3 : x % B ^ (i + 1) / B = x / B % B ^ i := by
      rw [Int.emod_def x (B ^ (i + 1)), ← e2, Int.emod_def (x / B) (B ^ i)]
      have : B ^ (i + 1) * (x / B / B ^ i) = B * (B ^ i * (x / B / B ^ i)) := by rw [Int.pow_succ, Int.mul_comm (B ^ i) B, Int.mul_assoc]
      rw [this, Int.sub_eq_add_neg, Int.neg_mul_eq_mul_neg, Int.add_mul_ediv_left _ _ (Int.ne_of_gt hB)]
      omega
    rw [e1, e2, e3]
theorem splice_length {ns ds : List Int} {lo : Nat} (h : lo + ds.length ≤ ns.length) : (splice ns lo ds).length = ns.length := by
  unfold splice
  simp only [List.length_append, List.length_take, List.length_drop]
  omega
theorem splice_one {ns : List Int} {lo : Nat} {x : Int} (h : lo < ns.length) : ns.set lo x = splice ns lo [x] := by
  unfold splice
  rw [List.set_eq_take_append_cons_drop, if_pos h]
  simp
theorem splice_splice {ns d1 d2 : List Int} {lo : Nat} (h : lo + d1.length + d2.length ≤ ns.length) : splice (splice ns lo d1) (lo + d1.length) d2 = splice ns lo (d1 ++ d2) := by
  unfold splice
  have h1 : (ns.take lo ++ d1).length = lo + d1.length := by simp; omega
  have e1 : (ns.take lo ++ d1 ++ ns.drop (lo + d1.length)).take (lo + d1.length) = ns.take lo ++ d1 := by
    rw [List.take_append_of_le_length (by omega), List.take_of_length_le (by omega)]
  have e2 : (ns.take lo ++ d1 ++ ns.drop (lo + d1.length)).drop (lo + d1.length + d2.length) = ns.drop (lo + (d1 ++ d2).length) := by
    rw [List.drop_append, List.drop_of_length_le (by omega), h1, List.nil_append, List.drop_drop]
    congr 1
    simp; omega
  rw [e1, e2, List.append_assoc (ns.take lo)]
theorem splice_all {ns ds : List Int} (h : ds.length = ns.length) : splice ns 0 ds = ds := by
  unfold splice
  rw [Nat.zero_add, h]; simp

theorem nat_and_shift (x s : Nat) : x &&& (x / 2 ^ s * 2 ^ s) = x / 2 ^ s * 2 ^ s := by
  rw [← Nat.shiftRight_eq_div_pow, ← Nat.shiftLeft_eq]
  apply Nat.eq_of_testBit_eq
  intro i
  simp only [Nat.testBit_and, Nat.testBit_shiftLeft, Nat.testBit_shiftRight]
  by_cases h : i ≥ s
  · simp [h]
  · simp [h]
theorem xor_shift {x : Int} (hx : 0 ≤ x) (s : Nat) : Builtin.bitXor x (x / 2 ^ s * 2 ^ s) = x % 2 ^ s := by
  have hp : (0 : Int) < 2 ^ s := Int.pow_pos (by decide)
  have hq : 0 ≤ x / 2 ^ s * 2 ^ s := Int.mul_nonneg (Int.ediv_nonneg hx (Int.le_of_lt hp)) (Int.le_of_lt hp)
  have e : (x / 2 ^ s * 2 ^ s).toNat = x.toNat / 2 ^ s * 2 ^ s := by
    obtain ⟨n, rfl⟩ := Int.eq_ofNat_of_zero_le hx
    have : ((n : Int) / 2 ^ s * 2 ^ s) = ((n / 2 ^ s * 2 ^ s : Nat) : Int) := by simp
    exact (congrArg Int.toNat this).trans (Int.toNat_natCast _)
  rw [bitXor_and, bitAnd_pp hx hq, e, nat_and_shift, ← e, Int.toNat_of_nonneg hq, Int.emod_def, Int.mul_comm (2 ^ s)]
  omega
theorem step_facts {x : Int} {N K1 K2 : Nat} (hx : 0 ≤ x) (hx2 : x < 2 ^ (N * (K1 + K2))) :
    0 ≤ x % 2 ^ (N * K1) ∧ x % 2 ^ (N * K1) < 2 ^ (N * K1) ∧ x % 2 ^ (N * K1) ≤ x ∧ 0 ≤ x / 2 ^ (N * K1) ∧ x / 2 ^ (N * K1) < 2 ^ (N * K2) ∧
      digs (2 ^ N) (K1 + K2) x = digs (2 ^ N) K1 (x % 2 ^ (N * K1)) ++ digs (2 ^ N) K2 (x / 2 ^ (N * K1)) := by
  have hp : (0 : Int) < 2 ^ (N * K1) := Int.pow_pos (by decide)
  have hB : (0 : Int) < 2 ^ N := Int.pow_pos (by decide)
  have e : ((2 : Int) ^ N) ^ K1 = 2 ^ (N * K1) := Int.pow_mul.symm
  refine ⟨Int.emod_nonneg _ (Int.ne_of_gt hp), Int.emod_lt_of_pos _ hp, ?_, Int.ediv_nonneg hx (Int.le_of_lt hp), ?_, ?_⟩
  · have h1 := Int.emod_add_mul_ediv x (2 ^ (N * K1))
    have h2 := Int.mul_nonneg (Int.le_of_lt hp) (Int.ediv_nonneg hx (Int.le_of_lt hp))
    omega
  · refine Int.ediv_lt_of_lt_mul hp ?_
    rw [← Int.pow_add, Nat.add_comm, ← Nat.mul_add]
    exact hx2
  · rw [← e]; exact digs_add hB K1 K2 x
end Mine
namespace Mine
/-- the number of n-bit figures of a -/
def cnt (a n : Int) : Int := (↑(Builtin.Int.intBits a) + n - 1).fdiv n
theorem cnt_facts {a n : Int} (ha : 0 ≤ a) (ha2 : a < 2 ^ 60) (hn : 0 < n) (hn2 : n < 60) :
    0 ≤ cnt a n ∧ cnt a n ≤ 128 ∧ (a ≠ 0 → 1 ≤ cnt a n) ∧ (a = 0 → cnt a n = 0) ∧ a < 2 ^ (n.toNat * (cnt a n).toNat) := by
  have hb : Builtin.Int.intBits a ≤ 64 := intBits_le_64 (by omega) (by omega)
  have e : cnt a n = (↑(Builtin.Int.intBits a) + n - 1) / n := by unfold cnt; exact Int.fdiv_eq_ediv_of_nonneg _ (by omega)
  generalize hq : cnt a n = q at *
  have m1 := Int.mul_ediv_self_le (x := (↑(Builtin.Int.intBits a) + n - 1)) (k := n) (by omega)
  have m2 := Int.lt_mul_ediv_self_add (x := (↑(Builtin.Int.intBits a) + n - 1)) (k := n) hn
  rw [← e] at m1 m2
  have q0 : 0 ≤ q := by rw [e]; exact Int.ediv_nonneg (by omega) (by omega)
  have hle : (Builtin.Int.intBits a : Int) ≤ n * q := by omega
  refine ⟨q0, ?_, ?_, ?_, ?_⟩
  · have : 1 * q ≤ n * q := Int.mul_le_mul_of_nonneg_right (by omega) q0
    clear e hq
    omega
  · intro h
    have : 0 < Builtin.Int.intBits a := by unfold Builtin.Int.intBits; simp [h]
    rcases Int.lt_or_le q 1 with h1 | h1
    · have : q = 0 := by omega
      rw [this] at hle; omega
    · exact h1
  · intro h
    have : Builtin.Int.intBits a = 0 := by rw [h]; rfl
    rw [e, this]
    show ((0 : Int) + n - 1) / n = 0
    exact Int.ediv_eq_zero_of_lt (by omega) (by omega)
  · have h1 : a < 2 ^ Builtin.Int.intBits a := by
      unfold Builtin.Int.intBits
      split
      · rename_i h; rw [beq_iff_eq] at h; rw [h]; decide
      · have := Nat.lt_log2_self (n := a.natAbs)
        have h2 : ((a.natAbs : Nat) : Int) < ((2 ^ (a.natAbs.log2 + 1) : Nat) : Int) := by exact_mod_cast this
        rw [Int.natCast_pow] at h2
        have h3 : ((a.natAbs : Nat) : Int) = a := by omega
        rw [h3] at h2; exact h2
    refine Int.lt_of_lt_of_le h1 ?_
    have h4 : Builtin.Int.intBits a ≤ n.toNat * q.toNat := by
      have : ((n.toNat * q.toNat : Nat) : Int) = n * q := by rw [Int.natCast_mul, Int.toNat_of_nonneg (by omega), Int.toNat_of_nonneg q0]
      omega
    have := Nat.pow_le_pow_right (n := 2) (by decide) h4
    exact_mod_cast this
end Mine
namespace Mine
/-- what a row of figures is worth to B, the lowest first -/
def undig (B : Int) : List Int → Int
  | [] => 0
  | d :: r => d + B * undig B r
theorem undig_append (B : Int) : ∀ a b : List Int, undig B (a ++ b) = undig B a + B ^ a.length * undig B b
  | [], b => by simp [undig]
  | d :: r, b => by
    rw [List.cons_append, undig, undig_append B r b, undig, List.length_cons, Int.pow_succ, Int.mul_add, ← Int.mul_assoc B, Int.mul_comm B (B ^ r.length)]
    omega
/-- the worth of K of them from lo on -/
def sl (B : Int) (ns : List Int) (lo K : Nat) : Int := undig B ((ns.drop lo).take K)
theorem sl_one {B : Int} {ns : List Int} {lo : Nat} (h : lo < ns.length) : sl B ns lo 1 = ns.getD lo 0 := by
  unfold sl
  rw [List.drop_eq_getElem_cons h, List.take_succ_cons, List.take_zero, undig, undig, List.getD_eq_getElem?_getD, List.getElem?_eq_getElem h]
  simp
theorem sl_add {B : Int} {ns : List Int} {lo K1 K2 : Nat} (h : lo + K1 ≤ ns.length) : sl B ns lo (K1 + K2) = sl B ns lo K1 + B ^ K1 * sl B ns (lo + K1) K2 := by
  unfold sl
  rw [List.take_add, undig_append, List.drop_drop, List.length_take, List.length_drop, Nat.min_eq_left (by omega)]
end Mine
namespace Mine
def ldiv (B b : Int) : List Int → List Int × Int
  | [] => ([], 0)
  | d :: r => (((ldiv B b r).2 * B + d) / b :: (ldiv B b r).1, ((ldiv B b r).2 * B + d) % b)
theorem ldiv_length (B b : Int) : ∀ ds, (ldiv B b ds).1.length = ds.length
  | [] => rfl
  | d :: r => by rw [ldiv, List.length_cons, ldiv_length B b r, List.length_cons]
theorem ldiv_spec {B b : Int} (hb : 0 < b) : ∀ ds : List Int, (∀ d ∈ ds, 0 ≤ d ∧ d < B) →
    undig B ds = b * undig B (ldiv B b ds).1 + (ldiv B b ds).2 ∧ 0 ≤ (ldiv B b ds).2 ∧ (ldiv B b ds).2 < b ∧ ∀ q ∈ (ldiv B b ds).1, 0 ≤ q ∧ q < B
  | [], _ => ⟨by simp [undig, ldiv], Int.le_refl _, hb, fun _ h => nomatch h⟩
  | d :: r, h => by
    obtain ⟨e, r0, r1, hq⟩ := ldiv_spec hb r fun x hx => h x (.tail _ hx)
    obtain ⟨d0, d1⟩ := h d (.head _)
    have hB : 0 < B := by omega
    have m0 : 0 ≤ (ldiv B b r).2 * B := Int.mul_nonneg r0 (Int.le_of_lt hB)
    have m1 : (ldiv B b r).2 * B ≤ (b - 1) * B := Int.mul_le_mul_of_nonneg_right (by omega) (Int.le_of_lt hB)
    have m2 : (b - 1) * B = b * B - B := by rw [Int.sub_mul, Int.one_mul]
    have hm := Int.emod_add_mul_ediv ((ldiv B b r).2 * B + d) b
    refine ⟨?_, Int.emod_nonneg _ (Int.ne_of_gt hb), Int.emod_lt_of_pos _ hb, fun q hq' => ?_⟩
    · rw [ldiv, undig, undig, e]
      show d + B * (b * undig B (ldiv B b r).1 + (ldiv B b r).2) = b * (((ldiv B b r).2 * B + d) / b + B * undig B (ldiv B b r).1) + ((ldiv B b r).2 * B + d) % b
      have e1 : B * (b * undig B (ldiv B b r).1 + (ldiv B b r).2) = b * (B * undig B (ldiv B b r).1) + (ldiv B b r).2 * B := by
        rw [Int.mul_add, Int.mul_left_comm, Int.mul_comm B (ldiv B b r).2]
      rw [e1, Int.mul_add]
      omega
    · rcases List.mem_cons.mp hq' with rfl | hq'
      · refine ⟨Int.ediv_nonneg (by omega) (Int.le_of_lt hb), Int.ediv_lt_of_lt_mul hb ?_⟩
        rw [Int.mul_comm B b]; omega
      · exact hq q hq'
theorem digs_spec {B : Int} (hB : 0 < B) : ∀ (k : Nat) (x : Int), 0 ≤ x → x < B ^ k → undig B (digs B k x) = x ∧ ∀ d ∈ digs B k x, 0 ≤ d ∧ d < B
  | 0, x, h0, h1 => ⟨by rw [Int.pow_zero] at h1; show (0 : Int) = x; omega, fun _ h => nomatch h⟩
  | k + 1, x, h0, h1 => by
    have h2 : x / B < B ^ k := Int.ediv_lt_of_lt_mul hB (by rw [← Int.pow_succ]; exact h1)
    obtain ⟨e, hd⟩ := digs_spec hB k (x / B) (Int.ediv_nonneg h0 (Int.le_of_lt hB)) h2
    refine ⟨?_, fun d hd' => ?_⟩
    · rw [digs, undig, e]; exact Int.emod_add_mul_ediv x B
    · rcases List.mem_cons.mp hd' with rfl | hd'
      · exact ⟨Int.emod_nonneg _ (Int.ne_of_gt hB), Int.emod_lt_of_pos _ hB⟩
      · exact hd d hd'
theorem undig_nonneg {B : Int} (hB : 0 < B) : ∀ ds : List Int, (∀ d ∈ ds, 0 ≤ d) → 0 ≤ undig B ds
  | [], _ => Int.le_refl _
  | d :: r, h => by
    have h1 := undig_nonneg hB r fun x hx => h x (.tail _ hx)
    have h2 := Int.mul_nonneg (Int.le_of_lt hB) h1
    have h3 := h d (.head _)
    rw [undig]; omega
theorem sl_le {B : Int} (hB : 0 < B) (ds : List Int) (h : ∀ d ∈ ds, 0 ≤ d) (lo K : Nat) : 0 ≤ sl B ds lo K ∧ sl B ds lo K ≤ undig B ds := by
  have hp : (0 : Int) < B ^ (ds.take lo).length := Int.pow_pos hB
  have hp2 : (0 : Int) < B ^ ((ds.drop lo).take K).length := Int.pow_pos hB
  have n1 : 0 ≤ undig B (ds.take lo) := undig_nonneg hB _ fun d hd => h d (List.mem_of_mem_take hd)
  have n2 : 0 ≤ undig B ((ds.drop lo).take K) := undig_nonneg hB _ fun d hd => h d (List.mem_of_mem_drop (List.mem_of_mem_take hd))
  have n3 : 0 ≤ undig B ((ds.drop lo).drop K) := undig_nonneg hB _ fun d hd => h d (List.mem_of_mem_drop (List.mem_of_mem_drop hd))
  refine ⟨n2, ?_⟩
  have e1 : undig B ds = undig B (ds.take lo) + B ^ (ds.take lo).length * undig B (ds.drop lo) := by rw [← undig_append, List.take_append_drop]
  have e2 : undig B (ds.drop lo) = undig B ((ds.drop lo).take K) + B ^ ((ds.drop lo).take K).length * undig B ((ds.drop lo).drop K) := by rw [← undig_append, List.take_append_drop]
  have n4 := Int.mul_nonneg (Int.le_of_lt hp2) n3
  have n5 : 0 ≤ undig B (ds.drop lo) := by omega
  have n6 : 1 * undig B (ds.drop lo) ≤ B ^ (ds.take lo).length * undig B (ds.drop lo) := Int.mul_le_mul_of_nonneg_right (by omega) n5
  show undig B ((ds.drop lo).take K) ≤ _
  omega
/-- the whole division: the quotient's figures are worth x / y, the rest is x % y -/
theorem ldiv_whole {N : Nat} {k : Nat} {x y : Int} (hy : 0 < y) (hx : 0 ≤ x) (h : x < (2 ^ N) ^ k) (hx2 : x < 2 ^ 60) :
    undig (2 ^ N) (ldiv (2 ^ N) y (digs (2 ^ N) k x)).1 = x / y ∧ (ldiv (2 ^ N) y (digs (2 ^ N) k x)).2 = x % y ∧ (∀ lo K, 0 ≤ sl (2 ^ N) (ldiv (2 ^ N) y (digs (2 ^ N) k x)).1 lo K ∧ sl (2 ^ N) (ldiv (2 ^ N) y (digs (2 ^ N) k x)).1 lo K < 2 ^ 60) := by
  have hB : (0 : Int) < 2 ^ N := Int.pow_pos (by decide)
  obtain ⟨e, hd⟩ := digs_spec hB k x hx h
  obtain ⟨e2, r0, r1, hq⟩ := ldiv_spec hy _ hd
  rw [e] at e2
  have q0 := undig_nonneg hB _ fun d hd => (hq d hd).1
  generalize hu : undig (2 ^ N) (ldiv (2 ^ N) y (digs (2 ^ N) k x)).1 = u at *
  generalize hr : (ldiv (2 ^ N) y (digs (2 ^ N) k x)).2 = r at *
  have ediv : x / y = u := by
    rw [e2, Int.add_comm, Int.add_mul_ediv_left _ _ (Int.ne_of_gt hy), Int.ediv_eq_zero_of_lt r0 r1]; omega
  have emod : x % y = r := by
    rw [e2, Int.add_comm, Int.add_mul_emod_self_left, Int.emod_eq_of_lt r0 r1]
  refine ⟨ediv.symm, emod.symm, fun lo K => ?_⟩
  have h1 := sl_le hB (ldiv (2 ^ N) y (digs (2 ^ N) k x)).1 (fun d hd => (hq d hd).1) lo K
  rw [hu] at h1
  have h2 : u ≤ y * u := by
    have : 1 * u ≤ y * u := Int.mul_le_mul_of_nonneg_right (by omega) q0
    omega
  omega
end Mine
namespace Mine
theorem bits_pos {y : Int} (hy : 0 < y) : (0 : Int) < Builtin.Int.intBits y := by
  unfold Builtin.Int.intBits
  rw [if_neg (by rw [beq_iff_eq]; omega)]
  omega
theorem bits_lt {y : Int} (hy : y < 1048576) (h0 : 0 < y) : (Builtin.Int.intBits y : Int) < 24 := by
  unfold Builtin.Int.intBits
  rw [if_neg (by rw [beq_iff_eq]; omega)]
  have : y.natAbs.log2 < 20 := (Nat.log2_lt (by omega)).mpr (by omega)
  omega
end Mine
namespace Mine
theorem pow_le24 {n : Nat} (h : n ≤ 24) : (2 : Int) ^ n ≤ 16777216 := by
  have h9 := Nat.pow_le_pow_right (n := 2) (by decide) h
  have e : ((2 : Int) ^ n) = ((2 ^ n : Nat) : Int) := by simp
  rw [e]
  exact Int.ofNat_le.mpr h9
theorem step_small {r d y : Int} {n : Nat} (r0 : 0 ≤ r) (r1 : r < y) (hy2 : y < 1048576) (hd : 0 ≤ d ∧ d < 2 ^ n) (hn : n ≤ 24) : 0 ≤ r * 2 ^ n + d ∧ r * 2 ^ n + d < 2 ^ 60 := by
  have hp : (0 : Int) < 2 ^ n := Int.pow_pos (by decide)
  have hp2 := pow_le24 hn
  have h1 := Int.mul_nonneg r0 (Int.le_of_lt hp)
  have h2 : r * 2 ^ n ≤ 1048576 * 16777216 := Int.mul_le_mul (by omega) hp2 (Int.le_of_lt hp) (by decide)
  omega
end Mine
namespace Mine
/-- what stands behind i figures -/
def runH (B t : Int) : Nat → Int → Int
  | 0, u => u
  | i + 1, u => runH B t i u / B - runH B t i u % B * t
/-- the first i figures -/
def runF (B t : Int) : Nat → Int → List Int
  | 0, _ => []
  | i + 1, u => runF B t i u ++ [runH B t i u % B]
theorem runF_length (B t u : Int) : ∀ i, (runF B t i u).length = i
  | 0 => rfl
  | i + 1 => by rw [runF, List.length_append, runF_length B t u i]; rfl
end Mine
end
section
open PySem PySem.W PyProof.Rows PySem.Calls PySem.Spec
namespace Mine
theorem runH_succ (B t : Int) : ∀ (i : Nat) (u : Int), runH B t (i + 1) u = runH B t i (u / B - u % B * t)
  | 0, _ => rfl
  | i + 1, u => by rw [runH, runH_succ B t i u]; rfl
theorem runF_succ (B t : Int) : ∀ (i : Nat) (u : Int), runF B t (i + 1) u = u % B :: runF B t i (u / B - u % B * t)
  | 0, _ => rfl
  | i + 1, u => by rw [runF, runF_succ B t i u, runH_succ]; rfl
theorem runF_bounds {B : Int} (hB : 0 < B) (t : Int) : ∀ (i : Nat) (u : Int), ∀ d ∈ runF B t i u, 0 ≤ d ∧ d < B
  | 0, _, _, h => nomatch h
  | i + 1, u, d, h => by
    rw [runF] at h
    rcases List.mem_append.mp h with h | h
    · exact runF_bounds hB t i u d h
    · rw [List.mem_singleton.mp h]
      exact ⟨Int.emod_nonneg _ (Int.ne_of_gt hB), Int.emod_lt_of_pos _ hB⟩
theorem runF_take (B t u : Int) (i : Nat) : ∀ j, (runF B t (i + j) u).take i = runF B t i u
  | 0 => by rw [Nat.add_zero, List.take_of_length_le (Nat.le_of_eq (runF_length B t u i))]
  | j + 1 => by
    rw [← Nat.add_assoc, runF, List.take_append_of_le_length (by rw [runF_length]; omega), runF_take B t u i j]
/-- one step back: the number is its figure times the lower one, and the base times what follows -/
theorem step_back {B : Int} (t u : Int) : u = u % B * (1 + B * t) + B * (u / B - u % B * t) := by
  have h := Int.emod_add_mul_ediv u B
  have e1 : u % B * (1 + B * t) = u % B + B * (u % B * t) := by rw [Int.mul_add, Int.mul_one, Int.mul_left_comm]
  rw [e1, Int.mul_sub]
  omega
theorem runF_worth {B : Int} (t : Int) : ∀ (i : Nat) (u : Int), u = (1 + B * t) * undig B (runF B t i u) + B ^ i * runH B t i u
  | 0, u => by simp [runF, runH, undig]
  | i + 1, u => by
    have h1 := step_back (B := B) t u
    have h2 := runF_worth (B := B) t i (u / B - u % B * t)
    rw [runF_succ, runH_succ, undig]
    generalize u / B - u % B * t = v at *
    generalize undig B (runF B t i v) = a at *
    generalize runH B t i v = b at *
    rw [Int.mul_add, Int.mul_comm (1 + B * t) (u % B), Int.pow_succ, Int.mul_comm (B ^ i) B, Int.mul_assoc, Int.mul_left_comm (1 + B * t) B a, Int.add_assoc, ← Int.mul_add B, ← h2]
    exact h1
theorem cross_iff {B : Int} (hB : 0 < B) (t1 t2 : Int) : ∀ (k : Nat) (u1 u2 : Int), B ^ k ∣ u1 * (1 + B * t2) - u2 * (1 + B * t1) ↔ runF B t1 k u1 = runF B t2 k u2
  | 0, u1, u2 => by simp [runF]
  | k + 1, u1, u2 => by
    have ih := cross_iff hB t1 t2 k (u1 / B - u1 % B * t1) (u2 / B - u2 % B * t2)
    have s1 := step_back (B := B) t1 u1
    have s2 := step_back (B := B) t2 u2
    have b1 := Int.emod_nonneg u1 (Int.ne_of_gt hB)
    have b2 := Int.emod_lt_of_pos u1 hB
    have b3 := Int.emod_nonneg u2 (Int.ne_of_gt hB)
    have b4 := Int.emod_lt_of_pos u2 hB
    rw [runF_succ, runF_succ, List.cons.injEq, ← ih]
    generalize u1 / B - u1 % B * t1 = v1 at *
    generalize u2 / B - u2 % B * t2 = v2 at *
    generalize u1 % B = f1 at *
    generalize u2 % B = f2 at *
    have e : u1 * (1 + B * t2) - u2 * (1 + B * t1) = (f1 - f2) * ((1 + B * t1) * (1 + B * t2)) + B * (v1 * (1 + B * t2) - v2 * (1 + B * t1)) := by
      rw [s1, s2]
      generalize (1 + B * t1) = a
      generalize (1 + B * t2) = b
      rw [Int.add_mul, Int.add_mul, Int.sub_mul, Int.mul_sub, Int.mul_assoc f1 a b, Int.mul_assoc f2 b a, Int.mul_comm b a, Int.mul_assoc B v1, Int.mul_assoc B v2]
      omega
    have e2 : (f1 - f2) * ((1 + B * t1) * (1 + B * t2)) = (f1 - f2) + B * ((f1 - f2) * (t1 + t2 + B * (t1 * t2))) := by
      have : (1 + B * t1) * (1 + B * t2) = 1 + B * (t1 + t2 + B * (t1 * t2)) := by
        rw [Int.add_mul, Int.one_mul, Int.mul_add B (t1 + t2), Int.mul_add B t1, Int.mul_assoc B t1, Int.mul_add t1, Int.mul_one, Int.mul_add B t1, Int.mul_left_comm t1 B t2]
        omega
      rw [this, Int.mul_add, Int.mul_one, Int.mul_left_comm]
    rw [Int.pow_succ, Int.mul_comm (B ^ k) B]
    constructor
    · intro h
      have h0 : B ∣ f1 - f2 := by
        have h3 : B ∣ u1 * (1 + B * t2) - u2 * (1 + B * t1) := Int.dvd_trans ⟨B ^ k, rfl⟩ h
        rw [e, e2] at h3
        obtain ⟨c, hc⟩ := h3
        refine ⟨c - (f1 - f2) * (t1 + t2 + B * (t1 * t2)) - (v1 * (1 + B * t2) - v2 * (1 + B * t1)), ?_⟩
        rw [Int.mul_sub, Int.mul_sub, ← hc]
        omega
      have h1 : f1 = f2 := by
        obtain ⟨c, hc⟩ := h0
        have : c = 0 := by
          rcases Int.lt_trichotomy c 0 with h | h | h
          · have : B * c ≤ B * (-1) := Int.mul_le_mul_of_nonneg_left (by omega) (by omega)
            omega
          · exact h
          · have : B * 1 ≤ B * c := Int.mul_le_mul_of_nonneg_left (by omega) (by omega)
            omega
        rw [this, Int.mul_zero] at hc
        omega
      refine ⟨h1, ?_⟩
      rw [e, h1, Int.sub_self, Int.zero_mul, Int.zero_add] at h
      exact Int.dvd_of_mul_dvd_mul_left (Int.ne_of_gt hB) h
    · rintro ⟨h1, h2⟩
      rw [e, h1, Int.sub_self, Int.zero_mul, Int.zero_add]
      exact Int.mul_dvd_mul_left B h2
end Mine
namespace Mine
/-- a path's signs -/
def segL (f : Int) : List Nat := 47 :: List.replicate (f + 1).toNat 97
def pathL (ds : List Int) : List Nat := ds.flatMap segL
theorem rep_prefix : ∀ (a b : Nat) (X Y : List Nat), (∀ c r, Y = c :: r → c ≠ 97) → List.replicate a 97 ++ 47 :: X <+: List.replicate b 97 ++ Y → a = b ∧ 47 :: X <+: Y
  | 0, 0, _, _, _, h => ⟨rfl, by simpa using h⟩
  | 0, b + 1, X, Y, _, h => by
    rw [List.replicate_succ, List.cons_append, List.replicate_zero, List.nil_append, List.cons_prefix_cons] at h
    exact absurd h.1 (by decide)
  | a + 1, 0, X, Y, hY, h => by
    rw [List.replicate_succ, List.cons_append, List.replicate_zero, List.nil_append] at h
    obtain ⟨r, hr⟩ := h
    exact absurd rfl (hY 97 _ hr.symm)
  | a + 1, b + 1, X, Y, hY, h => by
    rw [List.replicate_succ, List.replicate_succ, List.cons_append, List.cons_append, List.cons_prefix_cons] at h
    obtain ⟨e, h2⟩ := rep_prefix a b X Y hY h.2
    exact ⟨by omega, h2⟩
theorem path_head (ds : List Int) : ∀ c r, pathL ds = c :: r → c ≠ 97 := by
  intro c r h
  cases ds with
  | nil => cases h
  | cons d q =>
    unfold pathL at h
    rw [List.flatMap_cons, segL, List.cons_append, List.cons.injEq] at h
    rw [← h.1]; decide
theorem path_pre : ∀ ds es : List Int, (∀ d ∈ ds, 0 ≤ d) → (∀ d ∈ es, 0 ≤ d) → (pathL ds ++ [47] <+: pathL es ↔ ds <+: es ∧ ds.length < es.length)
  | [], [], _, _ => by simp [pathL]
  | [], e :: q, _, _ => by simp [pathL, segL]
  | d :: r, [], _, _ => by simp [pathL, segL]
  | d :: r, e :: q, h1, h2 => by
    have ih := path_pre r q (fun x hx => h1 x (.tail _ hx)) (fun x hx => h2 x (.tail _ hx))
    have d0 := h1 d (.head _)
    have e0 := h2 e (.head _)
    have u1 : pathL (d :: r) ++ [47] = 47 :: (List.replicate (d + 1).toNat 97 ++ (pathL r ++ [47])) := by simp [pathL, segL]
    have u2 : pathL (e :: q) = 47 :: (List.replicate (e + 1).toNat 97 ++ pathL q) := by simp [pathL, segL]
    rw [u1, u2, List.cons_prefix_cons, List.cons_prefix_cons]
    constructor
    · rintro ⟨_, h⟩
      obtain ⟨X, hX⟩ : ∃ X, pathL r ++ [47] = 47 :: X := by
        cases r with
        | nil => exact ⟨_, rfl⟩
        | cons a b => exact ⟨_, by unfold pathL; rw [List.flatMap_cons, segL, List.cons_append, List.cons_append]⟩
      rw [hX] at h
      obtain ⟨a, b⟩ := rep_prefix _ _ _ _ (path_head q) h
      rw [← hX, ih] at b
      exact ⟨⟨by omega, b.1⟩, by simpa using b.2⟩
    · rintro ⟨⟨rfl, h⟩, hl⟩
      refine ⟨rfl, ?_⟩
      rw [List.prefix_append_right_inj, ih]
      exact ⟨h, by simpa using hl⟩
theorem path_inj {ds es : List Int} (h1 : ∀ d ∈ ds, 0 ≤ d) (h2 : ∀ d ∈ es, 0 ≤ d) : pathL ds = pathL es ↔ ds = es := by
  constructor
  · intro h
    have a : ds <+: es ++ [0] ∧ ds.length < (es ++ [0]).length := (path_pre ds (es ++ [0]) h1 (fun d hd => by
      rcases List.mem_append.mp hd with hd | hd
      · exact h2 d hd
      · rw [List.mem_singleton.mp hd]; decide)).mp ⟨[97], by rw [h]; simp [pathL, segL]⟩
    have b : es <+: ds ++ [0] ∧ es.length < (ds ++ [0]).length := (path_pre es (ds ++ [0]) h2 (fun d hd => by
      rcases List.mem_append.mp hd with hd | hd
      · exact h1 d hd
      · rw [List.mem_singleton.mp hd]; decide)).mp ⟨[97], by rw [← h]; simp [pathL, segL]⟩
    rw [List.length_append, List.length_singleton] at a b
    have hl : ds.length = es.length := by omega
    have c := List.prefix_of_prefix_length_le a.1 (List.prefix_append es [0]) (by omega)
    exact c.eq_of_length hl
  · rintro rfl; rfl
theorem path_last (ds : List Int) (h : ∀ d ∈ ds, 0 ≤ d) (r : List Nat) : pathL ds ≠ r ++ [47] := by
  intro e
  rcases List.eq_nil_or_concat ds with rfl | ⟨q, d, rfl⟩
  · simp [pathL] at e
  · have d0 := h d (by simp)
    obtain ⟨k, hk⟩ : ∃ k, (d + 1).toNat = k + 1 := ⟨d.toNat, by omega⟩
    have : pathL (q ++ [d]) = (pathL q ++ 47 :: List.replicate k 97) ++ [97] := by
      simp [pathL, segL, hk, List.replicate_succ']
    rw [List.concat_eq_append, this] at e
    have := (List.append_inj' e rfl).2
    cases this
end Mine
namespace Mine
open Builtin Builtin.Str
theorem cps_ext {a b : Str} (h : a.cps.toList = b.cps.toList) : a = b := Str.ext' (Array.toList_inj.mp h)
theorem cps_app (a b : Str) : (a ++ b).cps.toList = a.cps.toList ++ b.cps.toList := by rw [Str.cps_append, Array.toList_append]
theorem cps_len (a : Str) : a.length = a.cps.toList.length := rfl
theorem starts_iff (T P : Str) : Txt.startswith T P = true ↔ P.cps.toList <+: T.cps.toList := by
  unfold Txt.startswith
  rw [Bool.and_eq_true, decide_eq_true_eq, StrLaws.subAt_eq, beq_iff_eq, List.drop_zero, cps_len P]
  rw [List.prefix_iff_eq_take]
  constructor
  · rintro ⟨_, h⟩; exact h.symm
  · intro h
    refine ⟨?_, h.symm⟩
    have := congrArg List.length h
    rw [List.length_take] at this
    have : T.length = T.cps.toList.length := rfl
    omega
theorem slash_cps : (Str.ofString "/").cps.toList = [47] := by decide +kernel
theorem a_cps : Str.ofString "a" = ⟨#[97]⟩ := by decide +kernel
theorem last_iff (P : Str) : (Txt.slice P (some (-1)) none = Str.ofString "/") ↔ ∃ r, P.cps.toList = r ++ [47] := by
  by_cases h0 : P.length = 0
  · have e : P = Str.empty := cps_ext (by rw [cps_len] at h0; rw [List.length_eq_zero_iff.mp h0]; rfl)
    subst e
    constructor
    · intro h; exact absurd h (by decide +kernel)
    · rintro ⟨r, h⟩
      have := congrArg List.length h
      rw [List.length_append, List.length_singleton] at this
      exact absurd this (by show (0 : Nat) ≠ _; omega)
  · have hp : 0 < P.length := by omega
    have e : Txt.slice P (some (-1)) none = Txt.slice P (some ((P.length : Int) - 1)) none := by
      unfold Txt.slice
      have : strSliceIndices (some (-1)) none 1 P.length = strSliceIndices (some ((P.length : Int) - 1)) none 1 P.length := by
        have h1 : ¬ ((P.length : Int) - 1 < 0) := by omega
        have h2 : (-1 : Int) < 0 := by decide
        have h3 : (-1 : Int) + (P.length : Int) = (P.length : Int) - 1 := by omega
        simp only [strSliceIndices, h1, h2, h3, if_false, if_true]
      rw [this]
    rw [e, slice_from_eq (b := (P.length : Int)) (by omega) (by omega) rfl]
    have e1 : ((P.length : Int) - 1).toNat = P.length - 1 := by omega
    have e2 : ((P.length : Int) - ((P.length : Int) - 1)).toNat = 1 := by omega
    rw [e1, e2]
    have hl : P.length = P.cps.toList.length := rfl
    constructor
    · intro h
      have h' := congrArg (fun z : Str => z.cps.toList) h
      simp only [slash_cps] at h'
      refine ⟨P.cps.toList.take (P.length - 1), ?_⟩
      conv => lhs; rw [← List.take_append_drop (P.length - 1) P.cps.toList]
      congr 1
      rw [← h', List.take_of_length_le (by rw [List.length_drop]; omega)]
    · rintro ⟨r, h⟩
      have hr : P.length - 1 = r.length := by rw [hl, h, List.length_append, List.length_singleton]; omega
      refine cps_ext ?_
      rw [slash_cps, hr, h, List.drop_append_of_le_length (Nat.le_refl _), List.drop_length, List.nil_append]
      rfl
/-- what is_suburi says of two paths -/
theorem sub_paths {P T : Str} {ds es : List Int} {sl : Int} (h1 : ∀ d ∈ ds, 0 ≤ d) (h2 : ∀ d ∈ es, 0 ≤ d) (hP : P.cps.toList = pathL ds) (hT : T.cps.toList = pathL es) (hs : sl = 0 ∨ sl = 1) :
    ((P ++ Txt.mul (Str.ofString "/") sl == T) || (if (Txt.slice (P ++ Txt.mul (Str.ofString "/") sl) (some (-1)) none != Str.ofString "/") = true then Txt.startswith T ((P ++ Txt.mul (Str.ofString "/") sl) ++ Str.ofString "/") else Txt.startswith T (P ++ Txt.mul (Str.ofString "/") sl))) = true
      ↔ (sl = 0 ∧ ds = es) ∨ (ds <+: es ∧ ds.length < es.length) := by
  rcases hs with rfl | rfl
  · have e0 : P ++ Txt.mul (Str.ofString "/") 0 = P := Str.append_empty P
    rw [e0]
    have hn : (Txt.slice P (some (-1)) none != Str.ofString "/") = true := by
      rw [bne_iff_ne]
      intro h
      obtain ⟨r, hr⟩ := (last_iff P).mp h
      exact path_last ds h1 r (hP.symm.trans hr)
    rw [if_pos hn, Bool.or_eq_true, beq_iff_eq, starts_iff, cps_app, slash_cps, hP, hT, path_pre ds es h1 h2]
    have : P = T ↔ ds = es := by
      rw [← path_inj h1 h2, ← hP, ← hT]
      exact ⟨fun h => by rw [h], cps_ext⟩
    rw [this]
    simp
  · have e1 : Txt.mul (Str.ofString "/") 1 = Str.ofString "/" := by decide +kernel
    rw [e1]
    have hn : ¬ ((Txt.slice (P ++ Str.ofString "/") (some (-1)) none != Str.ofString "/") = true) := by
      rw [bne_iff_ne, Classical.not_not]
      exact (last_iff _).mpr ⟨_, by rw [cps_app, slash_cps]⟩
    rw [if_neg hn, Bool.or_eq_true, beq_iff_eq, starts_iff, cps_app, slash_cps, hP, hT, path_pre ds es h1 h2]
    constructor
    · rintro (h | h)
      · have := congrArg (fun z : Str => z.cps.toList) h
        simp only [cps_app, slash_cps, hP, hT] at this
        exact absurd this.symm (path_last es h2 _)
      · exact .inr h
    · rintro (h | h)
      · exact absurd h.1 (by decide)
      · exact .inr h
/-- the law of two fractions -/
theorem law_iff {B t1 t2 u1 u2 : Int} (hB : 0 < B) {k : Nat} (hk : k < 5) {sl : Int} (hs : sl = 0 ∨ sl = 1) :
    (sl = 0 ∧ (runF B t1 4 u1).take k = runF B t2 4 u2) ∨ ((runF B t1 4 u1).take k <+: runF B t2 4 u2 ∧ ((runF B t1 4 u1).take k).length < (runF B t2 4 u2).length)
      ↔ (u1 * (1 + B * t2) - u2 * (1 + B * t1)) % B ^ k = 0 ∧ (k : Int) + sl < 5 := by
  obtain ⟨j, hj⟩ : ∃ j, 4 = k + j := ⟨4 - k, by omega⟩
  have e1 : (runF B t1 4 u1).take k = runF B t1 k u1 := by rw [hj]; exact runF_take ..
  have e2 : (runF B t2 4 u2).take k = runF B t2 k u2 := by rw [hj]; exact runF_take ..
  have d : (u1 * (1 + B * t2) - u2 * (1 + B * t1)) % B ^ k = 0 ↔ runF B t1 k u1 = runF B t2 k u2 := by
    rw [← cross_iff hB]
    exact ⟨Int.dvd_of_emod_eq_zero, Int.emod_eq_zero_of_dvd⟩
  rw [d, e1, runF_length, runF_length, List.prefix_iff_eq_take, runF_length, e2]
  by_cases h4 : k = 4
  · subst h4
    constructor
    · rintro (⟨a, b⟩ | ⟨_, b⟩)
      · exact ⟨b, by omega⟩
      · omega
    · rintro ⟨a, b⟩
      exact .inl ⟨by omega, a⟩
  · constructor
    · rintro (⟨_, b⟩ | ⟨a, b⟩)
      · have := congrArg List.length b
        rw [runF_length, runF_length] at this
        omega
      · exact ⟨a, by omega⟩
    · rintro ⟨a, b⟩
      exact .inr ⟨a, by omega⟩
end Mine
end
section
open PySem PySem.W PyProof.Rows PySem.Calls PySem.Spec
namespace Mine
theorem runH_bound {B t : Int} (hB : 2 ≤ B) (hB2 : B ≤ 6) (ht : -30 ≤ t) (ht2 : t ≤ 30) {u : Int} (hu : -100000 ≤ u) (hu2 : u ≤ 100000) : ∀ i, -100000 ≤ runH B t i u ∧ runH B t i u ≤ 100000
  | 0 => ⟨hu, hu2⟩
  | i + 1 => by
    obtain ⟨a, b⟩ := runH_bound hB hB2 ht ht2 hu hu2 i
    rw [runH]
    generalize runH B t i u = h at *
    have h0 := Int.emod_nonneg h (show B ≠ 0 by omega)
    have h1 := Int.emod_lt_of_pos h (show 0 < B by omega)
    have hm := Int.emod_add_mul_ediv h B
    generalize h % B = f at *
    generalize h / B = q at *
    have m1 : f * t ≤ 6 * 30 := by
      rcases Int.le_total 0 t with z | z
      · exact Int.mul_le_mul (by omega) ht2 z (by decide)
      · have := Int.mul_nonneg h0 (show 0 ≤ -t by omega)
        rw [Int.mul_neg] at this
        omega
    have m2 : -(6 * 30) ≤ f * t := by
      rcases Int.le_total 0 t with z | z
      · have := Int.mul_nonneg h0 z; omega
      · have : f * (-t) ≤ 6 * 30 := Int.mul_le_mul (by omega) (by omega) (by omega) (by decide)
        rw [Int.mul_neg] at this
        omega
    rcases Int.le_total 0 q with z | z
    · have : 2 * q ≤ B * q := Int.mul_le_mul_of_nonneg_right hB z
      omega
    · have : 2 * (-q) ≤ B * (-q) := Int.mul_le_mul_of_nonneg_right hB (by omega)
      rw [Int.mul_neg B] at this
      omega
def small (ds : List Int) : Prop := ∀ d ∈ ds, 0 ≤ d ∧ d < 6
theorem path_len : ∀ ds : List Int, small ds → (pathL ds).length ≤ 7 * ds.length
  | [], _ => Nat.le_refl _
  | d :: r, h => by
    have := path_len r fun x hx => h x (.tail _ hx)
    have := h d (.head _)
    unfold pathL at *
    rw [List.flatMap_cons, List.length_append, segL, List.length_cons, List.length_replicate, List.length_cons]
    omega
theorem path_ok (P : Str) {ds : List Int} (h : P.cps.toList = pathL ds) : PyData.strOk P = true := by
  unfold PyData.strOk
  rw [Array.all_eq_true']
  intro c hc
  have hc' : c ∈ pathL ds := by rw [← h]; exact Array.mem_toList_iff.mpr hc
  unfold pathL at hc'
  obtain ⟨d, _, hd⟩ := List.mem_flatMap.mp hc'
  rcases List.mem_cons.mp hd with rfl | hd
  · decide
  · rw [(List.mem_replicate.mp hd).2]; decide
theorem join_cps : ∀ ss : List Str, (Str.join Str.empty ss).cps.toList = ss.flatMap fun x => x.cps.toList
  | [] => rfl
  | [x] => by simp [Str.join]
  | x :: y :: r => by
    have h := join_cps (y :: r)
    show (x ++ Str.empty ++ Str.join Str.empty (y :: r)).cps.toList = _
    rw [Str.append_empty, cps_app, h]; simp
/-- a folder's name -/
def segS (f : Int) : Str := Str.ofString "/" ++ Txt.mul (Str.ofString "a") (f + 1)
theorem segS_cps (f : Int) : (segS f).cps.toList = segL f := by
  unfold segS segL
  rw [cps_app, slash_cps, a_cps, mul_one_list]
  rfl
def pathS (ds : List Int) : Str := Txt.join Str.empty (ds.map segS)
theorem pathS_cps (ds : List Int) : (pathS ds).cps.toList = pathL ds := by
  unfold pathS Txt.join
  rw [StrLaws.glued_eq_join, join_cps, List.flatMap_map]
  unfold pathL
  congr 1
  funext f
  exact segS_cps f
theorem pathS_ok {ds : List Int} : PyData.strOk (pathS ds) = true := path_ok _ (pathS_cps ds)
theorem pathS_len {ds : List Int} (h : small ds) : (pathS ds).length ≤ 7 * ds.length := by
  rw [cps_len, pathS_cps]; exact path_len ds h
theorem ok_app {a b : Str} (h1 : PyData.strOk a = true) (h2 : PyData.strOk b = true) : PyData.strOk (a ++ b) = true := by
  unfold PyData.strOk at *
  rw [Str.cps_append, Array.all_append, h1, h2]; rfl
theorem slash_ok {P : Str} {i : Int} (h : PyData.strOk P = true) (hl : P.length ≤ 900) (h0 : 0 ≤ i) (h1 : i ≤ 1) : (P ++ Txt.mul (Str.ofString "/") i).length ≤ 1000 ∧ PyData.strOk (P ++ Txt.mul (Str.ofString "/") i) = true := by
  have : i = 0 ∨ i = 1 := by omega
  rcases this with rfl | rfl
  · have e0 : P ++ Txt.mul (Str.ofString "/") 0 = P := Str.append_empty P
    rw [e0]; exact ⟨by omega, h⟩
  · have e1 : Txt.mul (Str.ofString "/") 1 = Str.ofString "/" := by decide +kernel
    rw [e1, Str.length_append]
    exact ⟨by have : (Str.ofString "/").length = 1 := by decide +kernel
              omega, ok_app h (by decide +kernel)⟩
end Mine
end
section
open PySem PySem.W PyProof.Rows PySem.Calls PySem.Spec
namespace Mine
theorem mul_bound {P h : Int} (h0 : 0 < P) (h1 : P ≤ 1296) (hb : -100000 ≤ h ∧ h ≤ 100000) : -129600000 ≤ P * h ∧ P * h ≤ 129600000 := by
  constructor
  · have : P * (-h) ≤ 1296 * 100000 := by
      rcases Int.le_total 0 (-h) with z | z
      · exact Int.mul_le_mul h1 (by omega) z (by decide)
      · have := Int.mul_nonneg (Int.le_of_lt h0) (show 0 ≤ h by omega)
        rw [Int.mul_neg]; omega
    rw [Int.mul_neg] at this; omega
  · rcases Int.le_total 0 h with z | z
    · have : P * h ≤ 1296 * 100000 := Int.mul_le_mul h1 (by omega) z (by decide)
      omega
    · have := Int.mul_nonneg (Int.le_of_lt h0) (show 0 ≤ -h by omega)
      rw [Int.mul_neg] at this; omega
end Mine
end
section
open PySem PySem.W PyProof.Rows PySem.Calls PySem.Spec
namespace Mine
def st7 : Stmt := sAt 7 PySem.Challenge.pw_pg0188_01.main.body
def in1 : Stmt := sAt 1 (sBody st7)

def CodeO (o : Obj) (q : Str) : Prop := ∃ vs t, o.data = .fields vs ∧ vs[1]? = some (.str q t)

abbrev Inner1 (w : World) (p : Program) (loose : List Str) (mean : ExcName → Option Value) (mg mb : Str → Option Value) (f c cN cA cF D : Addr) (oc oN oA oF : Obj) (qual : Str) (doc pm ctv : Value) (n : Int) (base : Heap) (c0 : Nat) (K : Nat) : Prop :=
  ∀ (dp un : Nat) (gd : Option (List Code)) (cn : Str) (cs : Scope) (a : Addr) (ccd : Value) (cl : List (Str × Addr)) (outer : List Env) (A₀ : Around) (h₀ : Heap) (L : Addr) (m : Str → Option Value) (s : Shared)
    (Q E : Value → Shared → Prop) (vs : List Value) (ns : List Int) (x lo hi : Int) (tx tl th : Tok),
    Below A₀ base outer h₀ → Fr h₀ L s.heap m → (Mine.hd.heap_39 w.params).In h₀ → Top p loose mean mg mb h₀ → cs.kind = .function →
    News h₀ L s.heap [(D, W.listOf vs.toArray c0), (cF, oF), (cA, oA), (cN, oN), (f, fnMade (Str.ofString "inner") qual (sArgs in1) (sBody in1) (sScope in1) [(Str.ofString "n", cN), (Str.ofString "inner", cF), (Str.ofString "a_digits", cA)] doc pm c ctv)] → s.heap.get? c = some oc →
    IntsAre vs ns → dp + K < recursionLimit → un + 8 * K < cLine →
    1 ≤ K → 0 ≤ lo → lo + K = hi → hi ≤ ns.length → ns.length ≤ 256 → 0 ≤ x → x < 2 ^ (n.toNat * K) → x < 2 ^ 60 →
    (∀ vs' h' tk', KB [D] s.heap h' → h'.get? D = some (W.listOf vs'.toArray c0) → IntsAre vs' (splice ns lo.toNat (digs (2 ^ n.toNat) K x)) → Q .none { s with heap := h', toks := tk' }) →
    wpAny (model PySem.Challenge.rw_pg0188_01.row.prog w) (ktrTop dp un gd cn cs L a ccd cl outer) (call (.ref f) [.int x tx, .int lo tl, .int hi th]) Q E s

theorem codeRec_of_codeO {h : Heap} {c : Addr} {oc : Obj} {q : Str} (hm : h.get? c = some oc) (hc : CodeO oc q) : h.CodeRec (.ref c) q :=
  let ⟨vs, t, hd, hv⟩ := hc
  ⟨c, oc, vs, t, rfl, hm, hd, hv⟩
theorem half_facts {lo hi q1 : Int} {K1 K2 : Nat} (h1 : 2 * q1 ≤ lo + hi) (h2 : lo + hi < 2 * q1 + 2) (e1 : lo + K1 = q1) (e2 : q1 + K2 = hi) (hne : lo + 1 ≠ hi) (hK : 1 ≤ K1 + K2) : 1 ≤ K1 ∧ 1 ≤ K2 := by omega
set_option maxRecDepth 100000 in
set_option maxHeartbeats 8000000 in
theorem inner1 {w : World} {p : Program} {loose : List Str} {mean : ExcName → Option Value} {mg mb : Str → Option Value} {f c cN cA cF D : Addr} {oc oN oA oF : Obj} {qual : Str} {doc pm ctv : Value} {n : Int} {tn : Tok} {base : Heap} {c0 : Nat}
    (C1 : CodeHd base 91 87) (hc : CodeO oc qual) (hN : oN.data = .cell (some (.int n tn))) (hA : oA.data = .cell (some (.ref D))) (hF : oF.data = .cell (some (.ref f))) (hn : 0 < n) (hn2 : n < 60)
    (hD : @Ne Nat D cF ∧ @Ne Nat D cA ∧ @Ne Nat D cN ∧ @Ne Nat D f ∧ @Ne Nat c D ∧ @Ne Nat c cF ∧ @Ne Nat c cA ∧ @Ne Nat c cN ∧ @Ne Nat c f) : ∀ K : Nat, Inner1 w p loose mean mg mb f c cN cA cF D oc oN oA oF qual doc pm ctv n base c0 K := by
  k_with "binaryOp RShift int int" => (refine Mine.rshX (by omega) (by omega) ?_; k_whole; intro _ _ _ _)
  k_with "binaryOp RShift int int" => (refine Mine.rsh1 ?_; intro _ _ _)
  k_with "binaryOp Mult int int" => (refine Mine.mulX (by omega) (by omega) (by omega) (by omega) ?_; k_whole; intro _ _ _ _)
  k_with "binaryOp LShift int int" => (refine Mine.lshX (by omega) (by omega) (by omega) (by omega) ?_; k_whole; intro _ _)
  k_with "ne" => (refine neN ?_; (try dsimp only); first | with_reducible assumption | exact Ne.symm (by with_reducible assumption) | exact Nat.ne_of_lt (by with_reducible assumption) | exact Nat.ne_of_gt (by with_reducible assumption) | omega)
  intro K
  induction K using Nat.strongRecOn with
  | ind K IH =>
  intro dp un gd cn cs a ccd cl outer A₀ h₀ L m s Q E vs ns x lo hi tx tl th
  k_fill
  intro B F X T hk N hcs hi1 hdp hun hK hlo hhi hlen hlen2 hx hx2 hx3 hret
  refine wpAny_call ?_
  refine enterF B F N T.nolimit rfl rfl hk (News.get N (by k_mem)) rfl (codeRec_of_codeO hcs hc) (by ktr_room) (BindsTo.of_eq rfl) (locs rfl) ?_ (by decide) rfl rfl rfl
  intro g' L' h' kb' hl' F' N' B' st'
  have X' := X.keeps st'
  have T' := T.keeps st'
  clear X T
  have hcg : g'.get? c = some oc := kb' c oc (by simp only [List.map_cons, List.map_nil, List.mem_cons, List.not_mem_nil, or_false, not_or]; exact ⟨hD.2.2.2.2.1, hD.2.2.2.2.2.1, hD.2.2.2.2.2.2.1, hD.2.2.2.2.2.2.2.1, hD.2.2.2.2.2.2.2.2⟩) hcs
  have hb : sBody in1 = sBody in1 := rfl
  conv at hb => rhs; whnf
  have ha : sArgs in1 = sArgs in1 := rfl
  conv at ha => rhs; whnf
  have hs : sScope in1 = sScope in1 := rfl
  conv at hs => rhs; whnf
  rw [hb, ha, hs] at N'
  rw [ha] at F'
  rw [hb, hs, ha]
  clear hb ha hs
  dsimp only at F' N' ⊢
  obtain ⟨z1, z2, z3, z4, z5, z6, z7, z8, z9⟩ := hD
  w_on
  w_strict k_steps
  · rename News g' L' _ _ => N1
    rename Fr g' L' _ _ => F1
    rename IntsAre _ (ns.set _ _) => hi2
    rename lo + 1 = hi => e1
    obtain rfl : K = 1 := by omega
    refine hret _ _ _ (kbEnd kb' F1 N1 (fun p hp => (N p hp).1) (fun p hp hne => (List.mem_cons.mp hp).elim (fun e => absurd (congrArg Prod.fst e) hne) (fun h => .tail _ h)) (.head _)) (News.get N1 (.head _)) ?_
    rw [digs_one hx (by rw [Nat.mul_one] at hx2; exact hx2), ← splice_one (by omega)]
    exact hi2
  · rename_i tk q1 hq1a hq1b ha z1 hz1a hz1b hz1c hb q2 hq2a hq2b hq2c hcc z2 hz2a hd F1 N1
    obtain ⟨K1, hK1⟩ : ∃ K1 : Nat, lo + K1 = q1 := ⟨(q1 - lo).toNat, by omega⟩
    obtain ⟨K2, hK2⟩ : ∃ K2 : Nat, q1 + K2 = hi := ⟨(hi - q1).toNat, by omega⟩
    obtain rfl : K = K1 + K2 := by omega
    rename 2 * q1 ≤ lo + hi => hAa
    rename lo + hi < 2 * q1 + 2 => hBb
    rename lo + 1 ≠ hi => hCc
    obtain ⟨k1p, k2p⟩ := half_facts hAa hBb hK1 hK2 hCc hK
    clear hAa hBb hCc hK
    have ez : z1.toNat = n.toNat * K1 := by
      have : (q1 - lo) = K1 := by omega
      rw [this] at hz1a
      have h2 : z1 = ((n.toNat * K1 : Nat) : Int) := by rw [hz1a, Int.natCast_mul, Int.toNat_of_nonneg (by omega), Int.mul_comm]
      omega
    rw [ez] at hq2a hz2a
    have ex : Builtin.bitXor x z2 = x % 2 ^ (n.toNat * K1) := by rw [hz2a, hq2a]; exact xor_shift hx _
    obtain ⟨f1, f2, f3, f4, f5, f6⟩ := step_facts (K1 := K1) (K2 := K2) hx hx2
    rw [ex]
    simp only [List.nil_append]
    refine IH K1 (by omega) _ _ _ _ _ _ _ _ _ _ _ _ _ _ _ _ vs ns _ lo q1 _ _ _ B' F1 X' T' rfl N1 (F1.keep c oc hcg) hi1 (by ktr_room) (by ktr_units) (by omega) hlo hK1 (by omega) hlen2 f1 f2 (by omega) ?_
    intro vs1 h1 tk1 kb1 hD1 hi2
    have F2 := frKB F1 kb1 (fun h => (N1 (D, _) (.head _)).2.1 (List.mem_singleton.mp h).symm) (fun d hd => by rw [List.mem_singleton.mp hd]; exact (N1 (D, _) (.head _)).2.2)
    have N2 := newsKB1 N1 kb1 hD1 (by k_all)
    clear F1 N1
    w_strict k_steps
    have hl1 := splice_length (ns := ns) (lo := lo.toNat) (ds := digs (2 ^ n.toNat) K1 (x % 2 ^ (n.toNat * K1))) (by rw [digs_length]; omega)
    rw [hq2a]
    simp only [List.nil_append]
    refine IH K2 (by omega) _ _ _ _ _ _ _ _ _ _ _ _ _ _ _ _ vs1 _ _ q1 hi _ _ _ B' F2 X' T' rfl N2 (F2.keep c oc hcg) hi2 (by ktr_room) (by ktr_units) (by omega) (by omega) hK2 (by omega) (by omega) f4 f5 (by omega) ?_
    intro vs2 h2 tk2 kb2 hD2 hi3
    have F3 := frKB F2 kb2 (fun h => (N2 (D, _) (.head _)).2.1 (List.mem_singleton.mp h).symm) (fun d hd => by rw [List.mem_singleton.mp hd]; exact (N2 (D, _) (.head _)).2.2)
    have N3 := newsKB1 N2 kb2 hD2 (by k_all)
    clear F2 N2
    w_strict k_steps
    refine hret _ _ _ (kbEnd kb' F3 N3 (fun p hp => (N p hp).1) (fun p hp hne => (List.mem_cons.mp hp).elim (fun e => absurd (congrArg Prod.fst e) hne) (fun h => .tail _ h)) (.head _)) (News.get N3 (.head _)) ?_
    have e3 := splice_splice (ns := ns) (lo := lo.toNat) (d1 := digs (2 ^ n.toNat) K1 (x % 2 ^ (n.toNat * K1))) (d2 := digs (2 ^ n.toNat) K2 (x / 2 ^ (n.toNat * K1))) (by rw [digs_length, digs_length]; omega)
    rw [digs_length] at e3
    rw [f6, ← e3, show lo.toNat + K1 = q1.toNat by omega]
    exact hi3
  k_with_none
end Mine
end
section
open PySem PySem.W PyProof.Rows PySem.Calls PySem.Spec
namespace Mine
def Q87 : Str := Str.ofString "_int2digits.<locals>.inner"
/-- the table of codes at P is o: empty, or it holds the one code e of the def at ln, cl -/
def TabL (P : Addr) (ln cl : Nat) (q : Str) (o : Obj) (e : Addr) (oe : Obj) : Prop :=
  (o = tabObj #[] ∧ e = P ∧ oe = tabObj #[]) ∨ (o = tabObj #[rawInt ln, rawInt cl, .ref e] ∧ CodeO oe q ∧ @Ne Nat e P)

/-- the table's code is the one it was, or there was none and it is new -/
def NewCode (P e : Addr) (x : Obj) (e' : Addr) (x' : Obj) (h : Heap) : Prop := (e' = e ∧ x' = x) ∨ (e = P ∧ h.get? e' = none)
theorem NewCode.weak {P e : Addr} {x : Obj} {e' : Addr} {x' : Obj} {h : Heap} (n : NewCode P e x e' x' h) : e' = e ∨ h.get? e' = none := n.elim (fun n => .inl n.1) fun n => .inr n.2
abbrev Int2D (w : World) (p : Program) (loose : List Str) (mean : ExcName → Option Value) (mg mb : Str → Option Value) (base : Heap) : Prop :=
  ∀ (dp un : Nat) (gd : Option (List Code)) (cn : Str) (cs : Scope) (a : Addr) (ccd : Value) (cl : List (Str × Addr)) (outer : List Env) (A₀ : Around) (h₀ : Heap) (L : Addr) (m : Str → Option Value) (s : Shared)
    (Q E : Value → Shared → Prop) (x n : Int) (tx tn : Tok) (o oe : Obj) (e : Addr),
    Below A₀ base outer h₀ → Fr h₀ L s.heap m → (Mine.hd.heap_39 w.params).In h₀ → Top p loose mean mg mb h₀ → cs.kind = .function →
    h₀.get? 87 = none → @Ne Nat 87 L → TabL 87 59 4 Q87 o e oe → s.heap.get? 87 = some o → s.heap.get? e = some oe → dp + 200 < recursionLimit → un + 1600 < cLine →
    0 ≤ x → x < 2 ^ 60 → 0 < n → n < 60 →
    (∀ D vs' h' tk' o' e' oe', KB [87] s.heap h' → s.heap.objs.size ≤ D → h'.get? D = some (W.listOf vs'.toArray 0) → TabL 87 59 4 Q87 o' e' oe' → h'.get? 87 = some o' → h'.get? e' = some oe' → NewCode 87 e oe e' oe' s.heap → IntsAre vs' (digs (2 ^ n.toNat) (cnt x n).toNat x) → Q (.ref D) { s with heap := h', toks := tk' }) →
    wpAny (model PySem.Challenge.rw_pg0188_01.row.prog w) (ktrTop dp un gd cn cs L a ccd cl outer) (call (.ref 92) [.int x tx, .int n tn]) Q E s

theorem news1 {h₀ h : Heap} {L P : Addr} {o : Obj} (h1 : h.get? P = some o) (h2 : @Ne Nat P L) (h3 : h₀.get? P = none) : News h₀ L h [(P, o)] :=
  fun p hp => by rw [List.mem_singleton.mp hp]; exact ⟨h1, h2, h3⟩
theorem ints_rep (t : Tok) : ∀ k : Nat, IntsAre (List.replicate k (Value.int 0 t)) (List.replicate k (0 : Int))
  | 0 => .nil
  | k + 1 => .cons 0 t (ints_rep t k)
section
variable {prog : Program} {w : World} {A : Around} {E : Value → Shared → Prop} {s : Shared} {h₀ : Heap} {L : Addr} {m : Str → Option Value} {news : List (Addr × Obj)} {l : Addr} {vs : List Value} {c : Nat} {Q : Value → Shared → Prop}
theorem lenN {k : Int} (N : News h₀ L s.heap news) (hm : (l, W.listOf vs.toArray c) ∈ news) (e : (vs.length : Int) = k) (hs : k ≤ 1048576) (h : ∀ t tk, Q (.int k t) { s with toks := tk }) : wpAny (model prog w) A (call (.builtin "len") [.ref l]) Q E s := by
  subst e
  refine Calls.call_len_list (News.isList N hm) (by rw [List.size_toArray]; omega) ?_
  rw [List.size_toArray]
  exact h _ _
theorem lenRep {k : Int} {v : Value} (N : News h₀ L s.heap news) (hm : (l, W.listOf (List.replicate k.toNat v).toArray c) ∈ news) (h0 : 0 ≤ k) (hs : k ≤ 1048576) (h : ∀ t tk, Q (.int k t) { s with toks := tk }) : wpAny (model prog w) A (call (.builtin "len") [.ref l]) Q E s :=
  lenN N hm (by rw [List.length_replicate]; omega) hs h
end

set_option maxRecDepth 100000 in
set_option maxHeartbeats 8000000 in
theorem int2d {w : World} {p : Program} {loose : List Str} {mean : ExcName → Option Value} {mg mb : Str → Option Value} {base : Heap} (C1 : CodeHd base 91 87) : Int2D w p loose mean mg mb base := by
  k_with "call builtin:len" => (refine' Mine.lenRep (by k_asm) (by k_mem) (by omega) (by omega) ?_; k_whole; intro _ _)
  k_with "binaryOp Mult ref int" => (refine' Mine.mulRep (by k_asm) (by k_asm) (by k_mem) (by first | with_reducible assumption | omega) (by omega) ?_; k_whole; (intro _ _ _ _); walk_at "my lt"; (try k_sweep))
  intro dp un gd cn cs a ccd cl outer A₀ h₀ L m s Q E x n tx tn o oe e
  k_fill
  intro B F X T hk h87 hL ht hg1 hg2 hdp hun hx hx2 hn hn2 hret
  obtain ⟨c1, c2, c3, c4, c5⟩ := cnt_facts hx hx2 hn hn2
  refine wpAny_call ?_
  rcases ht with ⟨rfl, rfl, rfl⟩ | ⟨rfl, hco, hcP⟩
  · have N := news1 hg1 hL h87
    k_dflt ((refine' Mine.enterKC ?k1v1 ?k2v1 ?k3v1 ?k4v1 ?k5v1 ?kAv1 ?kFv1 ?kKv1 ?k6v1 ?k7v1 ?k8v1 ?k9v1 ?kBv1 ?kDv1 ?_ ?c2v1 ?c3v1 ?c4v1; (case kAv1 => exact rfl); (case kFv1 => exact rfl); (case kKv1 => first | exact rfl | assumption); (case k1v1 => k_asm); (case k2v1 => k_asm); (case k3v1 => k_asm); (case k4v1 => k_asm); (case k5v1 => k_asm); (case k6v1 => k_is); (case k7v1 => k_is); (case k8v1 => ktr_room); (case k9v1 => exact BindsTo.of_eq rfl); (case kBv1 => exact rfl); (case kDv1 => decide +kernel); (case c2v1 => exact rfl); (case c3v1 => exact rfl); (case c4v1 => exact rfl); k_whole))
    intro g' L' h' tk' cells' kb' hl' F' N' Y' B' X' T' l1
    k_lt l1; k_cells Y'; (try simp only [List.cons_append, List.nil_append] at N'); (try dsimp only)
    clear X T
    w_on
    w_strict k_steps
    change wpAny _ _ (binaryOp _ _ (Value.int (cnt x n) _)) _ _ _
    generalize hd : cnt x n = d at *
    w_strict k_steps
    · rename (_ : Obj).data = Data.fields _ => d1
      rename _ = some (Value.str _ _) => d2
      have hco := (⟨_, _, d1, d2⟩ : CodeO _ _)
      clear d1 d2
      w_strict k_steps
      rename_i oI oA0 oN dI dA0 dN l0 hX l1x D' hY l1y hZ oA dA f1 cc oc vsc tc ctv dc hW tkW l1z l2z hV oF F1 N1 dF ax t2 tk2
      simp only [List.nil_append]
      have hcg := News.get N1 (a := cc) (o := oc) (by k_mem)
      have Nx : News g' L' hV [(D', W.listOf (List.replicate d.toNat _).toArray 0), (L' + 1 + 1 + 1, oF), (L' + 1 + 1, oA), (L' + 1, oN), (f1, fnMade _ _ _ _ _ _ _ _ _ _)] := cb_drop N1 (by kcj_all)
      refine inner1 (base := base) (D := D') (cF := L' + 1 + 1 + 1) (cA := L' + 1 + 1) (cN := L' + 1) (f := f1) (c := cc) (c0 := 0) C1 hco dN dA dF hn hn2 (by refine ⟨?_, ?_, ?_, ?_, ?_, ?_, ?_, ?_, ?_⟩ <;> omega) d.toNat _ _ _ _ _ _ _ _ _ _ _ _ _ _ _ _ _ _ x 0 d _ _ _ B' F1 X' T' rfl (by with_unfolding_all exact Nx) hcg (ints_rep _ d.toNat) (by ktr_room) (by ktr_units) (by omega) (by omega) (by omega) (by simp only [List.length_replicate]; omega) (by simp only [List.length_replicate]; omega) hx c5 hx2 ?_
      intro vs1 h1 tk1 kb1 hD1 hi1
      have F2 := frKB F1 kb1 (fun h => (N1 (D', _) (by k_mem)).2.1 (List.mem_singleton.mp h).symm) (fun d hd => by rw [List.mem_singleton.mp hd]; exact (N1 (D', _) (by k_mem)).2.2)
      have N2 := newsKBU N1 kb1 hD1 (by k_upd)
      clear F1 N1 Nx
      w_strict k_steps
      refine hret D' vs1 h1 _ _ cc oc (kbEnd (D := 87) kb' F2 N2 (fun p hp => (N p hp).1) (fun p hp hne => absurd (congrArg Prod.fst (List.mem_singleton.mp hp)) hne) (by k_mem)) (by omega) hD1 (.inr ⟨rfl, hco, by omega⟩) (News.get N2 (by k_mem)) (News.get N2 (by k_mem)) (.inr ⟨rfl, Heap.get?_none_of_le (by omega)⟩) ?_
      rw [show Int.toNat 0 = 0 from rfl, splice_all (by rw [digs_length, List.length_replicate])] at hi1
      exact hi1
    · rename_i oI oA0 oN dI dA0 dN l0 hX l1x D' hY l1y hZ oA dA f1 cc oc vsc tc ctv dc hW tkW d1 d2 l1z l2z hV oF F1 N1 dF ax
      refine hret D' (List.replicate d.toNat _) _ _ _ cc oc (kbEnd (D := 87) kb' F1 N1 (fun p hp => (N p hp).1) (fun p hp hne => absurd (congrArg Prod.fst (List.mem_singleton.mp hp)) hne) (by k_mem)) (by omega) (News.get N1 (by k_mem)) (.inr ⟨rfl, ⟨_, _, d1, d2⟩, by omega⟩) (News.get N1 (by k_mem)) (News.get N1 (by k_mem)) (.inr ⟨rfl, Heap.get?_none_of_le (by omega)⟩) ?_
      rw [c4 ax]
      exact .nil
  · have N := news1 hg1 hL h87
    have hclt : @LT.lt Nat _ e s.heap.objs.size := Heap.lt_size hg2
    k_dflt ((refine' Mine.enterKC ?k1v2 ?k2v2 ?k3v2 ?k4v2 ?k5v2 ?kAv2 ?kFv2 ?kKv2 ?k6v2 ?k7v2 ?k8v2 ?k9v2 ?kBv2 ?kDv2 ?_ ?c2v2 ?c3v2 ?c4v2; (case kAv2 => exact rfl); (case kFv2 => exact rfl); (case kKv2 => first | exact rfl | assumption); (case k1v2 => k_asm); (case k2v2 => k_asm); (case k3v2 => k_asm); (case k4v2 => k_asm); (case k5v2 => k_asm); (case k6v2 => k_is); (case k7v2 => k_is); (case k8v2 => ktr_room); (case k9v2 => exact BindsTo.of_eq rfl); (case kBv2 => exact rfl); (case kDv2 => decide +kernel); (case c2v2 => exact rfl); (case c3v2 => exact rfl); (case c4v2 => exact rfl); k_whole))
    intro g' L' h' tk' cells' kb' hl' F' N' Y' B' X' T' l1
    k_lt l1; k_cells Y'; (try simp only [List.cons_append, List.nil_append] at N'); (try dsimp only)
    clear X T
    have hcg := kb' e oe (fun h => hcP (List.mem_singleton.mp h)) hg2
    w_on
    w_strict k_steps
    change wpAny _ _ (binaryOp _ _ (Value.int (cnt x n) _)) _ _ _
    generalize hd : cnt x n = d at *
    w_strict k_steps
    · rename_i oI oA0 oN dI dA0 dN l0 hX l1x D' hY l1y hZ oA dA f1 ctv dc hW tkW l1z hV oF F1 N1 dF ax t2 tk2
      simp only [List.nil_append]
      have Nx : News g' L' hV [(D', W.listOf (List.replicate d.toNat _).toArray 0), (L' + 1 + 1 + 1, oF), (L' + 1 + 1, oA), (L' + 1, oN), (f1, fnMade _ _ _ _ _ _ _ _ _ _)] := cb_drop N1 (by kcj_all)
      refine inner1 (base := base) (D := D') (cF := L' + 1 + 1 + 1) (cA := L' + 1 + 1) (cN := L' + 1) (f := f1) (c := e) (c0 := 0) C1 hco dN dA dF hn hn2 (by refine ⟨?_, ?_, ?_, ?_, ?_, ?_, ?_, ?_, ?_⟩ <;> omega) d.toNat _ _ _ _ _ _ _ _ _ _ _ _ _ _ _ _ _ _ x 0 d _ _ _ B' F1 X' T' rfl (by with_unfolding_all exact Nx) (F1.keep e oe hcg) (ints_rep _ d.toNat) (by ktr_room) (by ktr_units) (by omega) (by omega) (by omega) (by simp only [List.length_replicate]; omega) (by simp only [List.length_replicate]; omega) hx c5 hx2 ?_
      intro vs1 h1 tk1 kb1 hD1 hi1
      have F2 := frKB F1 kb1 (fun h => (N1 (D', _) (by k_mem)).2.1 (List.mem_singleton.mp h).symm) (fun d hd => by rw [List.mem_singleton.mp hd]; exact (N1 (D', _) (by k_mem)).2.2)
      have N2 := newsKBU N1 kb1 hD1 (by k_upd)
      clear F1 N1 Nx
      w_strict k_steps
      refine hret D' vs1 h1 _ _ e oe (kbEnd (D := 87) kb' F2 N2 (fun p hp => (N p hp).1) (fun p hp hne => absurd (congrArg Prod.fst (List.mem_singleton.mp hp)) hne) (by k_mem)) (by omega) hD1 (.inr ⟨rfl, hco, hcP⟩) (News.get N2 (by k_mem)) (F2.keep e oe hcg) (.inl ⟨rfl, rfl⟩) ?_
      rw [show Int.toNat 0 = 0 from rfl, splice_all (by rw [digs_length, List.length_replicate])] at hi1
      exact hi1
    · rename_i oI oA0 oN dI dA0 dN l0 hX l1x D' hY l1y hZ oA dA f1 ctv dc hW tkW l1z hV oF F1 N1 dF ax
      refine hret D' (List.replicate d.toNat _) _ _ _ e oe (kbEnd (D := 87) kb' F1 N1 (fun p hp => (N p hp).1) (fun p hp hne => absurd (congrArg Prod.fst (List.mem_singleton.mp hp)) hne) (by k_mem)) (by omega) (News.get N1 (by k_mem)) (.inr ⟨rfl, hco, hcP⟩) (News.get N1 (by k_mem)) (F1.keep e oe hcg) (.inl ⟨rfl, rfl⟩) ?_
      rw [c4 ax]
      exact .nil
  k_with_none
end Mine
end
section
open PySem PySem.W PyProof.Rows PySem.Calls PySem.Spec
namespace Mine
def st8 : Stmt := sAt 8 PySem.Challenge.pw_pg0188_01.main.body
def in2 : Stmt := sAt 0 (sBody st8)

abbrev Inner2 (w : World) (p : Program) (loose : List Str) (mean : ExcName → Option Value) (mg mb : Str → Option Value) (f c cN cA cF D : Addr) (oc oN oA oF : Obj) (qual : Str) (doc pm ctv : Value) (n : Int) (base : Heap) (c0 : Nat) (vs : List Value) (ns : List Int) (K : Nat) : Prop :=
  ∀ (dp un : Nat) (gd : Option (List Code)) (cn : Str) (cs : Scope) (a : Addr) (ccd : Value) (cl : List (Str × Addr)) (outer : List Env) (A₀ : Around) (h₀ : Heap) (L : Addr) (m : Str → Option Value) (s : Shared)
    (Q E : Value → Shared → Prop) (lo hi : Int) (tl th : Tok),
    Below A₀ base outer h₀ → Fr h₀ L s.heap m → (Mine.hd.heap_39 w.params).In h₀ → Top p loose mean mg mb h₀ → cs.kind = .function →
    News h₀ L s.heap [(D, W.listOf vs.toArray c0), (cF, oF), (cA, oA), (cN, oN), (f, fnMade (Str.ofString "inner") qual (sArgs in2) (sBody in2) (sScope in2) [(Str.ofString "n", cN), (Str.ofString "inner", cF), (Str.ofString "digits", cA)] doc pm c ctv)] → s.heap.get? c = some oc →
    dp + K < recursionLimit → un + 8 * K < cLine →
    1 ≤ K → 0 ≤ lo → lo + K = hi → hi ≤ ns.length →
    (∀ t h' tk', KB [] s.heap h' → Q (.int (sl (2 ^ n.toNat) ns lo.toNat K) t) { s with heap := h', toks := tk' }) →
    wpAny (model PySem.Challenge.rw_pg0188_01.row.prog w) (ktrTop dp un gd cn cs L a ccd cl outer) (call (.ref f) [.int lo tl, .int hi th]) Q E s

/-- what a frame left where it changed nothing -/
theorem kbEnd0 {h g h' : Heap} {L' : Addr} {m' : Str → Option Value} {news rest : List (Addr × Obj)} (kb : KB (news.map (·.1)) h g) (F : Fr g L' h' m') (N : News g L' h' rest) (N0 : ∀ p ∈ news, h.get? p.1 = some p.2) (sub : ∀ p ∈ news, p ∈ rest) : KB [] h h' := by
  intro b o _ e
  by_cases hn : b ∈ news.map (·.1)
  · obtain ⟨p, hp, rfl⟩ := List.mem_map.mp hn
    have h2 := N0 p hp
    rw [e] at h2
    rw [Option.some.inj h2]
    exact (N p (sub p hp)).1
  · exact F.keep b o (kb b o hn e)
set_option maxRecDepth 100000 in
set_option maxHeartbeats 8000000 in
theorem inner2 {w : World} {p : Program} {loose : List Str} {mean : ExcName → Option Value} {mg mb : Str → Option Value} {f c cN cA cF D : Addr} {oc oN oA oF : Obj} {qual : Str} {doc pm ctv : Value} {n : Int} {tn : Tok} {base : Heap} {c0 : Nat} {vs : List Value} {ns : List Int}
    (C1 : CodeHd base 98 94) (hc : CodeO oc qual) (hN : oN.data = .cell (some (.int n tn))) (hA : oA.data = .cell (some (.ref D))) (hF : oF.data = .cell (some (.ref f))) (hn : 0 < n) (hn2 : n < 60)
    (hcn : @Ne Nat c D ∧ @Ne Nat c cF ∧ @Ne Nat c cA ∧ @Ne Nat c cN ∧ @Ne Nat c f) (hi1 : IntsAre vs ns) (hlen2 : ns.length ≤ 256) (hsl : ∀ lo K, 0 ≤ sl (2 ^ n.toNat) ns lo K ∧ sl (2 ^ n.toNat) ns lo K < 2 ^ 60) : ∀ K : Nat, Inner2 w p loose mean mg mb f c cN cA cF D oc oN oA oF qual doc pm ctv n base c0 vs ns K := by
  k_with "binaryOp RShift int int" => (refine Mine.rsh1 ?_; intro _ _ _)
  k_with "binaryOp Mult int int" => (refine Mine.mulX (by omega) (by omega) (by omega) (by omega) ?_; k_whole; intro _ _ _ _)
  k_with "binaryOp LShift int int" => (refine Mine.lshX (by omega) (by omega) (by omega) (by omega) ?_; k_whole; intro _ _)
  intro K
  induction K using Nat.strongRecOn with
  | ind K IH =>
  intro dp un gd cn cs a ccd cl outer A₀ h₀ L m s Q E lo hi tl th
  k_fill
  intro B F X T hk N hcs hdp hun hK hlo hhi hlen hret
  refine wpAny_call ?_
  refine enterF B F N T.nolimit rfl rfl hk (News.get N (by k_mem)) rfl (codeRec_of_codeO hcs hc) (by ktr_room) (BindsTo.of_eq rfl) (locs rfl) ?_ (by decide) rfl rfl rfl
  intro g' L' h' kb' hl' F' N' B' st'
  have X' := X.keeps st'
  have T' := T.keeps st'
  clear X T
  have hcg : g'.get? c = some oc := kb' c oc (by simp only [List.map_cons, List.map_nil, List.mem_cons, List.not_mem_nil, or_false, not_or]; exact hcn) hcs
  have hb : sBody in2 = sBody in2 := rfl
  conv at hb => rhs; whnf
  have ha : sArgs in2 = sArgs in2 := rfl
  conv at ha => rhs; whnf
  have hs : sScope in2 = sScope in2 := rfl
  conv at hs => rhs; whnf
  rw [hb, ha, hs] at N'
  rw [ha] at F'
  rw [hb, hs, ha]
  clear hb ha hs
  dsimp only at F' N' ⊢
  w_on
  w_strict k_steps
  · rename lo + 1 = hi => e1
    obtain rfl : K = 1 := by omega
    have e2 := sl_one (B := 2 ^ n.toNat) (ns := ns) (lo := lo.toNat) (by omega)
    rw [← e2]
    exact hret _ _ _ (kbEnd0 kb' F' N' (fun p hp => (N p hp).1) (fun _ h => h))
  · rename_i tk q1 hq1a hq1b ha z1 hz1a hz1b hz1c hb F1 N1
    obtain ⟨K1, hK1⟩ : ∃ K1 : Nat, lo + K1 = q1 := ⟨(q1 - lo).toNat, by omega⟩
    obtain ⟨K2, hK2⟩ : ∃ K2 : Nat, q1 + K2 = hi := ⟨(hi - q1).toNat, by omega⟩
    obtain rfl : K = K1 + K2 := by omega
    rename 2 * q1 ≤ lo + hi => hAa
    rename lo + hi < 2 * q1 + 2 => hBb
    rename lo + 1 ≠ hi => hCc
    obtain ⟨k1p, k2p⟩ := half_facts hAa hBb hK1 hK2 hCc hK
    clear hAa hBb hCc hK
    have ez : z1.toNat = n.toNat * K1 := by
      have : (q1 - lo) = K1 := by omega
      rw [this] at hz1a
      have h2 : z1 = ((n.toNat * K1 : Nat) : Int) := by rw [hz1a, Int.natCast_mul, Int.toNat_of_nonneg (by omega), Int.mul_comm]
      omega
    simp only [List.nil_append]
    refine IH K2 (by omega) _ _ _ _ _ _ _ _ _ _ _ _ _ _ _ _ q1 hi _ _ B' F1 X' T' rfl N1 (F1.keep c oc hcg) (by ktr_room) (by ktr_units) (by omega) (by omega) hK2 (by omega) ?_
    intro t1 h1 tk1 kb1
    have F2 := frKB F1 kb1 (by exact List.not_mem_nil) (fun d hd => (nomatch hd))
    have N2 := newsKB N1 kb1 (fun p hp => List.not_mem_nil)
    clear F1 N1
    have hv2 := hsl q1.toNat K2
    w_strict k_steps
    rename_i z2 hz2
    simp only [List.nil_append]
    refine IH K1 (by omega) _ _ _ _ _ _ _ _ _ _ _ _ _ _ _ _ lo q1 _ _ B' F2 X' T' rfl N2 (F2.keep c oc hcg) (by ktr_room) (by ktr_units) (by omega) hlo hK1 (by omega) ?_
    intro t2 h2 tk2 kb2
    have F3 := frKB F2 kb2 (by exact List.not_mem_nil) (fun d hd => (nomatch hd))
    have N3 := newsKB N2 kb2 (fun p hp => List.not_mem_nil)
    clear F2 N2
    w_strict k_steps
    have e3 := sl_add (B := 2 ^ n.toNat) (ns := ns) (lo := lo.toNat) (K1 := K1) (K2 := K2) (by omega)
    have e4 : z2 + sl (2 ^ n.toNat) ns lo.toNat K1 = sl (2 ^ n.toNat) ns lo.toNat (K1 + K2) := by
      rw [e3, hz2, ez, show q1.toNat = lo.toNat + K1 by omega, ← Int.pow_mul, Int.mul_comm]
      omega
    rw [e4]
    exact hret _ _ _ (kbEnd0 kb' F3 N3 (fun p hp => (N p hp).1) (fun _ h => h))
  k_with_none
end Mine
end
section
open PySem PySem.W PyProof.Rows PySem.Calls PySem.Spec
namespace Mine
def Q94 : Str := Str.ofString "_digits2int.<locals>.inner"

abbrev Digs2I (w : World) (p : Program) (loose : List Str) (mean : ExcName → Option Value) (mg mb : Str → Option Value) (base : Heap) : Prop :=
  ∀ (dp un : Nat) (gd : Option (List Code)) (cn : Str) (cs : Scope) (a : Addr) (ccd : Value) (cl : List (Str × Addr)) (outer : List Env) (A₀ : Around) (h₀ : Heap) (L : Addr) (m : Str → Option Value) (s : Shared)
    (Q E : Value → Shared → Prop) (D : Addr) (vs : List Value) (ns : List Int) (c0 : Nat) (n : Int) (tn : Tok) (o oe : Obj) (e : Addr),
    Below A₀ base outer h₀ → Fr h₀ L s.heap m → (Mine.hd.heap_39 w.params).In h₀ → Top p loose mean mg mb h₀ → cs.kind = .function →
    h₀.get? 94 = none → @Ne Nat 94 L → TabL 94 74 4 Q94 o e oe → s.heap.get? 94 = some o → s.heap.get? e = some oe → dp + 300 < recursionLimit → un + 3000 < cLine →
    s.heap.get? D = some (W.listOf vs.toArray c0) → h₀.get? D = none → @Ne Nat D L → IntsAre vs ns → ns.length ≤ 200 → 0 < n → n < 60 → (∀ lo K, 0 ≤ sl (2 ^ n.toNat) ns lo K ∧ sl (2 ^ n.toNat) ns lo K < 2 ^ 60) →
    (∀ t h' tk' o' e' oe', KB [94] s.heap h' → TabL 94 74 4 Q94 o' e' oe' → h'.get? 94 = some o' → h'.get? e' = some oe' → NewCode 94 e oe e' oe' s.heap → Q (.int (undig (2 ^ n.toNat) ns) t) { s with heap := h', toks := tk' }) →
    wpAny (model PySem.Challenge.rw_pg0188_01.row.prog w) (ktrTop dp un gd cn cs L a ccd cl outer) (call (.ref 99) [.ref D, .int n tn]) Q E s

theorem news2 {h₀ h : Heap} {L P D : Addr} {o o' : Obj} (h1 : h.get? P = some o) (h2 : @Ne Nat P L) (h3 : h₀.get? P = none) (k1 : h.get? D = some o') (k2 : @Ne Nat D L) (k3 : h₀.get? D = none) : News h₀ L h [(P, o), (D, o')] :=
  fun p hp => by
    rcases List.mem_cons.mp hp with rfl | hp
    · exact ⟨h1, h2, h3⟩
    · rw [List.mem_singleton.mp hp]; exact ⟨k1, k2, k3⟩
section
variable {prog : Program} {w : World} {A : Around} {E : Value → Shared → Prop} {s : Shared} {h₀ : Heap} {L : Addr} {m : Str → Option Value} {news : List (Addr × Obj)} {l : Addr} {vs : List Value} {c : Nat}
theorem truthyL {Q : Bool → Shared → Prop} {ns : List Int} (N : News h₀ L s.heap news) (hm : (l, W.listOf vs.toArray c) ∈ news) (hi : IntsAre vs ns) (hs : ns.length ≤ 1048576) (h1 : ns ≠ [] → ∀ tk, Q true { s with toks := tk }) (h0 : ns = [] → ∀ tk, Q false { s with toks := tk }) : wpAny (model prog w) A (truthy (.ref l)) Q E s := by
  have e := hi.length
  refine wpAny_truthy_list (News.isList N hm) (by rw [List.size_toArray]; omega) ?_
  cases vs with
  | nil => exact h0 (List.eq_nil_of_length_eq_zero e.symm) _
  | cons a r => exact h1 (fun h => by rw [h] at e; cases e) _
end

set_option maxRecDepth 100000 in
set_option maxHeartbeats 8000000 in
theorem digs2i {w : World} {p : Program} {loose : List Str} {mean : ExcName → Option Value} {mg mb : Str → Option Value} {base : Heap} (C1 : CodeHd base 98 94) : Digs2I w p loose mean mg mb base := by
  intro dp un gd cn cs a ccd cl outer A₀ h₀ L m s Q E D vs ns c0 n tn o oe e
  k_fill
  intro B F X T hk h94 hL ht hg1 hg2 hdp hun hD hD0 hDL hi1 hlen hn hn2 hsl hret
  have hlv := hi1.length
  have hD94 : @Ne Nat D 94 := fun e => by
    rw [e] at hD
    rw [hD] at hg1
    rcases ht with ⟨rfl, rfl, rfl⟩ | ⟨rfl, hco, hcP⟩ <;> cases hg1
  have hall : sl (2 ^ n.toNat) ns (Int.toNat 0) ns.length = undig (2 ^ n.toNat) ns := by
    show undig _ ((ns.drop 0).take ns.length) = _
    rw [List.drop_zero, List.take_length]
  refine wpAny_call ?_
  rcases ht with ⟨rfl, rfl, rfl⟩ | ⟨rfl, hco, hcP⟩
  · have N := news2 hg1 hL h94 hD hDL hD0
    k_dflt ((refine' Mine.enterKC ?k1v3 ?k2v3 ?k3v3 ?k4v3 ?k5v3 ?kAv3 ?kFv3 ?kKv3 ?k6v3 ?k7v3 ?k8v3 ?k9v3 ?kBv3 ?kDv3 ?_ ?c2v3 ?c3v3 ?c4v3; (case kAv3 => exact rfl); (case kFv3 => exact rfl); (case kKv3 => first | exact rfl | assumption); (case k1v3 => k_asm); (case k2v3 => k_asm); (case k3v3 => k_asm); (case k4v3 => k_asm); (case k5v3 => k_asm); (case k6v3 => k_is); (case k7v3 => k_is); (case k8v3 => ktr_room); (case k9v3 => exact BindsTo.of_eq rfl); (case kBv3 => exact rfl); (case kDv3 => decide +kernel); (case c2v3 => exact rfl); (case c3v3 => exact rfl); (case c4v3 => exact rfl); k_whole))
    intro g' L' h' tk' cells' kb' hl' F' N' Y' B' X' T' l1
    k_lt l1; k_cells Y'; (try simp only [List.cons_append, List.nil_append] at N'); (try dsimp only)
    clear X T
    w_on
    w_strict k_steps
    · rename_i oI oN oD dI dN dD f1 cc oc vsc tc ctv dc hW tkW d1 d2 l1z l2z hV oF F1 N1 dF ax
      have hco := (⟨_, _, d1, d2⟩ : CodeO _ _)
      have hcg := News.get N1 (a := cc) (o := oc) (by k_mem)
      simp only [List.nil_append]
      have Nx : News g' L' hV [(D, W.listOf vs.toArray c0), (L' + 1 + 1 + 1, oF), (L' + 1, oD), (L' + 1 + 1, oN), (f1, fnMade _ _ _ _ _ _ _ _ _ _)] := cb_drop N1 (by kcj_all)
      refine inner2 (base := base) (D := D) (cF := L' + 1 + 1 + 1) (cA := L' + 1) (cN := L' + 1 + 1) (f := f1) (c := cc) (c0 := c0) C1 hco dN dD dF hn hn2 (by refine ⟨?_, ?_, ?_, ?_, ?_⟩ <;> omega) hi1 (by omega) hsl ns.length _ _ _ _ _ _ _ _ _ _ _ _ _ _ _ _ 0 ns.length _ _ B' F1 X' T' rfl (by with_unfolding_all exact Nx) hcg (by ktr_room) (by ktr_units) (by omega) (by omega) (by omega) (by omega) ?_
      intro t1 h1 tk1 kb1
      have F2 := frKB F1 kb1 (by exact List.not_mem_nil) (fun d hd => (nomatch hd))
      have N2 := newsKB N1 kb1 (fun p hp => List.not_mem_nil)
      clear F1 N1 Nx
      rw [hall]
      refine hret _ _ _ _ cc oc (kbEnd (D := 94) kb' F2 N2 (fun p hp => (N p hp).1) (fun p hp hne => ?_) (by k_mem)) (.inr ⟨rfl, hco, by omega⟩) (News.get N2 (by k_mem)) (News.get N2 (by k_mem)) (.inr ⟨rfl, Heap.get?_none_of_le (by omega)⟩)
      rcases List.mem_cons.mp hp with rfl | hp
      · exact absurd rfl hne
      · rw [List.mem_singleton.mp hp]; k_mem
    · rename_i oI oN oD dI dN dD f1 cc oc vsc tc ctv dc hW tkW d1 d2 l1z l2z hV oF F1 N1 dF ax
      have e0 : ns = [] := List.eq_nil_of_length_eq_zero (by omega)
      subst e0
      refine hret _ _ _ _ cc oc (kbEnd (D := 94) kb' F1 N1 (fun p hp => (N p hp).1) (fun p hp hne => ?_) (by k_mem)) (.inr ⟨rfl, ⟨_, _, d1, d2⟩, by omega⟩) (News.get N1 (by k_mem)) (News.get N1 (by k_mem)) (.inr ⟨rfl, Heap.get?_none_of_le (by omega)⟩)
      rcases List.mem_cons.mp hp with rfl | hp
      · exact absurd rfl hne
      · rw [List.mem_singleton.mp hp]; k_mem
  · have N := news2 hg1 hL h94 hD hDL hD0
    have hclt : @LT.lt Nat _ e s.heap.objs.size := Heap.lt_size hg2
    have hcD : @Ne Nat e D := fun e => by
      obtain ⟨vs2, t2, e1, _⟩ := hco
      rw [e, hD] at hg2; cases hg2; cases e1
    k_dflt ((refine' Mine.enterKC ?k1v4 ?k2v4 ?k3v4 ?k4v4 ?k5v4 ?kAv4 ?kFv4 ?kKv4 ?k6v4 ?k7v4 ?k8v4 ?k9v4 ?kBv4 ?kDv4 ?_ ?c2v4 ?c3v4 ?c4v4; (case kAv4 => exact rfl); (case kFv4 => exact rfl); (case kKv4 => first | exact rfl | assumption); (case k1v4 => k_asm); (case k2v4 => k_asm); (case k3v4 => k_asm); (case k4v4 => k_asm); (case k5v4 => k_asm); (case k6v4 => k_is); (case k7v4 => k_is); (case k8v4 => ktr_room); (case k9v4 => exact BindsTo.of_eq rfl); (case kBv4 => exact rfl); (case kDv4 => decide +kernel); (case c2v4 => exact rfl); (case c3v4 => exact rfl); (case c4v4 => exact rfl); k_whole))
    intro g' L' h' tk' cells' kb' hl' F' N' Y' B' X' T' l1
    k_lt l1; k_cells Y'; (try simp only [List.cons_append, List.nil_append] at N'); (try dsimp only)
    clear X T
    have hcg := kb' e oe (fun h => by
      rcases List.mem_cons.mp h with h | h
      · exact hcP h
      · exact hcD (List.mem_singleton.mp h)) hg2
    w_on
    w_strict k_steps
    · rename_i oI oN oD dI dN dD f1 ctv dc hW tkW l1z hV oF F1 N1 dF ax
      simp only [List.nil_append]
      have Nx : News g' L' hV [(D, W.listOf vs.toArray c0), (L' + 1 + 1 + 1, oF), (L' + 1, oD), (L' + 1 + 1, oN), (f1, fnMade _ _ _ _ _ _ _ _ _ _)] := cb_drop N1 (by kcj_all)
      refine inner2 (base := base) (D := D) (cF := L' + 1 + 1 + 1) (cA := L' + 1) (cN := L' + 1 + 1) (f := f1) (c := e) (c0 := c0) C1 hco dN dD dF hn hn2 (by refine ⟨?_, ?_, ?_, ?_, ?_⟩ <;> omega) hi1 (by omega) hsl ns.length _ _ _ _ _ _ _ _ _ _ _ _ _ _ _ _ 0 ns.length _ _ B' F1 X' T' rfl (by with_unfolding_all exact Nx) (F1.keep e oe hcg) (by ktr_room) (by ktr_units) (by omega) (by omega) (by omega) (by omega) ?_
      intro t1 h1 tk1 kb1
      have F2 := frKB F1 kb1 (by exact List.not_mem_nil) (fun d hd => (nomatch hd))
      have N2 := newsKB N1 kb1 (fun p hp => List.not_mem_nil)
      clear F1 N1 Nx
      rw [hall]
      refine hret _ _ _ _ e oe (kbEnd (D := 94) kb' F2 N2 (fun p hp => (N p hp).1) (fun p hp hne => ?_) (by k_mem)) (.inr ⟨rfl, hco, hcP⟩) (News.get N2 (by k_mem)) (F2.keep e oe hcg) (.inl ⟨rfl, rfl⟩)
      rcases List.mem_cons.mp hp with rfl | hp
      · exact absurd rfl hne
      · rw [List.mem_singleton.mp hp]; k_mem
    · rename_i oI oN oD dI dN dD f1 ctv dc hW tkW l1z hV oF F1 N1 dF ax
      have e0 : ns = [] := List.eq_nil_of_length_eq_zero (by omega)
      subst e0
      refine hret _ _ _ _ e oe (kbEnd (D := 94) kb' F1 N1 (fun p hp => (N p hp).1) (fun p hp hne => ?_) (by k_mem)) (.inr ⟨rfl, hco, hcP⟩) (News.get N1 (by k_mem)) (F1.keep e oe hcg) (.inl ⟨rfl, rfl⟩)
      rcases List.mem_cons.mp hp with rfl | hp
      · exact absurd rfl hne
      · rw [List.mem_singleton.mp hp]; k_mem
end Mine
end
section
open PySem PySem.W PyProof.Rows PySem.Calls PySem.Spec
namespace Mine

abbrev tup2 (x y : Value) : Obj := { cls := .type "tuple", data := .seq #[x, y] }

abbrev Div2 (w : World) (p : Program) (loose : List Str) (mean : ExcName → Option Value) (mg mb : Str → Option Value) (base : Heap) : Prop :=
  ∀ (dp un : Nat) (gd : Option (List Code)) (cn : Str) (cs : Scope) (a : Addr) (ccd : Value) (cl : List (Str × Addr)) (outer : List Env) (A₀ : Around) (h₀ : Heap) (L : Addr) (m : Str → Option Value) (s : Shared)
    (Q E : Value → Shared → Prop) (x y n : Int) (tx ty tn : Tok),
    Below A₀ base outer h₀ → Fr h₀ L s.heap m → (Mine.hd.heap_39 w.params).In h₀ → Top p loose mean mg mb h₀ → cs.kind = .function →
    dp + 100 < recursionLimit → un + 800 < cLine → 0 ≤ x → x < 2 ^ 60 → 0 < y → y < 1048576 → 0 < n →
    (∀ D t1 t2 h' tk', KB [] s.heap h' → s.heap.objs.size ≤ D → h'.get? D = some (tup2 (.int (x / y) t1) (.int (x % y) t2)) → Q (.ref D) { s with heap := h', toks := tk' }) →
    wpAny (model PySem.Challenge.rw_pg0188_01.row.prog w) (ktrTop dp un gd cn cs L a ccd cl outer) (call (.ref 78) [.int x tx, .int y ty, .int n tn]) Q E s

set_option maxRecDepth 100000 in
set_option maxHeartbeats 8000000 in
theorem div2 {w : World} {p : Program} {loose : List Str} {mean : ExcName → Option Value} {mg mb : Str → Option Value} {base : Heap} : Div2 w p loose mean mg mb base := by
  intro dp un gd cn cs a ccd cl outer A₀ h₀ L m s Q E x y n tx ty tn
  k_fill
  intro B F X T hk hdp hun hx hx2 hy hy2 hn hret
  have hb64 : Builtin.Int.intBits x ≤ 64 := intBits_le_64 (by omega) (by omega)
  refine wpAny_call ?_
  have N : News h₀ L s.heap [] := News.nil
  k_dflt ((refine' Mine.enterK ?k1v5 ?k2v5 ?k3v5 ?k4v5 ?k5v5 ?kAv5 ?kFv5 ?kKv5 ?k6v5 ?k7v5 ?k8v5 ?k9v5 ?kBv5 ?_ ?c5v5 ?c2v5 ?c3v5 ?c4v5; (case kAv5 => exact rfl); (case kFv5 => exact rfl); (case kKv5 => first | exact rfl | assumption); (case k1v5 => k_asm); (case k2v5 => k_asm); (case k3v5 => k_asm); (case k4v5 => k_asm); (case k5v5 => k_asm); (case k6v5 => k_is); (case k7v5 => k_is); (case k8v5 => ktr_room); (case k9v5 => exact BindsTo.of_eq rfl); (case c5v5 => decide); (case kBv5 => exact locs rfl); (case c2v5 => exact rfl); (case c3v5 => exact rfl); (case c4v5 => exact rfl); k_whole))
  intro g' L' h' kb' hl' F' N' B' X' T'
  clear X T
  have Lt := F'.ns.lt
  (try dsimp only)
  w_on
  w_strict k_steps
  rename News g' L' _ (_ :: _) => N2
  rename Fr g' L' _ _ => F2
  rw [Int.fdiv_eq_ediv_of_nonneg x (Int.le_of_lt hy), Int.fmod_eq_emod_of_nonneg x (Int.le_of_lt hy)] at N2
  exact hret _ _ _ _ _ (kbEnd0 kb' F2 N2 (fun p hp => (N p hp).1) (fun _ h => (nomatch h))) (Nat.le_trans hl' (Nat.le_of_lt Lt)) (News.get N2 (.head _))
end Mine
end
section
open PySem PySem.W PyProof.Rows PySem.Calls PySem.Spec
namespace Mine
def AllNe (d : Addr) : List (Addr × Obj) → Prop
  | [] => True
  | p :: r => @Ne Nat p.1 d ∧ AllNe d r
theorem allNe_of {d : Addr} : ∀ {l : List (Addr × Obj)}, (∀ p ∈ l, p.1 ≠ d) → AllNe d l
  | [], _ => trivial
  | p :: _, h => ⟨h p (.head _), allNe_of fun q hq => h q (.tail _ hq)⟩
theorem AllNe.at {d : Addr} : ∀ {l : List (Addr × Obj)}, AllNe d l → ∀ p ∈ l, p.1 ≠ d
  | [], _, _, hp => nomatch hp
  | _ :: _, h, p, hp => by
    rcases List.mem_cons.mp hp with rfl | hp
    · exact h.1
    · exact AllNe.at h.2 p hp

section
variable {h₀ h h' : Heap} {L : Addr} {m : Str → Option Value} {news cs : List (Addr × Obj)} {ds : List Addr} {D e e' : Addr} {oD x x' : Obj}
/-- behind a call that leaves all but ds as it was and hands back the new object D -/
theorem afterCall (F : Fr h₀ L h m) (N : News h₀ L h news) (kb : KB ds h h') (hds : ∀ d ∈ ds, @Ne Nat d L ∧ h₀.get? d = none) (sub : ∀ p ∈ cs, p ∈ news) (off : ∀ p ∈ cs, p.1 ∉ ds) :
    Fr h₀ L h' m ∧ News h₀ L h' cs :=
  ⟨frKB F kb (fun hL => (hds L hL).1 rfl) fun d hd => (hds d hd).2, newsKB (fun p hp => N p (sub p hp)) kb off⟩
theorem addNew (F : Fr h₀ L h m) (N' : News h₀ L h' cs) (hD : h.objs.size ≤ D) (gD : h'.get? D = some oD) : News h₀ L h' ((D, oD) :: cs) := fun p hp => by
  rcases List.mem_cons.mp hp with rfl | hp
  · refine ⟨gD, fun q => ?_, ?_⟩
    · have := F.ns.lt
      rw [← q] at this
      exact absurd (Nat.lt_of_lt_of_le this hD) (Nat.lt_irrefl _)
    · cases q : h₀.get? D with
      | none => rfl
      | some o => exact absurd (Nat.lt_of_lt_of_le (Heap.lt_size (F.keep _ _ q)) hD) (Nat.lt_irrefl _)
  · exact N' p hp
theorem addTab (F : Fr h₀ L h m) (N' : News h₀ L h' cs) (he : e ≠ L ∧ h₀.get? e = none) (gx : h'.get? e' = some x') (fr : e' = e ∨ h.get? e' = none) : News h₀ L h' ((e', x') :: cs) := fun p hp => by
  rcases List.mem_cons.mp hp with rfl | hp
  · refine ⟨gx, fun q => ?_, ?_⟩
    · rcases fr with rfl | fr
      · exact he.1 q
      · obtain ⟨o, _, _, ho, _⟩ := F.ns
        rw [show e' = L from q, ho] at fr; cases fr
    · rcases fr with rfl | fr
      · exact he.2
      · cases q : h₀.get? e' with
        | none => rfl
        | some o => rw [F.keep _ _ q] at fr; cases fr
  · exact N' p hp
theorem newsLt (N : News h₀ L h news) (hD : h.objs.size ≤ D) : AllLt D news := allLt_of fun p hp => Nat.lt_of_lt_of_le (Heap.lt_size (N p hp).1) hD
theorem newsNe (N : News h₀ L h news) (sub : ∀ p ∈ cs, p ∈ news) (ne : AllNe e cs) (fr : e' = e ∨ h.get? e' = none) : AllNe e' cs := by
  rcases fr with rfl | fr
  · exact ne
  · exact allNe_of fun p hp q => by rw [← q, (N p (sub p hp)).1] at fr; cases fr
end

theorem tab_apart {h : Heap} {P P' : Addr} {ln cl ln' cl' : Nat} {q q' : Str} {o x o' x' : Obj} {e e' : Addr} (t : TabL P ln cl q o e x) (t' : TabL P' ln' cl' q' o' e' x') (g : h.get? P = some o) (ge : h.get? e' = some x') (hP : @Ne Nat P' P) : @Ne Nat e' P := fun eq => by
  rcases t' with ⟨_, h2, _⟩ | ⟨_, ⟨vs, tk, d1, d2⟩, _⟩
  · exact hP (h2.symm.trans eq)
  · rw [eq, g] at ge
    obtain rfl := Option.some.inj ge
    rcases t with ⟨h1, _, _⟩ | ⟨h1, _, _⟩ <;> (rw [h1] at d1; cases d1; cases d2)
/-- both tables, as they lie in a heap -/
def T2 (h : Heap) (o7 : Obj) (e7 : Addr) (x7 : Obj) (o9 : Obj) (e9 : Addr) (x9 : Obj) : Prop :=
  (TabL 87 59 4 Q87 o7 e7 x7 ∧ h.get? 87 = some o7 ∧ h.get? e7 = some x7) ∧ TabL 94 74 4 Q94 o9 e9 x9 ∧ h.get? 94 = some o9 ∧ h.get? e9 = some x9
theorem tab_seq {h : Heap} {P : Addr} {ln cl : Nat} {q : Str} {o x : Obj} {e D : Addr} {oD : Obj} {vs : Array Value} {c : Nat} (t : TabL P ln cl q o e x) (gx : h.get? e = some x) (gD : h.get? D = some oD) (hs : oD.data = .seq vs c) : @Ne Nat e D := fun q => by
  rw [q, gD] at gx
  obtain rfl := Option.some.inj gx
  rcases t with ⟨_, _, h2⟩ | ⟨_, ⟨_, _, h2, _⟩, _⟩
  · rw [h2] at hs; cases hs
  · rw [h2] at hs; cases hs
section
variable {h₀ h h' : Heap} {L : Addr} {m : Str → Option Value} {news cs : List (Addr × Obj)} {D e7 e9 e7' e9' : Addr} {oD o7 x7 o9 x9 o7' x7' o9' x9' : Obj} {vs : Array Value} {c : Nat}
theorem after0 (F : Fr h₀ L h m) (N : News h₀ L h news) (kb : KB [87, 94] h h') (m7 : (87, o7) ∈ news) (me7 : (e7, x7) ∈ news) (m9 : (94, o9) ∈ news) (me9 : (e9, x9) ∈ news) (sub : ∀ p ∈ cs, p ∈ news)
    (n7 : AllNe 87 cs) (n9 : AllNe 94 cs) (ne7 : AllNe e7 cs) (ne9 : AllNe e9 cs) (t : T2 h' o7' e7' x7' o9' e9' x9') (f7 : NewCode 87 e7 x7 e7' x7' h) (f9 : NewCode 94 e9 x9 e9' x9' h) :
    Fr h₀ L h' m ∧ News h₀ L h' ((87, o7') :: (e7', x7') :: (94, o9') :: (e9', x9') :: cs) ∧ AllNe e7' cs ∧ AllNe e9' cs := by
  obtain ⟨F', N'⟩ := afterCall (cs := cs) F N kb (fun d hd => by
    rcases List.mem_cons.mp hd with rfl | hd
    · exact (N _ m7).2
    · rw [List.mem_singleton.mp hd]; exact (N _ m9).2) sub (fun p hp hd => by
    rcases List.mem_cons.mp hd with hd | hd
    · exact n7.at p hp hd
    · exact n9.at p hp (List.mem_singleton.mp hd))
  exact ⟨F', addTab F (addTab F (addTab F (addTab F N' (N _ me9).2 t.2.2.2 f9.weak) (N _ m9).2 t.2.2.1 (.inl rfl)) (N _ me7).2 t.1.2.2 f7.weak) (N _ m7).2 t.1.2.1 (.inl rfl), newsNe N sub ne7 f7.weak, newsNe N sub ne9 f9.weak⟩
theorem after2 (F : Fr h₀ L h m) (N : News h₀ L h news) (kb : KB [87, 94] h h') (m7 : (87, o7) ∈ news) (me7 : (e7, x7) ∈ news) (m9 : (94, o9) ∈ news) (me9 : (e9, x9) ∈ news) (sub : ∀ p ∈ cs, p ∈ news)
    (n7 : AllNe 87 cs) (n9 : AllNe 94 cs) (ne7 : AllNe e7 cs) (ne9 : AllNe e9 cs) (t : T2 h' o7' e7' x7' o9' e9' x9') (f7 : NewCode 87 e7 x7 e7' x7' h) (f9 : NewCode 94 e9 x9 e9' x9' h)
    (hD : h.objs.size ≤ D) (gD : h'.get? D = some oD) (hs : oD.data = .seq vs c) :
    Fr h₀ L h' m ∧ News h₀ L h' ((D, oD) :: (87, o7') :: (e7', x7') :: (94, o9') :: (e9', x9') :: cs) ∧ AllLt D news ∧ AllNe e7' cs ∧ AllNe e9' cs ∧ @Ne Nat e7' D ∧ @Ne Nat e9' D := by
  obtain ⟨F', N', a, b⟩ := after0 F N kb m7 me7 m9 me9 sub n7 n9 ne7 ne9 t f7 f9
  exact ⟨F', addNew F N' hD gD, newsLt N hD, a, b, tab_seq t.1.1 t.1.2.2 gD hs, tab_seq t.2.1 t.2.2.2 gD hs⟩
/-- one table's call, told of both -/
theorem t2_of7 (t : T2 h o7 e7 x7 o9 e9 x9) (kb : KB [87] h h') (t7 : TabL 87 59 4 Q87 o7' e7' x7') (g7 : h'.get? 87 = some o7') (ge7 : h'.get? e7' = some x7') : T2 h' o7' e7' x7' o9 e9 x9 :=
  ⟨⟨t7, g7, ge7⟩, t.2.1, kb _ _ (by simp) t.2.2.1, kb _ _ (fun q => tab_apart t.1.1 t.2.1 t.1.2.1 t.2.2.2 (by decide) (List.mem_singleton.mp q)) t.2.2.2⟩
theorem t2_of9 (t : T2 h o7 e7 x7 o9 e9 x9) (kb : KB [94] h h') (t9 : TabL 94 74 4 Q94 o9' e9' x9') (g9 : h'.get? 94 = some o9') (ge9 : h'.get? e9' = some x9') : T2 h' o7 e7 x7 o9' e9' x9' :=
  ⟨⟨t.1.1, kb _ _ (by simp) t.1.2.1, kb _ _ (fun q => tab_apart t.2.1 t.1.1 t.2.2.1 t.1.2.2 (by decide) (List.mem_singleton.mp q)) t.1.2.2⟩, t9, g9, ge9⟩
theorem t2_news (N : News h₀ L h news) (t7 : TabL 87 59 4 Q87 o7 e7 x7) (t9 : TabL 94 74 4 Q94 o9 e9 x9) (m7 : (87, o7) ∈ news) (me7 : (e7, x7) ∈ news) (m9 : (94, o9) ∈ news) (me9 : (e9, x9) ∈ news) : T2 h o7 e7 x7 o9 e9 x9 :=
  ⟨⟨t7, (N _ m7).1, (N _ me7).1⟩, t9, (N _ m9).1, (N _ me9).1⟩
end
end Mine
namespace Mine
section
variable {prog : Program} {w : World} {A : Around} {E : Value → Shared → Prop} {s : Shared} {h₀ : Heap} {L : Addr} {m : Str → Option Value} {news news' : List (Addr × Obj)} {D : Addr} {vs : List Value} {c : Nat} {x : Value}
theorem appendL {Q : Value → Shared → Prop} (F : Fr h₀ L s.heap m) (N : News h₀ L s.heap news) (hz : vs.length ≤ 1048576) (U : Upd D (W.listOf vs.toArray c) (W.listOf (vs ++ [x]).toArray (c + 1)) news news')
    (h : ∀ h', Fr h₀ L h' m → News h₀ L h' news' → Q .none { s with heap := h' }) : wpAny (model prog w) A (call (.builtin "list.append") [.ref D, x]) Q E s :=
  append_K F N (by rw [List.push_toArray]; exact U) h (by rw [List.size_toArray, sizeLine_eq]; omega)
end
end Mine
namespace Mine
section
variable {prog : Program} {w : World} {A : Around} {E : Value → Shared → Prop} {s : Shared} {h₀ : Heap} {L : Addr} {m : Str → Option Value} {news news' : List (Addr × Obj)} {D : Addr} {vs : List Value} {c : Nat}
theorem reverseL {Q : Value → Shared → Prop} (F : Fr h₀ L s.heap m) (N : News h₀ L s.heap news) (hz : vs.length ≤ 1048576) (U : Upd D (W.listOf vs.toArray c) (W.listOf vs.reverse.toArray c) news news')
    (h : ∀ h', Fr h₀ L h' m → News h₀ L h' news' → Q .none { s with heap := h' }) : wpAny (model prog w) A (call (.builtin "list.reverse") [.ref D]) Q E s :=
  kl_reverse F N rfl U (by show vs.length ≤ _; rw [sizeLine_eq]; omega) h
end
end Mine
namespace Mine
section
variable {s0 g h h' : Heap} {L : Addr} {m : Str → Option Value} {news news1 rest : List (Addr × Obj)} {e7 e9 e7' e9' : Addr} {o7 x7 o9 x9 o7' x7' o9' x9' : Obj}
theorem t2_live {h1 : Heap} (t : T2 h o7' e7' x7' o9' e9' x9') (n7 : NewCode 87 e7 x7 e7' x7' h1) (n9 : NewCode 94 e9 x9 e9' x9' h1) : ∀ b ∈ [87, e7, 94, e9], ∃ o, h.get? b = some o := by
  intro b hb
  simp only [List.mem_cons, List.not_mem_nil, or_false] at hb
  rcases hb with rfl | rfl | rfl | rfl
  · exact ⟨_, t.1.2.1⟩
  · rcases n7 with ⟨q, _⟩ | ⟨q, _⟩
    · exact ⟨_, q ▸ t.1.2.2⟩
    · exact ⟨_, q ▸ t.1.2.1⟩
  · exact ⟨_, t.2.2.1⟩
  · rcases n9 with ⟨q, _⟩ | ⟨q, _⟩
    · exact ⟨_, q ▸ t.2.2.2⟩
    · exact ⟨_, q ▸ t.2.2.1⟩
/-- what lived at the def's start lives later on -/
theorem liveKB (kb : KB [87, e7, 94, e9] s0 g) (F : Fr g L h m) (live : ∀ b ∈ [87, e7, 94, e9], ∃ o, h.get? b = some o) {b : Addr} (hb : h.get? b = none) : s0.get? b = none := by
  cases q : s0.get? b with
  | none => rfl
  | some o =>
    by_cases hn : b ∈ [87, e7, 94, e9]
    · obtain ⟨o', ho⟩ := live b hn
      rw [ho] at hb; cases hb
    · rw [F.keep b o (kb b o hn q)] at hb; cases hb
theorem NewCode.back {P e : Addr} {x : Obj} {e' : Addr} {x' : Obj} (n : NewCode P e x e' x' h) (l : ∀ {b : Addr}, h.get? b = none → s0.get? b = none) : NewCode P e x e' x' s0 := n.elim .inl fun n => .inr ⟨n.1, l n.2⟩
/-- a frame's end where both tables may have turned -/
theorem kbTwo (kb : KB [87, e7, 94, e9] s0 g) (F : Fr g L h' m) (t0 : T2 s0 o7 e7 x7 o9 e9 x9) (t : T2 h' o7' e7' x7' o9' e9' x9') (n7 : NewCode 87 e7 x7 e7' x7' s0) (n9 : NewCode 94 e9 x9 e9' x9' s0) : KB [87, 94] s0 h' := by
  intro b o hb e
  have h87 : b ≠ 87 := fun q => hb (by rw [q]; exact .head _)
  have h94 : b ≠ 94 := fun q => hb (by rw [q]; exact .tail _ (.head _))
  by_cases q7 : b = e7
  · rcases n7 with ⟨q1, q2⟩ | ⟨q1, _⟩
    · have h1 := t0.1.2.2
      rw [← q7, e] at h1
      have h2 := t.1.2.2
      rw [q1, q2, ← q7, ← Option.some.inj h1] at h2
      exact h2
    · exact absurd (q7.trans q1) h87
  · by_cases q9 : b = e9
    · rcases n9 with ⟨q1, q2⟩ | ⟨q1, _⟩
      · have h1 := t0.2.2.2
        rw [← q9, e] at h1
        have h2 := t.2.2.2
        rw [q1, q2, ← q9, ← Option.some.inj h1] at h2
        exact h2
      · exact absurd (q9.trans q1) h94
    · exact F.keep b o (kb b o (by simp only [List.mem_cons, List.not_mem_nil, or_false, not_or]; exact ⟨h87, q7, h94, q9⟩) e)
end
end Mine
namespace Mine
section
variable {M : Model} {A : Around} {E : Value → Shared → Prop} {s : Shared} {h₀ : Heap} {L : Addr} {m : Str → Option Value} {news : List (Addr × Obj)} {vs : List Value} {Q : Value → Shared → Prop}
theorem newTupleL (F : Fr h₀ L s.heap m) (N : News h₀ L s.heap news) (hz : vs.length ≤ 1000)
    (h : ∀ D h', Fr h₀ L h' m → News h₀ L h' ((D, { cls := .type "tuple", data := .seq vs.toArray }) :: news) → (∀ p ∈ news, p.1 < D) → @LT.lt Nat _ L D → Q (.ref D) { s with heap := h' }) : wpAny M A (newTuple vs) Q E s :=
  newTuple_N F N (fun h' F' N' => h _ h' F' N' (fun p hp => Heap.lt_size (N p hp).1) F.ns.lt) (by rw [sizeLine_eq]; omega)
theorem newListL (F : Fr h₀ L s.heap m) (N : News h₀ L s.heap news) (hz : vs.length ≤ 1000)
    (h : ∀ D h', Fr h₀ L h' m → News h₀ L h' ((D, W.listOf vs.toArray 0) :: news) → (∀ p ∈ news, p.1 < D) → @LT.lt Nat _ L D → Q (.ref D) { s with heap := h' }) : wpAny M A (newList vs) Q E s :=
  newList_N F N (fun h' F' N' => h _ h' F' N' (fun p hp => Heap.lt_size (N p hp).1) F.ns.lt) (by rw [sizeLine_eq]; omega)
end
end Mine
namespace Mine
theorem NewCode.trans {P es e e' : Addr} {xs x x' : Obj} {h S0 : Heap} (n : NewCode P es xs e x S0) (f : NewCode P e x e' x' h) (lv : ∀ {b : Addr}, h.get? b = none → S0.get? b = none) : NewCode P es xs e' x' S0 := by
  rcases f with ⟨rfl, rfl⟩ | ⟨f1, f2⟩
  · exact n
  · rcases n with ⟨n1, _⟩ | ⟨n1, _⟩
    · exact .inr ⟨n1.symm.trans f1, lv f2⟩
    · exact .inr ⟨n1, lv f2⟩
end Mine
namespace Mine
/-- here the walk is to stand -/
def Stop (P : Prop) : Prop := P
theorem Stop.go {P : Prop} (h : Stop P) : P := h
end Mine
end
section
open PySem PySem.W PyProof.Rows PySem.Calls PySem.Spec
namespace Mine
def st9 : Stmt := sAt 9 PySem.Challenge.pw_pg0188_01.main.body
def for9 : Stmt := sAt 4 (sBody st9)
abbrev env9 (L : Addr) : Env := envX (Str.ofString "_divmod_pos") (sScope st9) L 106 (.ref 105) []

theorem revRest_drop {prog : Program} {w : World} {A : Around} {E : Value → Shared → Prop} {s : Shared} {env : Env} {h₀ : Heap} {x : Str} {body : List Stmt} {Q : Flow → Shared → Prop} {I : Addr} {lp : Addr × Obj} {l : List Value} {m : Str → Option Value} {news news' : List (Addr × Obj)}
    (sub : ∀ p ∈ news', p ∈ news) (h : RevRest prog w A E h₀ env x body Q s I lp l m news') : RevRest prog w A E h₀ env x body Q s I lp l m news := by
  cases l with
  | nil => exact RevRest.zero fun h1 tk F N => h h1 tk F (cb_drop N sub)
  | cons v r => exact RevRest.succ fun it h1 tk hc F N => h it h1 tk hc F (fun p hp => by
      rcases List.mem_cons.mp hp with rfl | hp
      · exact N _ (.head _)
      · exact N _ (.tail _ (sub p hp)))
set_option maxRecDepth 100000 in
set_option maxHeartbeats 8000000 in
theorem loopDiv {w : World} {p : Program} {loose : List Str} {mean : ExcName → Option Value} {mg mb : Str → Option Value} {base : Heap}
    {dp un : Nat} {gd : Option (List Code)} {outer : List Env} {env0 : Env} {A₀ : Around} {g : Heap} {L : Addr} {s : Shared} {Q : Flow → Shared → Prop} {E : Value → Shared → Prop} {I D lq : Addr} {vs : List Value} {ds : List Int} {y n : Int} {ty tn : Tok} {o7 : Obj} {e7 : Addr} {x7 : Obj} {o9 : Obj} {e9 : Addr} {x9 : Obj}
    (B : Below A₀ base (env0 :: outer) g) (X : (Mine.hd.heap_39 w.params).In g) (T : Top p loose mean mg mb g) (hdl : ds.length ≤ 200) (hdp : dp + 200 < recursionLimit) (hun : un + 2000 < cLine)
    (hy : 0 < y) (hy2 : y < 1048576) (hn : 0 < n) (hn2 : n < 24) (hne : @Ne Nat D lq ∧ @Ne Nat 87 lq ∧ @Ne Nat e7 lq ∧ @Ne Nat 94 lq ∧ @Ne Nat e9 lq ∧ @Ne Nat I lq ∧ @Ne Nat D I ∧ @Ne Nat 87 I ∧ @Ne Nat e7 I ∧ @Ne Nat 94 I ∧ @Ne Nat e9 I)
    (hds : ∀ d ∈ ds, 0 ≤ d ∧ d < 2 ^ n.toNat)
    (hQ : ∀ m h tk qv tr c, IntsAre qv (ldiv (2 ^ n.toNat) y ds).1.reverse → m (Str.ofString "r") = some (.int (ldiv (2 ^ n.toNat) y ds).2 tr) → m (Str.ofString "q_digits") = some (.ref lq) → m (Str.ofString "n") = some (.int n tn) →
      Fr g L h m → News g L h [(lq, W.listOf qv.toArray c), (D, W.listOf vs.toArray 0), (87, o7), (e7, x7), (94, o9), (e9, x9)] → Q .next { s with heap := h, toks := tk }) :
    ∀ (todo : List Value) (tds dn : List Int) (m : Str → Option Value) (qv : List Value) (tr : Tok) (c : Nat), IntsAre todo tds → ds = tds.reverse ++ dn → IntsAre qv (ldiv (2 ^ n.toNat) y dn).1.reverse →
      m (Str.ofString "r") = some (.int (ldiv (2 ^ n.toNat) y dn).2 tr) → m (Str.ofString "q_digits") = some (.ref lq) → m (Str.ofString "b") = some (.int y ty) → m (Str.ofString "n") = some (.int n tn) →
      RevRest PySem.Challenge.rw_pg0188_01.row.prog w (Around.deeper { handled := none, depth := dp, frames := some (env0 :: outer), guards := gd, units := un } (env9 L)) E g (env9 L) (Str.ofString "a_digit") (sBody for9) Q s I (D, W.listOf vs.toArray 0) todo m [(lq, W.listOf qv.toArray c), (D, W.listOf vs.toArray 0), (87, o7), (e7, x7), (94, o9), (e9, x9)] := by
  k_with "eval Name" => (refine' nameX_L (by k_asm) (by assumption) ?_ rfl rfl; k_whole)
  k_with "binaryOp LShift int int" => (refine Mine.lshX (by omega) (by omega) (by omega) (by omega) ?_; k_whole; intro _ _)
  k_with "call builtin:list.append" => ((try dsimp only [List.cons_append, List.nil_append]); refine' Mine.appendL (by k_asm) (by k_asm) ?_ (by k_upd) ?_; omega; k_whole; (intro _ _ _))
  k_with "ne" => (refine neN ?_; (try dsimp only); first | with_reducible assumption | exact Ne.symm (by with_reducible assumption) | exact Nat.ne_of_lt (by with_reducible assumption) | exact Nat.ne_of_gt (by with_reducible assumption) | omega)
  intro todo
  revert X
  k_fill
  intro X
  induction todo with
  | nil =>
    intro tds dn m qv tr c hi e hq h1 h2 h3 h4
    cases hi
    have e' : ds = dn := e
    subst e'
    exact RevRest.zero fun h tk F N => hQ m h tk qv tr c hq h1 h2 h4 F N
  | cons v todo IH =>
    intro tds dn m qv tr c hi e hq h1 h2 h3 h4
    cases hi with
    | cons d td hi =>
    rename_i tds
    have e2 : ds = tds.reverse ++ (d :: dn) := by rw [e, List.reverse_cons, List.append_assoc]; rfl
    have hd := hds d (by rw [e2]; simp)
    have hdn : ∀ x ∈ dn, 0 ≤ x ∧ x < 2 ^ n.toNat := fun x hx => hds x (by rw [e2]; simp [hx])
    obtain ⟨_, r0, r1, _⟩ := ldiv_spec (B := 2 ^ n.toNat) hy dn hdn
    have hql := hq.length
    rw [List.length_reverse, ldiv_length] at hql
    have hdl2 : tds.reverse.length + (dn.length + 1) = ds.length := by rw [e2, List.length_append, List.length_cons]
    refine RevRest.succ fun it h tk hc F N => ?_
    have hb : sBody for9 = sBody for9 := rfl
    conv at hb => rhs; whnf
    have hs : sScope st9 = sScope st9 := rfl
    conv at hs => rhs; whnf
    refine (id ?_ : wpAny _ _ _ _ _ _)
    k_fold
    dsimp only [env9] at F N ⊢
    rw [hb, hs]
    clear hb hs
    obtain ⟨y1, y2, y3, y4, y5, y6, y7, y8, y9, y10, y11⟩ := hne
    w_on
    w_strict k_steps
    rename_i z1 hz1
    obtain ⟨s0, s1⟩ := step_small r0 r1 hy2 hd (n := n.toNat) (by omega)
    rw [← hz1] at s0 s1
    refine div2 (base := base) _ _ _ _ _ _ _ _ _ _ _ _ _ _ _ _ (z1 + d) y n _ _ _ B F X T rfl (by ktr_room) (by ktr_units) s0 s1 hy hy2 hn ?_
    intro Dt t1 t2 h1' tk1 kb1 hsz1 gD1
    have F2 := frKB F kb1 (by exact List.not_mem_nil) (fun d hd => (nomatch hd))
    have N2 := addNew F (newsKB N kb1 (fun p hp => List.not_mem_nil)) hsz1 gD1
    have l1 := newsLt N hsz1
    simp only [AllLt, and_true] at l1
    clear F N
    w_strict k_steps
    subst hz1
    refine revRest_drop (by kcj_all) (IH tds (d :: dn) _ (qv ++ [_]) t2 (c + 1) hi e2 ?_ rfl h2 h3 h4)
    rw [ldiv, List.reverse_cons]
    exact IntsAre.append hq (.cons _ _ .nil)
  k_with_none
end Mine
end
section
open PySem PySem.W PyProof.Rows PySem.Calls PySem.Spec
namespace Mine

abbrev N4 (o7 : Obj) (e7 : Addr) (x7 : Obj) (o9 : Obj) (e9 : Addr) (x9 : Obj) : List (Addr × Obj) := [(87, o7), (e7, x7), (94, o9), (e9, x9)]
abbrev DivP (w : World) (p : Program) (loose : List Str) (mean : ExcName → Option Value) (mg mb : Str → Option Value) (base : Heap) : Prop :=
  ∀ (dp un : Nat) (gd : Option (List Code)) (cn : Str) (cs : Scope) (a : Addr) (ccd : Value) (cl : List (Str × Addr)) (outer : List Env) (A₀ : Around) (h₀ : Heap) (L : Addr) (m : Str → Option Value) (s : Shared)
    (Q E : Value → Shared → Prop) (x y : Int) (tx ty : Tok) (o7 : Obj) (e7 : Addr) (x7 : Obj) (o9 : Obj) (e9 : Addr) (x9 : Obj),
    Below A₀ base outer h₀ → Fr h₀ L s.heap m → (Mine.hd.heap_39 w.params).In h₀ → Top p loose mean mg mb h₀ → cs.kind = .function →
    News h₀ L s.heap (N4 o7 e7 x7 o9 e9 x9) → TabL 87 59 4 Q87 o7 e7 x7 → TabL 94 74 4 Q94 o9 e9 x9 →
    dp + 400 < recursionLimit → un + 4000 < cLine → 0 ≤ x → x < 2 ^ 60 → 0 < y → y < 1048576 →
    (∀ D t1 t2 h' tk' o7' e7' x7' o9' e9' x9', KB [87, 94] s.heap h' → s.heap.objs.size ≤ D → h'.get? D = some (tup2 (.int (x / y) t1) (.int (x % y) t2)) →
      T2 h' o7' e7' x7' o9' e9' x9' → NewCode 87 e7 x7 e7' x7' s.heap → NewCode 94 e9 x9 e9' x9' s.heap → Q (.ref D) { s with heap := h', toks := tk' }) →
    wpAny (model PySem.Challenge.rw_pg0188_01.row.prog w) (ktrTop dp un gd cn cs L a ccd cl outer) (call (.ref 106) [.int x tx, .int y ty]) Q E s

set_option maxRecDepth 100000 in
set_option maxHeartbeats 8000000 in
theorem divp {w : World} {p : Program} {loose : List Str} {mean : ExcName → Option Value} {mg mb : Str → Option Value} {base : Heap} (C1 : CodeHd base 91 87) (C2 : CodeHd base 98 94) : DivP w p loose mean mg mb base := by
  k_with "eval Name" => (refine' nameX_L (by k_asm) (by assumption) ?_ rfl rfl; k_whole)
  k_with "call builtin:list.reverse" => ((try dsimp only [List.cons_append, List.nil_append]); refine' Mine.reverseL (by k_asm) (by k_asm) ?_ (by k_upd) ?_; omega; k_whole; (intro _ _ _))
  k_with "newTuple" => (refine' Mine.newTupleL (by k_asm) (by k_asm) (by exact Nat.le_of_ble_eq_true rfl) ?_; k_whole; (intro _ _ _ _); walk_at "my lt2")
  intro dp un gd cn cs a ccd cl outer A₀ h₀ L m s Q E x y tx ty o7 e7 x7 o9 e9 x9
  k_fill
  intro B F X T hk N t7 t9 hdp hun hx hx2 hy hy2 hret
  have ap9 := tab_apart t7 t9 (News.get N (by k_mem)) (News.get N (by k_mem)) (by decide)
  have ap7 := tab_apart t9 t7 (News.get N (by k_mem)) (News.get N (by k_mem)) (by decide)
  have t2s := t2_news N t7 t9 (by k_mem) (by k_mem) (by k_mem) (by k_mem)
  refine wpAny_call ?_
  k_dflt ((refine' Mine.enterK ?k1v6 ?k2v6 ?k3v6 ?k4v6 ?k5v6 ?kAv6 ?kFv6 ?kKv6 ?k6v6 ?k7v6 ?k8v6 ?k9v6 ?kBv6 ?_ ?c5v6 ?c2v6 ?c3v6 ?c4v6; (case kAv6 => exact rfl); (case kFv6 => exact rfl); (case kKv6 => first | exact rfl | assumption); (case k1v6 => k_asm); (case k2v6 => k_asm); (case k3v6 => k_asm); (case k4v6 => k_asm); (case k5v6 => k_asm); (case k6v6 => k_is); (case k7v6 => k_is); (case k8v6 => ktr_room); (case k9v6 => exact BindsTo.of_eq rfl); (case c5v6 => decide); (case kBv6 => exact locs rfl); (case c2v6 => exact rfl); (case c3v6 => exact rfl); (case c4v6 => exact rfl); k_whole))
  intro g' L' h' kb' hl' F' N' B' X' T'
  clear X T
  (try dsimp only)
  have hn0 : (0 : Int) < Builtin.Int.intBits y := bits_pos hy
  have hn1 : (Builtin.Int.intBits y : Int) < 24 := bits_lt hy2 hy
  dsimp only [N4] at N'
  w_on
  w_strict k_steps
  generalize hn : (Builtin.Int.intBits y : Int) = n at *
  rename Fr g' L' _ _ => F1
  rename News g' L' _ _ => N1
  have t2a := t2_news N1 t7 t9 (by k_mem) (by k_mem) (by k_mem) (by k_mem)
  refine int2d C1 _ _ _ _ _ _ _ _ _ _ _ _ _ _ _ _ x n _ _ _ _ _ B' F1 X' T' rfl (N1 (87, _) (by k_mem)).2.2 (N1 (87, _) (by k_mem)).2.1 t7 t2a.1.2.1 t2a.1.2.2 (by ktr_room) (by ktr_units) hx hx2 hn0 (by omega) ?_
  intro D vs1 h1 tk1 o7a e7a x7a kb1 hsz1 gD1 t7a g7a ge7a f7a hi1
  have t2b := t2_of7 t2a kb1 t7a g7a ge7a
  obtain ⟨F2, N2, l1, l2, l3, l4, l5⟩ := after2 (cs := []) F1 N1 (kb1.mono (by simp)) (by k_mem) (by k_mem) (by k_mem) (by k_mem) (fun _ h => nomatch h) trivial trivial trivial trivial t2b f7a (.inl ⟨rfl, rfl⟩) hsz1 gD1 rfl
  simp only [AllLt, and_true] at l1
  clear l2 l3
  have f7s := f7a.back (s0 := s.heap) (fun hb => liveKB kb' F1 (t2_live t2a (.inl ⟨rfl, rfl⟩ : NewCode 87 e7 x7 e7 x7 s.heap) (.inl ⟨rfl, rfl⟩ : NewCode 94 e9 x9 e9 x9 s.heap)) hb)
  obtain ⟨c1, c2, c3, c4, c5⟩ := cnt_facts hx hx2 hn0 (by omega)
  have hB : (0 : Int) < 2 ^ n.toNat := Int.pow_pos (by decide)
  rw [Int.pow_mul] at c5
  obtain ⟨hdu, hds⟩ := digs_spec hB (cnt x n).toNat x hx c5
  obtain ⟨hv1, hv2, hv3⟩ := ldiv_whole hy hx c5 hx2
  have hdl := digs_length (2 ^ n.toNat) (cnt x n).toNat x
  w_strict k_steps
  rename_i lq hB1 l1a hB2 I hB3 F3 N3 l1b
  refine iter_revUnr (lo := W.listOf vs1.toArray 0) (vs := vs1) rfl F3 N3 (by k_offL) (by k_mem) rfl rfl ?_
  with_unfolding_all refine loopDiv (base := base) (I := I) (D := D) (lq := lq) (vs := vs1) (ds := digs (2 ^ n.toNat) (cnt x n).toNat x) (y := y) (n := n) B' X' T' (by omega) (by ktr_room) (by ktr_units) hy hy2 hn0 hn1 (by refine ⟨?_, ?_, ?_, ?_, ?_, ?_, ?_, ?_, ?_, ?_, ?_⟩ <;> omega) hds ?_ vs1.reverse (digs (2 ^ n.toNat) (cnt x n).toNat x).reverse [] _ [] _ 0 (PyProof.Rows.IntsAre.reverse hi1) (by simp) .nil rfl rfl rfl rfl
  have hql := ldiv_length (2 ^ n.toNat) y (digs (2 ^ n.toNat) (cnt x n).toNat x)
  intro m4 h4 tk4 qv tr c hqv hm1 hm2 hm3 F4 N4'
  have hqvl := hqv.length
  rw [List.length_reverse] at hqvl
  w_strict k_steps
  rename Fr g' L' _ _ => F5
  rename News g' L' _ _ => N5
  have hqr : IntsAre qv.reverse (ldiv (2 ^ n.toNat) y (digs (2 ^ n.toNat) (cnt x n).toNat x)).1 := by
    have := PyProof.Rows.IntsAre.reverse hqv
    rwa [List.reverse_reverse] at this
  have t2c := t2_news N5 t7a t9 (by k_mem) (by k_mem) (by k_mem) (by k_mem)
  refine digs2i C2 _ _ _ _ _ _ _ _ _ _ _ _ _ _ _ _ lq qv.reverse _ c n _ _ _ _ B' F5 X' T' rfl (N5 (94, _) (by k_mem)).2.2 (N5 (94, _) (by k_mem)).2.1 t9 t2c.2.2.1 t2c.2.2.2 (by ktr_room) (by ktr_units) (News.get N5 (.head _)) (N5 (lq, _) (.head _)).2.2 (N5 (lq, _) (.head _)).2.1 hqr (by omega) hn0 (by omega) hv3 ?_
  intro t6 h6 tk6 o9b e9b x9b kb6 t9b g9b ge9b f9b
  have t2d := t2_of9 t2c kb6 t9b g9b ge9b
  have f9s := f9b.back (s0 := s.heap) (fun hb => liveKB kb' F5 (t2_live t2c f7s (.inl ⟨rfl, rfl⟩ : NewCode 94 e9 x9 e9 x9 s.heap)) hb)
  obtain ⟨F6, N6, k1, k2⟩ := after0 (cs := []) F5 N5 (kb6.mono (by simp)) (by k_mem) (by k_mem) (by k_mem) (by k_mem) (fun _ h => nomatch h) trivial trivial trivial trivial t2d (.inl ⟨rfl, rfl⟩) f9b
  clear k1 k2 F5 N5
  w_strict k_steps
  rename Fr g' L' _ _ => F7
  rename News g' L' _ _ => N7
  rename @LT.lt Nat _ L' _ => lD
  have t2e := t2_news N7 t7a t9b (by k_mem) (by k_mem) (by k_mem) (by k_mem)
  rw [hv1, hv2] at N7
  exact hret _ _ _ _ _ _ _ _ _ _ _ (kbTwo kb' F7 t2s t2e f7s f9s) (by omega) (News.get N7 (.head _)) t2e f7s f9s
  k_with_none
end Mine
end
section
open PySem PySem.W PyProof.Rows PySem.Calls PySem.Spec
namespace Mine

abbrev IDiv (w : World) (p : Program) (loose : List Str) (mean : ExcName → Option Value) (mg mb : Str → Option Value) (base : Heap) (dpn unn : Nat) (lo : Int) : Prop :=
  ∀ (dp un : Nat) (gd : Option (List Code)) (cn : Str) (cs : Scope) (a : Addr) (ccd : Value) (cl : List (Str × Addr)) (outer : List Env) (A₀ : Around) (h₀ : Heap) (L : Addr) (m : Str → Option Value) (s : Shared)
    (Q E : Value → Shared → Prop) (x y : Int) (tx ty : Tok) (o7 : Obj) (e7 : Addr) (x7 : Obj) (o9 : Obj) (e9 : Addr) (x9 : Obj),
    Below A₀ base outer h₀ → Fr h₀ L s.heap m → (Mine.hd.heap_39 w.params).In h₀ → Top p loose mean mg mb h₀ → cs.kind = .function →
    News h₀ L s.heap (N4 o7 e7 x7 o9 e9 x9) → TabL 87 59 4 Q87 o7 e7 x7 → TabL 94 74 4 Q94 o9 e9 x9 →
    dp + dpn < recursionLimit → un + unn < cLine → lo ≤ x → x < 2 ^ 60 → 0 < y → y < 1048576 →
    (∀ D t1 t2 h' tk' o7' e7' x7' o9' e9' x9', KB [87, 94] s.heap h' → s.heap.objs.size ≤ D → h'.get? D = some (tup2 (.int (x / y) t1) (.int (x % y) t2)) →
      T2 h' o7' e7' x7' o9' e9' x9' → NewCode 87 e7 x7 e7' x7' s.heap → NewCode 94 e9 x9 e9' x9' s.heap → Q (.ref D) { s with heap := h', toks := tk' }) →
    wpAny (model PySem.Challenge.rw_pg0188_01.row.prog w) (ktrTop dp un gd cn cs L a ccd cl outer) (call (.ref 113) [.int x tx, .int y ty]) Q E s

set_option maxRecDepth 100000 in
set_option maxHeartbeats 8000000 in
theorem idiv0 {w : World} {p : Program} {loose : List Str} {mean : ExcName → Option Value} {mg mb : Str → Option Value} {base : Heap} (C1 : CodeHd base 91 87) (C2 : CodeHd base 98 94) : IDiv w p loose mean mg mb base 420 4100 0 := by
  k_with "newTuple" => (refine' Mine.newTupleL (by k_asm) (by k_asm) (by exact Nat.le_of_ble_eq_true rfl) ?_; k_whole; (intro _ _ _ _); walk_at "my lt2")
  intro dp un gd cn cs a ccd cl outer A₀ h₀ L m s Q E x y tx ty o7 e7 x7 o9 e9 x9
  k_fill
  intro B F X T hk N t7 t9 hdp hun hx hx2 hy hy2 hret
  have t2s := t2_news N t7 t9 (by k_mem) (by k_mem) (by k_mem) (by k_mem)
  refine wpAny_call ?_
  k_dflt ((refine' Mine.enterK ?k1v7 ?k2v7 ?k3v7 ?k4v7 ?k5v7 ?kAv7 ?kFv7 ?kKv7 ?k6v7 ?k7v7 ?k8v7 ?k9v7 ?kBv7 ?_ ?c5v7 ?c2v7 ?c3v7 ?c4v7; (case kAv7 => exact rfl); (case kFv7 => exact rfl); (case kKv7 => first | exact rfl | assumption); (case k1v7 => k_asm); (case k2v7 => k_asm); (case k3v7 => k_asm); (case k4v7 => k_asm); (case k5v7 => k_asm); (case k6v7 => k_is); (case k7v7 => k_is); (case k8v7 => ktr_room); (case k9v7 => exact BindsTo.of_eq rfl); (case c5v7 => decide); (case kBv7 => exact locs rfl); (case c2v7 => exact rfl); (case c3v7 => exact rfl); (case c4v7 => exact rfl); k_whole))
  intro g' L' h' kb' hl' F' N' B' X' T'
  clear X T
  (try dsimp only)
  dsimp only [N4] at N'
  w_on
  w_strict k_steps
  · exfalso; omega
  · rename Fr g' L' _ _ => F1
    rename News g' L' _ _ => N1
    have Lt := F1.ns.lt
    refine divp C1 C2 _ _ _ _ _ _ _ _ _ _ _ _ _ _ _ _ x y _ _ _ _ _ _ _ _ B' F1 X' T' rfl N1 t7 t9 (by ktr_room) (by ktr_units) (by omega) hx2 hy hy2 ?_
    intro D t1 t2 h1 tk1 o7a e7a x7a o9a e9a x9a kb1 hsz1 gD1 t2a f7a f9a
    have t2f := t2_news N1 t7 t9 (by k_mem) (by k_mem) (by k_mem) (by k_mem)
    have lv := fun {b : Addr} hb => liveKB (b := b) kb' F1 (t2_live t2f (.inl ⟨rfl, rfl⟩ : NewCode 87 e7 x7 e7 x7 s.heap) (.inl ⟨rfl, rfl⟩ : NewCode 94 e9 x9 e9 x9 s.heap)) hb
    have f7s := f7a.back (s0 := s.heap) lv
    have f9s := f9a.back (s0 := s.heap) lv
    obtain ⟨F2, N2, k1, k2⟩ := after0 (cs := []) F1 N1 kb1 (by k_mem) (by k_mem) (by k_mem) (by k_mem) (fun _ h => nomatch h) trivial trivial trivial trivial t2a f7a f9a
    w_strict k_steps
    exact hret _ _ _ _ _ _ _ _ _ _ _ (kbTwo kb' F2 t2s t2a f7s f9s) (Nat.le_trans (Nat.le_trans hl' (Nat.le_of_lt Lt)) hsz1) gD1 t2a f7s f9s
  k_with_none
theorem neg_div {x y : Int} (hy : 0 < y) : x / y = -((-x - 1) / y) - 1 ∧ x % y = y + (-((-x - 1) % y) - 1) := by
  have h1 := Int.emod_add_mul_ediv (-x - 1) y
  have h2 := Int.emod_nonneg (-x - 1) (Int.ne_of_gt hy)
  have h3 := Int.emod_lt_of_pos (-x - 1) hy
  generalize (-x - 1) / y = q at *
  generalize (-x - 1) % y = r at *
  have e : x = (y + (-r - 1)) + y * (-q - 1) := by
    have : y * (-q - 1) = -(y * q) - y := by rw [Int.mul_sub, Int.mul_one, Int.mul_neg]
    rw [this]; omega
  constructor
  · rw [e, Int.add_mul_ediv_left _ _ (Int.ne_of_gt hy), Int.ediv_eq_zero_of_lt (by omega) (by omega)]; omega
  · rw [e, Int.add_mul_emod_self_left, Int.emod_eq_of_lt (by omega) (by omega)]
set_option maxRecDepth 100000 in
set_option maxHeartbeats 8000000 in
theorem idiv {w : World} {p : Program} {loose : List Str} {mean : ExcName → Option Value} {mg mb : Str → Option Value} {base : Heap} (C1 : CodeHd base 91 87) (C2 : CodeHd base 98 94) : IDiv w p loose mean mg mb base 440 4200 (-(2 ^ 59)) := by
  k_with "newTuple" => (refine' Mine.newTupleL (by k_asm) (by k_asm) (by exact Nat.le_of_ble_eq_true rfl) ?_; k_whole; (intro _ _ _ _); walk_at "my lt2")
  intro dp un gd cn cs a ccd cl outer A₀ h₀ L m s Q E x y tx ty o7 e7 x7 o9 e9 x9
  k_fill
  intro B F X T hk N t7 t9 hdp hun hx hx2 hy hy2 hret
  by_cases hx0 : 0 ≤ x
  · exact idiv0 C1 C2 _ _ _ _ _ _ _ _ _ _ _ _ _ _ _ _ x y _ _ _ _ _ _ _ _ B F X T hk N t7 t9 (by omega) (by omega) hx0 hx2 hy hy2 hret
  have t2s := t2_news N t7 t9 (by k_mem) (by k_mem) (by k_mem) (by k_mem)
  refine wpAny_call ?_
  k_dflt ((refine' Mine.enterK ?k1v8 ?k2v8 ?k3v8 ?k4v8 ?k5v8 ?kAv8 ?kFv8 ?kKv8 ?k6v8 ?k7v8 ?k8v8 ?k9v8 ?kBv8 ?_ ?c5v8 ?c2v8 ?c3v8 ?c4v8; (case kAv8 => exact rfl); (case kFv8 => exact rfl); (case kKv8 => first | exact rfl | assumption); (case k1v8 => k_asm); (case k2v8 => k_asm); (case k3v8 => k_asm); (case k4v8 => k_asm); (case k5v8 => k_asm); (case k6v8 => k_is); (case k7v8 => k_is); (case k8v8 => ktr_room); (case k9v8 => exact BindsTo.of_eq rfl); (case c5v8 => decide); (case kBv8 => exact locs rfl); (case c2v8 => exact rfl); (case c3v8 => exact rfl); (case c4v8 => exact rfl); k_whole))
  intro g' L' h' kb' hl' F' N' B' X' T'
  clear X T
  (try dsimp only)
  dsimp only [N4] at N'
  w_on
  w_strict k_steps
  · exfalso; omega
  · rename Fr g' L' _ _ => F1
    rename News g' L' _ _ => N1
    have Lt := F1.ns.lt
    have en : Builtin.bitNot x = -x - 1 := by unfold Builtin.bitNot; omega
    rw [en]
    have ap9 := tab_apart t7 t9 (News.get N (by k_mem)) (News.get N (by k_mem)) (by decide)
    have ap7 := tab_apart t9 t7 (News.get N (by k_mem)) (News.get N (by k_mem)) (by decide)
    refine idiv0 C1 C2 _ _ _ _ _ _ _ _ _ _ _ _ _ _ _ _ (-x - 1) y _ _ _ _ _ _ _ _ B' F1 X' T' rfl N1 t7 t9 (by ktr_room) (by ktr_units) (by omega) (by omega) hy hy2 ?_
    intro D t1 t2 h1 tk1 o7a e7a x7a o9a e9a x9a kb1 hsz1 gD1 t2a f7a f9a
    have t2f := t2_news N1 t7 t9 (by k_mem) (by k_mem) (by k_mem) (by k_mem)
    have lv := fun {b : Addr} hb => liveKB (b := b) kb' F1 (t2_live t2f (.inl ⟨rfl, rfl⟩ : NewCode 87 e7 x7 e7 x7 s.heap) (.inl ⟨rfl, rfl⟩ : NewCode 94 e9 x9 e9 x9 s.heap)) hb
    have f7s := f7a.back (s0 := s.heap) lv
    have f9s := f9a.back (s0 := s.heap) lv
    obtain ⟨F2, N2, l1, _, _, l4, l5⟩ := after2 (cs := []) F1 N1 kb1 (by k_mem) (by k_mem) (by k_mem) (by k_mem) (fun _ h => nomatch h) trivial trivial trivial trivial t2a f7a f9a hsz1 gD1 rfl
    simp only [AllLt, and_true] at l1
    obtain ⟨d1, d2⟩ := neg_div (x := x) hy
    clear F1 N1
    w_strict k_steps
    rename Fr g' L' _ _ => F7
    rename News g' L' _ _ => N7
    rename @LT.lt Nat _ L' _ => lD
    have t2e := t2_news N7 t2a.1.1 t2a.2.1 (by k_mem) (by k_mem) (by k_mem) (by k_mem)
    have eb : ∀ z : Int, Builtin.bitNot z = -z - 1 := fun z => by unfold Builtin.bitNot; omega
    rw [eb, eb, ← d1, ← d2] at N7
    exact hret _ _ _ _ _ _ _ _ _ _ _ (kbTwo kb' F7 t2s t2e f7s f9s) (by omega) (News.get N7 (.head _)) t2e f7s f9s
  k_with_none
end Mine
end
section
open PySem PySem.W PyProof.Rows PySem.Calls PySem.Spec
namespace Mine
def st13 : Stmt := sAt 13 PySem.Challenge.pw_pg0188_01.main.body
def for13 : Stmt := sAt 1 (sBody st13)
abbrev env13 (L : Addr) : Env := envX (Str.ofString "_law_run") (sScope st13) L 127 (.ref 126) []
section
variable {prog : Program} {w : World} {A : Around} {E : Value → Shared → Prop} {s : Shared} {a b : Int} {t u : Tok} {Q : Value → Shared → Prop}
theorem mulS (hb : -(2 ^ 60) < b ∧ b < 2 ^ 60) (h : Q (.int (a * b) s.toks) { s with toks := s.toks + 1 }) : wpAny (model prog w) A (binaryOp .Mult (.int a t) (.int b u)) Q E s :=
  mul_int h (.of_right (intBits_le_64 (by omega) (by omega)))
end
theorem rangeRest_drop {prog : Program} {w : World} {A : Around} {E : Value → Shared → Prop} {s : Shared} {env : Env} {h₀ : Heap} {x : Str} {body : List Stmt} {Q : Flow → Shared → Prop} {I : Addr} {a : Int} {n k i : Nat} {m : Str → Option Value} {news news' : List (Addr × Obj)}
    (sub : ∀ p ∈ news', p ∈ news) (h : RangeRest prog w A E h₀ env x body Q s I a n k i m news') : RangeRest prog w A E h₀ env x body Q s I a n k i m news := by
  cases k with
  | zero => exact RangeRest.zero fun h1 tk F N => h h1 tk F (cb_drop N sub)
  | succ k => exact RangeRest.succ fun t h1 tk F N => h t h1 tk F (fun p hp => by
      rcases List.mem_cons.mp hp with rfl | hp
      · exact N _ (.head _)
      · exact N _ (.tail _ (sub p hp)))
set_option maxRecDepth 100000 in
set_option maxHeartbeats 8000000 in
theorem loopRun {w : World} {p : Program} {loose : List Str} {mean : ExcName → Option Value} {mg mb : Str → Option Value} {base : Heap} (C1 : CodeHd base 91 87) (C2 : CodeHd base 98 94)
    {dp un : Nat} {gd : Option (List Code)} {outer : List Env} {env0 : Env} {A₀ : Around} {g S0 : Heap} {L : Addr} {s : Shared} {Q : Flow → Shared → Prop} {E : Value → Shared → Prop} {I lf : Addr} {B t u : Int} {tB tt : Tok} {e7s : Addr} {x7s : Obj} {e9s : Addr} {x9s : Obj}
    (BB : Below A₀ base (env0 :: outer) g) (X : (Mine.hd.heap_39 w.params).In g) (T : Top p loose mean mg mb g) (hdp : dp + 500 < recursionLimit) (hun : un + 5000 < cLine)
    (hB : 0 < B) (hB2 : B < 1048576) (ht : -1000 < t ∧ t < 1000) (hb : ∀ i, -(2 ^ 50) < runH B t i u ∧ runH B t i u < 2 ^ 50)
    (hn1 : @Ne Nat 87 lf) (hn2 : @Ne Nat 94 lf) (hn3 : @Ne Nat I lf) (hn4 : @Ne Nat 87 I) (hn5 : @Ne Nat 94 I) (kb0 : KB [87, e7s, 94, e9s] S0 g)
    (hQ : ∀ m h tk fv th c o7 e7 x7 o9 e9 x9, IntsAre fv (runF B t 4 u) → m (Str.ofString "here") = some (.int (runH B t 4 u) th) → m (Str.ofString "figures") = some (.ref lf) →
      Fr g L h m → News g L h [(lf, W.listOf fv.toArray c), (87, o7), (e7, x7), (94, o9), (e9, x9)] → TabL 87 59 4 Q87 o7 e7 x7 → TabL 94 74 4 Q94 o9 e9 x9 → NewCode 87 e7s x7s e7 x7 S0 → NewCode 94 e9s x9s e9 x9 S0 → @Ne Nat e7 lf → @Ne Nat e9 lf → Q .next { s with heap := h, toks := tk }) :
    ∀ (k i : Nat) (m : Str → Option Value) (fv : List Value) (th : Tok) (c : Nat) (o7 : Obj) (e7 : Addr) (x7 : Obj) (o9 : Obj) (e9 : Addr) (x9 : Obj), k + i = 4 → IntsAre fv (runF B t i u) → m (Str.ofString "here") = some (.int (runH B t i u) th) → m (Str.ofString "figures") = some (.ref lf) → m (Str.ofString "base") = some (.int B tB) → m (Str.ofString "turn") = some (.int t tt) →
      TabL 87 59 4 Q87 o7 e7 x7 → TabL 94 74 4 Q94 o9 e9 x9 → NewCode 87 e7s x7s e7 x7 S0 → NewCode 94 e9s x9s e9 x9 S0 → @Ne Nat e7 lf → @Ne Nat e9 lf → @Ne Nat e7 I → @Ne Nat e9 I →
      RangeRest PySem.Challenge.rw_pg0188_01.row.prog w (Around.deeper { handled := none, depth := dp, frames := some (env0 :: outer), guards := gd, units := un } (env13 L)) E g (env13 L) (Str.ofString "step") (sBody for13) Q s I 0 4 k i m [(lf, W.listOf fv.toArray c), (87, o7), (e7, x7), (94, o9), (e9, x9)] := by
  k_with "eval Name" => (refine' nameX_L (by k_asm) (by assumption) ?_ rfl rfl; k_whole)
  k_with "binaryOp Mult int int" => (refine Mine.mulS (by omega) ?_; k_whole)
  k_with "call builtin:list.append" => ((try dsimp only [List.cons_append, List.nil_append]); refine' Mine.appendL (by k_asm) (by k_asm) ?_ (by k_upd) ?_; omega; k_whole; (intro _ _ _))
  k_with "ne" => (refine neN ?_; (try dsimp only); first | with_reducible assumption | exact Ne.symm (by with_reducible assumption) | omega)
  intro k
  revert X
  k_fill
  intro X
  induction k with
  | zero =>
    intro i m fv th c o7 e7 x7 o9 e9 x9 hki hf h1 h2 h3 h4 t7 t9 n7 n9 hm1 hm2 hm3 hm4
    obtain rfl : i = 4 := by omega
    exact RangeRest.zero fun h tk F N => hQ m h tk fv th c _ _ _ _ _ _ hf h1 h2 F N t7 t9 n7 n9 hm1 hm2
  | succ k IH =>
    intro i m fv th c o7 e7 x7 o9 e9 x9 hki hf h1 h2 h3 h4 t7 t9 n7 n9 hm1 hm2 hm3 hm4
    have hfl := hf.length
    rw [runF_length] at hfl
    have hbi := hb i
    refine RangeRest.succ fun ts h tk F N => ?_
    have hb : sBody for13 = sBody for13 := rfl
    conv at hb => rhs; whnf
    have hs : sScope st13 = sScope st13 := rfl
    conv at hs => rhs; whnf
    refine (id ?_ : wpAny _ _ _ _ _ _)
    k_fold
    dsimp only [env13] at F N ⊢
    rw [hb, hs]
    clear hb hs
    w_on
    w_strict k_steps
    have t2f := t2_news N t7 t9 (by k_mem) (by k_mem) (by k_mem) (by k_mem)
    have lv := fun {b : Addr} hb => liveKB (b := b) kb0 F (t2_live t2f n7 n9) hb
    refine idiv C1 C2 _ _ _ _ _ _ _ _ _ _ _ _ _ _ _ _ (runH B t i u) B _ _ _ _ _ _ _ _ BB F X T rfl (cb_drop N (by kcj_all)) t7 t9 (by ktr_room) (by ktr_units) (by omega) (by omega) hB hB2 ?_
    intro D t1 t2 h1' tk1 o7a e7a x7a o9a e9a x9a kb1 hsz1 gD1 t2a f7a f9a
    obtain ⟨F2, N2, l1, l2, l3, l4, l5⟩ := after2 (cs := [(I, _), (lf, _)]) F N kb1 (by k_mem) (by k_mem) (by k_mem) (by k_mem) (by kcj_all) ⟨hn4.symm, hn1.symm, trivial⟩ ⟨hn5.symm, hn2.symm, trivial⟩ ⟨hm3.symm, hm1.symm, trivial⟩ ⟨hm4.symm, hm2.symm, trivial⟩ t2a f7a f9a hsz1 gD1 rfl
    simp only [AllLt, and_true] at l1
    obtain ⟨k1, k2, _⟩ := l2
    obtain ⟨k3, k4, _⟩ := l3
    dsimp only at k1 k2 k3 k4
    have n7a := n7.trans f7a lv
    have n9a := n9.trans f9a lv
    clear F N
    w_strict k_steps
    rename News g L _ _ => N7
    refine rangeRest_drop (by kcj_all) (IH (i + 1) _ (fv ++ [_]) _ (c + 1) _ _ _ _ _ _ (by omega) ?_ rfl h2 h3 h4 t2a.1.1 t2a.2.1 n7a n9a k2.symm k4.symm k1.symm k3.symm)
    rw [runF]
    exact IntsAre.append hf (.cons _ _ .nil)
  k_with_none
end Mine
end
section
open PySem PySem.W PyProof.Rows PySem.Calls PySem.Spec
namespace Mine

abbrev LRun (w : World) (p : Program) (loose : List Str) (mean : ExcName → Option Value) (mg mb : Str → Option Value) (base : Heap) : Prop :=
  ∀ (dp un : Nat) (gd : Option (List Code)) (cn : Str) (cs : Scope) (a : Addr) (ccd : Value) (cl : List (Str × Addr)) (outer : List Env) (A₀ : Around) (h₀ : Heap) (L : Addr) (m : Str → Option Value) (s : Shared)
    (Q E : Value → Shared → Prop) (u t B : Int) (tu tt tB : Tok) (o7 : Obj) (e7 : Addr) (x7 : Obj) (o9 : Obj) (e9 : Addr) (x9 : Obj),
    Below A₀ base outer h₀ → Fr h₀ L s.heap m → (Mine.hd.heap_39 w.params).In h₀ → Top p loose mean mg mb h₀ → cs.kind = .function →
    News h₀ L s.heap (N4 o7 e7 x7 o9 e9 x9) → TabL 87 59 4 Q87 o7 e7 x7 → TabL 94 74 4 Q94 o9 e9 x9 →
    dp + 510 < recursionLimit → un + 5100 < cLine → 0 < B → B < 1048576 → -1000 < t ∧ t < 1000 → (∀ i, -(2 ^ 50) < runH B t i u ∧ runH B t i u < 2 ^ 50) →
    (∀ D lf fv th c h' tk' o7' e7' x7' o9' e9' x9', KB [87, 94] s.heap h' → s.heap.objs.size ≤ D → s.heap.objs.size ≤ lf → @Ne Nat D lf → h'.get? D = some (tup2 (.ref lf) (.int (runH B t 4 u) th)) → h'.get? lf = some (W.listOf fv.toArray c) → IntsAre fv (runF B t 4 u) →
      T2 h' o7' e7' x7' o9' e9' x9' → NewCode 87 e7 x7 e7' x7' s.heap → NewCode 94 e9 x9 e9' x9' s.heap → Q (.ref D) { s with heap := h', toks := tk' }) →
    wpAny (model PySem.Challenge.rw_pg0188_01.row.prog w) (ktrTop dp un gd cn cs L a ccd cl outer) (call (.ref 127) [.int u tu, .int t tt, .int B tB]) Q E s

set_option maxRecDepth 100000 in
set_option maxHeartbeats 8000000 in
theorem lrun {w : World} {p : Program} {loose : List Str} {mean : ExcName → Option Value} {mg mb : Str → Option Value} {base : Heap} (C1 : CodeHd base 91 87) (C2 : CodeHd base 98 94) : LRun w p loose mean mg mb base := by
  k_with "newTuple" => (refine' Mine.newTupleL (by k_asm) (by k_asm) (by exact Nat.le_of_ble_eq_true rfl) ?_; k_whole; (intro _ _ _ _); walk_at "my lt2")
  k_with "newList" => (refine' Mine.newListL (by k_asm) (by k_asm) (by exact Nat.le_of_ble_eq_true rfl) ?_; k_whole; (intro _ _ _ _); walk_at "my lt2")
  k_with "pyIter ref" => (refine Mine.Stop.go ?_)
  k_with "eval Name" => (refine' nameX_L (by k_asm) (by assumption) ?_ rfl rfl; k_whole)
  k_with "ne" => (refine neN ?_; (try dsimp only); first | with_reducible assumption | exact Ne.symm (by with_reducible assumption) | omega)
  intro dp un gd cn cs a ccd cl outer A₀ h₀ L m s Q E u t B tu tt tB o7 e7 x7 o9 e9 x9
  k_fill
  intro BB F X T hk N t7 t9 hdp hun hB hB2 ht hb hret
  have t2s := t2_news N t7 t9 (by k_mem) (by k_mem) (by k_mem) (by k_mem)
  refine wpAny_call ?_
  k_dflt ((refine' Mine.enterK ?k1v9 ?k2v9 ?k3v9 ?k4v9 ?k5v9 ?kAv9 ?kFv9 ?kKv9 ?k6v9 ?k7v9 ?k8v9 ?k9v9 ?kBv9 ?_ ?c5v9 ?c2v9 ?c3v9 ?c4v9; (case kAv9 => exact rfl); (case kFv9 => exact rfl); (case kKv9 => first | exact rfl | assumption); (case k1v9 => k_asm); (case k2v9 => k_asm); (case k3v9 => k_asm); (case k4v9 => k_asm); (case k5v9 => k_asm); (case k6v9 => k_is); (case k7v9 => k_is); (case k8v9 => ktr_room); (case k9v9 => exact BindsTo.of_eq rfl); (case c5v9 => decide); (case kBv9 => exact locs rfl); (case c2v9 => exact rfl); (case c3v9 => exact rfl); (case c4v9 => exact rfl); k_whole))
  intro g' L' h' kb' hl' F' N' B' X' T'
  clear X T
  (try dsimp only)
  dsimp only [N4] at N'
  w_on
  w_strict k_steps
  unfold Stop
  rename IsRange _ _ _ _ _ _ _ _ => hr
  rename News g' L' _ _ => N1
  rename Fr g' L' _ _ => F1
  rename_i lf hA lfL l1 Dt hB1 DtL l2 hC hD hE F0 N0 hG tk1 q1 q2 q3 q4
  refine iter_rangeUnr (n := 4) rfl hr (by decide) (by decide) F1 N1 (fun I lI => ?_)
  have lI' := allLt_of lI
  simp only [AllLt, and_true] at lI'
  refine rangeRest_drop (news' := [(lf, W.listOf ([] : List Value).toArray 0), (87, o7), (e7, x7), (94, o9), (e9, x9)]) (by kcj_all) ?_
  with_unfolding_all refine loopRun (base := base) C1 C2 (I := I) (lf := lf) (B := B) (t := t) (u := u) (S0 := s.heap) B' X' T' (by ktr_room) (by ktr_units) hB hB2 ht hb (by omega) (by omega) (by omega) (by omega) (by omega) kb' ?_ 4 0 _ [] tu 0 o7 e7 x7 o9 e9 x9 rfl .nil rfl rfl rfl rfl t7 t9 (.inl ⟨rfl, rfl⟩) (.inl ⟨rfl, rfl⟩) (by omega) (by omega) (by omega) (by omega)
  intro m4 h4 tk4 fv th c o7a e7a x7a o9a e9a x9a hfv hm1 hm2 F4 N4' t7a t9a n7a n9a k7 k9
  w_strict k_steps
  rename Fr g' L' _ _ => F7
  rename News g' L' _ _ => N7
  rename @LT.lt Nat _ L' _ => lD
  have t2e := t2_news N7 t7a t9a (by k_mem) (by k_mem) (by k_mem) (by k_mem)
  exact hret _ lf fv th c _ _ _ _ _ _ _ _ (kbTwo kb' F7 t2s t2e n7a n9a) (by omega) (by omega) (by omega) (News.get N7 (.head _)) (News.get N7 (by k_mem)) hfv t2e n7a n9a
  k_with_none
end Mine
end
section
open PySem PySem.W PyProof.Rows PySem.Calls PySem.Spec
namespace Mine
def H : Str := Str.ofString "h"
section
variable {prog : Program} {w : World} {A : Around} {E : Value → Shared → Prop} {s : Shared} {h₀ : Heap} {L : Addr} {m : Str → Option Value} {news : List (Addr × Obj)} {A1 A2 : Addr} {P T : Str} {t1 t2 t3 t4 : Tok} {Q : Value → Shared → Prop}
theorem eqTup2 (N : News h₀ L s.heap news) (m1 : (A1, tup2 (.str H t1) (.str P t2)) ∈ news) (m2 : (A2, tup2 (.str H t3) (.str T t4)) ∈ news) (hu : A.units + 64 < cLine) (okP : PyData.strOk P = true) (okT : PyData.strOk T = true) (h : Q (.bool (P == T)) s) :
    wpAny (model prog w) A (compareOp .Eq (.ref A1) (.ref A2)) Q E s := by
  refine eq_dataH (da := .tuple [.str H, .str P]) (db := .tuple [.str H, .str T]) (as := []) (bs := []) ?_ ?_ ?_ ?_ hu ?_
  · exact reads_tuple_at (News.get N m1) rfl rfl (ReadsAll.cons (.str _ _) (ReadsAll.cons (.str _ _) .nil))
  · exact reads_tuple_at (News.get N m2) rfl rfl (ReadsAll.cons (.str _ _) (ReadsAll.cons (.str _ _) .nil))
  · simp [SeqAt.shaped, PyData.canLay0, PyData.canLayAll0, PyData.depth, PyData.depthAll, okP, okT, (by decide +kernel : PyData.strOk H = true)]
  · simp [SeqAt.shaped, PyData.canLay0, PyData.canLayAll0, PyData.depth, PyData.depthAll, okP, okT, (by decide +kernel : PyData.strOk H = true)]
  · have e : PyData.eqv (.tuple [.str H, .str P]) (.tuple [.str H, .str T]) = (P == T) := by
      simp [PyData.eqv, PyData.eqvAll]
    rw [e]; exact h
end
end Mine
end
section
open PySem PySem.W PyProof.Rows PySem.Calls PySem.Spec
namespace Mine
/-- what is_suburi says of two paths of one host -/
def sub (P T : Str) : Bool := (P == T) || (if (Txt.slice P (some (-1)) none != Str.ofString "/") = true then Txt.startswith T (P ++ Str.ofString "/") else Txt.startswith T P)
abbrev Subu (w : World) (p : Program) (loose : List Str) (mean : ExcName → Option Value) (mg mb : Str → Option Value) (base : Heap) : Prop :=
  ∀ (dp un : Nat) (gd : Option (List Code)) (cn : Str) (cs : Scope) (a : Addr) (ccd : Value) (cl : List (Str × Addr)) (outer : List Env) (A₀ : Around) (h₀ : Heap) (L : Addr) (m : Str → Option Value) (s : Shared)
    (Q E : Value → Shared → Prop) (sf A1 A2 : Addr) (P T : Str) (t1 t2 t3 t4 : Tok),
    Below A₀ base outer h₀ → Fr h₀ L s.heap m → (Mine.hd.heap_39 w.params).In h₀ → Top p loose mean mg mb h₀ → cs.kind = .function →
    News h₀ L s.heap [(A1, tup2 (.str H t1) (.str P t2)), (A2, tup2 (.str H t3) (.str T t4))] → @Ne Nat A1 A2 → P.length ≤ 1000 → T.length ≤ 1000 → PyData.strOk P = true → PyData.strOk T = true →
    dp + 20 < recursionLimit → un + 200 < cLine →
    (∀ h' tk', KB [] s.heap h' → Q (.bool (sub P T)) { s with heap := h', toks := tk' }) →
    wpAny (model PySem.Challenge.rw_pg0188_01.row.prog w) (ktrTop dp un gd cn cs L a ccd cl outer) (call (.ref 64) [.ref sf, .ref A1, .ref A2]) Q E s

set_option maxRecDepth 100000 in
set_option maxHeartbeats 8000000 in
theorem subu {w : World} {p : Program} {loose : List Str} {mean : ExcName → Option Value} {mg mb : Str → Option Value} {base : Heap} : Subu w p loose mean mg mb base := by
  k_with "compareOp Eq ref ref" => (refine' Mine.eqTup2 (by k_asm) (by k_mem) (by k_mem) (by ktr_units) (by assumption) (by assumption) ?_; k_whole)
  intro dp un gd cn cs a ccd cl outer A₀ h₀ L m s Q E sf A1 A2 P T t1 t2 t3 t4
  k_fill
  intro BB F X T hk N hne hP hT okP okT hdp hun hret
  refine wpAny_call ?_
  k_dflt ((refine' Mine.enterK ?k1v10 ?k2v10 ?k3v10 ?k4v10 ?k5v10 ?kAv10 ?kFv10 ?kKv10 ?k6v10 ?k7v10 ?k8v10 ?k9v10 ?kBv10 ?_ ?c5v10 ?c2v10 ?c3v10 ?c4v10; (case kAv10 => exact rfl); (case kFv10 => exact rfl); (case kKv10 => first | exact rfl | assumption); (case k1v10 => k_asm); (case k2v10 => k_asm); (case k3v10 => k_asm); (case k4v10 => k_asm); (case k5v10 => k_asm); (case k6v10 => k_is); (case k7v10 => k_is); (case k8v10 => ktr_room); (case k9v10 => exact BindsTo.of_eq rfl); (case c5v10 => decide); (case kBv10 => exact locs rfl); (case c2v10 => exact rfl); (case c3v10 => exact rfl); (case c4v10 => exact rfl); k_whole))
  intro g' L' h' kb' hl' F' N' B' X' T'
  clear X T
  (try dsimp only)
  w_on
  w_strict k_steps
  · have e : sub P T = true := by unfold sub; rename (P == T) = true => h1; rw [h1]; rfl
    rw [e] at hret
    exact hret _ _ (kbEnd0 kb' F' N' (fun p hp => (N p hp).1) (fun _ h => h))
  · rename Fr g' L' _ _ => F2
    rename News g' L' _ _ => N2
    rename (Txt.slice P (some (-1)) none != Str.ofString "/") = true => h2
    have e : sub P T = Txt.startswith T (P ++ Str.ofString "/") := by rename (P == T) = false => h1; unfold sub; rw [if_pos h2, h1]; rfl
    rw [e] at hret
    exact hret _ _ (kbEnd0 kb' F2 N2 (fun p hp => (N p hp).1) (fun _ h => h))
  · rename Fr g' L' _ _ => F2
    rename News g' L' _ _ => N2
    have e : sub P T = Txt.startswith T P := by rename (P == T) = false => h1; rename (Txt.slice P (some (-1)) none != Str.ofString "/") = false => h2; unfold sub; rw [if_neg (by rw [h2]; exact Bool.false_ne_true), h1]; rfl
    rw [e] at hret
    exact hret _ _ (kbEnd0 kb' F2 N2 (fun p hp => (N p hp).1) (fun _ h => h))
  k_with_none
end Mine
end
section
open PySem PySem.W PyProof.Rows PyProof.Rows.LCg PySem.Calls PySem.Spec
namespace Mine
/-- the ledger's part that a turn of a comprehension over pairs may turn: not the iterator, its cells, the block's names, the list -/
def OffW (C D : Addr) (wr : List Addr) (news : List (Addr × Obj)) : Prop := ∀ p ∈ news, p.1 ≠ C ∧ p.1 ≠ D ∧ p.1 ∉ wr

def CrtEnd (h₀ : Heap) (L : Addr) (m : Str → Option Value) (s₁ : Shared) (C : Addr) (oC : Obj) (D : Addr) (oD : Obj) (own : List (Addr × Obj)) (wr : List Addr) (rest : Value → List (Addr × Obj) → Prop) (y : Value) (s₂ : Shared) : Prop :=
  ∃ h' tk news', s₂ = { s₁ with heap := h', toks := tk } ∧ Fr h₀ L h' m ∧ News h₀ L h' ((C, oC) :: (D, oD) :: (news' ++ own)) ∧ OffW C D wr news' ∧ rest y news'

def CRT (prog : Program) (w : World) (A : Around) (h₀ : Heap) (L : Addr) (m : Str → Option Value) (env : Env) (elt : Expr) (x x₂ : Str) (scope : Scope) (cl : List (Str × Addr)) (s : Shared) (wr : List Addr) (Pt : Nat → Array Value → Prop)
    (Fin : List Value → List (Addr × Obj) → Prop) : Nat → Nat → List Value → List (Addr × Obj) → Prop
  | 0, _, ys, news => Fin ys news
  | k + 1, i, ys, news => ∀ vals, Pt i vals → ∃ v₁ v₂ : Value, vals = #[v₁, v₂] ∧
      ∀ own C oC D m₂ h tk (E' : Value → Shared → Prop), NsObj oC m₂ → m₂ x = some v₁ → m₂ x₂ = some v₂ → Fr h₀ L h m → News h₀ L h ((C, oC) :: (D, lst ys) :: (news ++ own)) → OffW C D wr news → @Ne Nat C D → (∀ b ∈ wr, ∃ o, (b, o) ∈ own) →
      wpAny (model prog w) A (eval elt (compEnvC scope cl C env)) (CrtEnd h₀ L m { s with heap := h, toks := tk } C oC D (lst ys) own wr (fun y news' => CRT prog w A h₀ L m env elt x x₂ scope cl s wr Pt Fin k (i + 1) (ys ++ [y]) news')) E' { s with heap := h, toks := tk }

/-- between the turns of a comprehension over pairs -/
inductive BInv (prog : Program) (w : World) (A : Around) (h₀ : Heap) (L : Addr) (m : Str → Option Value) (env : Env) (elt : Expr) (x x₂ : Str) (scope : Scope) (cl : List (Str × Addr)) (s₂ : Shared) (C D : Addr) (wr : List Addr) (n : Nat) (Pt : Nat → Array Value → Prop) (St : Nat → Heap → Prop)
    (Fin : List Value → List (Addr × Obj) → Prop) : Nat → Shared → Prop
  | mk (h' : Heap) (tk i : Nat) (ys : List Value) (m' : Str → Option Value) (news' : List (Addr × Obj)) : i ≤ n → ys.length = i → St i h' → Fr h₀ L h' m → h'.Ns C m' → News h₀ L h' ((D, lst ys) :: news') → OffW C D wr news' →
    CRT prog w A h₀ L m env elt x x₂ scope cl s₂ wr Pt Fin (n - i) i ys news' → BInv prog w A h₀ L m env elt x x₂ scope cl s₂ C D wr n Pt St Fin (n + 1 - i) { s₂ with heap := h', toks := tk }

section
variable {prog : Program} {w : World} {A : Around} {E : Value → Shared → Prop} {s : Shared} {h₀ : Heap} {L : Addr} {m : Str → Option Value} {env : Env}
theorem block_E {elt iter : Expr} {x x₂ : Str} {px px₂ tp : Pos} {tk} {scope : Scope} {cl : List (Str × Addr)} {pos : Pos} {s₂ : Shared} {I : Addr} {fp wr : List Addr} {n : Nat} {Pt : Nat → Array Value → Prop} {St : Nat → Heap → Prop} {Mid : Nat → Addr → Heap → Prop} {news : List (Addr × Obj)}
    {Fin : List Value → List (Addr × Obj) → Prop} {RR : Value → Addr → Result → Shared → Prop}
    (W : WalksT prog w A I fp wr n Pt St Mid) (hsz : n ≤ sizeLine) (hwl : ∀ i h, St i h → ∀ b ∈ wr, ∃ o, h.get? b = some o)
    (hcell : ∀ y ∈ scope.names, y.2 ≠ .cell) (hkind : scope.kind = .function) (hx : scope.names.lookup x = some .local) (hx₂ : scope.names.lookup x₂ = some .local) (hxx : x ≠ x₂) (hh : A.handled = none) (hst : St 0 s₂.heap) (hfp : ∀ b ∈ fp, b < s₂.heap.objs.size)
    (F : Fr h₀ L s₂.heap m) (N : News h₀ L s₂.heap news) (hLf : L ∉ fp) (hw₀ : ∀ b ∈ wr, h₀.get? b = none) (off : ∀ p ∈ news, p.1 ∉ wr)
    (R : CRT prog w A h₀ L m env elt x x₂ scope cl s₂ wr Pt Fin n 0 [] news)
    (hRR : ∀ D C h tk m' ys news', Fr h₀ L h m → News h₀ L h ((D, lst ys) :: news') → (∀ p ∈ news', p.1 ≠ D) → h.Ns C m' → h₀.get? C = none → h₀.get? D = none → C ≠ L → D ≠ L → C ≠ D → (∀ p ∈ news', p.1 ≠ C) → Fin ys news' → RR (.ref D) C (.ok .next) { s₂ with heap := h, toks := tk }) :
    wpAny (model prog w) A (newList []) (fun acc s₃ => wpAny (model prog w) A (newFunctionEnv scope env.globals cl [] env.qual none .none (some env)) (fun cenv s₄ =>
      codeAny (model prog w) A (.compStart (.ListComp elt [⟨.Tuple [.Name x px, .Name x₂ px₂] tk tp, iter, [], 0⟩] scope pos) 0 (.ref I) acc { cenv with scope := relabel scope env }) (RR acc cenv.locals) s₄) E s₃) E s₂ := by
  refine wpAny_newObj_type (wpAny_newFunctionEnv hcell (by intro y hy; simp at hy) (fun h₁ hns₁ hsb₁ => ?_) hkind)
  dsimp only at hns₁ hsb₁ ⊢
  generalize hH2 : s₂.heap.push { cls := .type "list", dict := none, data := .seq ([] : List Value).toArray } = H2 at hns₁ hsb₁ ⊢
  have hC : H2.objs.size = s₂.heap.objs.size + 1 := by rw [← hH2, Heap.size_push]
  have hDC : s₂.heap.objs.size ≠ H2.objs.size := by rw [hC]; exact Nat.ne_of_lt (Nat.lt_succ_self _)
  have below : ∀ b, b < s₂.heap.objs.size → b ≠ H2.objs.size ∧ b ≠ s₂.heap.objs.size := fun b hb => ⟨by rw [hC]; exact Nat.ne_of_lt (Nat.lt_succ_of_lt hb), Nat.ne_of_lt hb⟩
  have hDf : s₂.heap.objs.size ∉ fp := fun hm => Nat.lt_irrefl _ (hfp _ hm)
  have hCf : H2.objs.size ∉ fp := fun hm => by have := hfp _ hm; rw [hC] at this; exact Nat.lt_irrefl _ (Nat.lt_of_succ_lt this)
  have hDw : s₂.heap.objs.size ∉ wr := fun hm => hDf (W.sub _ hm)
  have hCw : H2.objs.size ∉ wr := fun hm => hCf (W.sub _ hm)
  have hLw : L ∉ wr := fun hm => hLf (W.sub _ hm)
  have old : ∀ b o, s₂.heap.get? b = some o → h₁.get? b = some o := fun b o e => hsb₁.extBut b o (below b (Heap.lt_size e)).1 (Heap.get?_push_of_some _ (hH2 ▸ Heap.get?_push_of_some _ e))
  have hacc : h₁.get? s₂.heap.objs.size = some (lst []) := hsb₁.extBut _ _ hDC (Heap.get?_push_of_some _ (hH2 ▸ Heap.get?_push_size _ rfl))
  have hst₁ : St 0 h₁ := W.frame _ _ _ hst fun b _ o e => old b o e
  have fresh : ∀ a, s₂.heap.objs.size ≤ a → s₂.heap.get? a = none := fun a ha => by
    cases e : s₂.heap.get? a with
    | none => rfl
    | some o' => exact absurd (Heap.lt_size e) (Nat.not_lt.mpr ha)
  have fresh₀ : ∀ a, s₂.heap.objs.size ≤ a → h₀.get? a = none := fun a ha => by
    cases e : h₀.get? a with
    | none => rfl
    | some o' => have := F.keep a o' e; rw [fresh a ha] at this; cases this
  have hD₀ : h₀.get? s₂.heap.objs.size = none := fresh₀ _ (Nat.le_refl _)
  have hC₀ : h₀.get? H2.objs.size = none := fresh₀ _ (by rw [hC]; exact Nat.le_succ _)
  have hLlt : L < s₂.heap.objs.size := F.ns.lt
  have hDL : s₂.heap.objs.size ≠ L := Ne.symm (below L hLlt).2
  have hCL : H2.objs.size ≠ L := Ne.symm (below L hLlt).1
  have off₀ : OffW H2.objs.size s₂.heap.objs.size wr news := fun p hp => ⟨(below _ (Heap.lt_size (N p hp).1)).1, (below _ (Heap.lt_size (N p hp).1)).2, off p hp⟩
  have frW : ∀ h h' : Heap, Fr h₀ L h m → (∀ b o, b ∉ wr → h.get? b = some o → h'.get? b = some o) → Fr h₀ L h' m := fun h h' F' hk =>
    ⟨F'.ns.at' fun o e => hk L o hLw e, fun b o e => hk b o (fun hb => by rw [hw₀ b hb] at e; cases e) (F'.keep b o e), F'.above⟩
  have loop : ∀ s₃ : Shared, s₃ = { s₂ with heap := h₁, toks := s₂.toks + ([] : List (Str × Value)).length } →
      codeAny (model prog w) A (.compLoop (.ListComp elt [⟨.Tuple [.Name x px, .Name x₂ px₂] tk tp, iter, [], 0⟩] scope pos) 0 (.ref I) (.ref s₂.heap.objs.size) (compEnvC scope cl H2.objs.size env))
        (RR (.ref s₂.heap.objs.size) H2.objs.size) s₃ := by
    rintro s₃ rfl
    refine LCp.codeAny_compLoop_pair (BInv prog w A h₀ L m env elt x x₂ scope cl s₂ H2.objs.size s₂.heap.objs.size wr n Pt St Fin) ?_ (n + 1)
      (.mk h₁ _ 0 [] _ news (Nat.zero_le _) rfl hst₁ (F.keeps old) hns₁ (fun p hp => ?_) off₀ R)
    · rintro k s' ⟨h', tk, i, ys, m', news', hi, hyl, hst', F', hn', N', off', R'⟩
      by_cases hlt : i < n
      · obtain ⟨j, hj⟩ : ∃ j, n - i = j + 1 := ⟨n - i - 1, by omega⟩
        rw [hj] at R'
        refine W.item i _ _ _ hlt hst' fun T vals h₂ tk₂ hPv hTs htT hmid hk₂ => ?_
        obtain ⟨v₁, v₂, rfl, R''⟩ := R' vals hPv
        have hTw := W.apart _ _ _ hmid
        refine W.go _ _ _ i T _ _ _ hmid fun h₂' hst₂ hk₂' => ?_
        have hk : ∀ b o, b ∉ wr → h'.get? b = some o → h₂'.get? b = some o := fun b o hb e => hk₂' b o hb (hk₂ b o hb e)
        obtain ⟨oT, eT, cT, nT, dT⟩ := htT
        have ht : IsTup h₂' T #[v₁, v₂] := ⟨oT, hk₂' _ _ hTw eT, cT, nT, dT⟩
        refine assign_Tuple_tuple hh ht rfl rfl fun h₅ he => ?_
        have he' : ∀ b o, h₂'.get? b = some o → h₅.get? b = some o := fun b o e => he b o (Nat.ne_of_lt (Heap.lt_size e)) e
        refine assignInOrder_cons (wpAny_assign_Name (wpAny_storeName_local (lookup_relabel_local hx) ((hn'.at' fun o e => hk _ o hCw e).at' fun o e => he' _ o e) (fun h₆ hn₆ hs₆ => ?_) (by simp [compEnvC, relabel, hkind])))
        refine assignInOrder_cons (wpAny_assign_Name (wpAny_storeName_local (lookup_relabel_local hx₂) hn₆ (fun h₃ hn₃ hs₃ => ?_) (by simp [compEnvC, relabel, hkind])))
        refine assignInOrder_nil ?_
        have old3 : ∀ b o, b ≠ H2.objs.size → h₂'.get? b = some o → h₃.get? b = some o := fun b o hb e => hs₃.extBut b o hb (hs₆.extBut b o hb (he' b o e))
        have hst₃ : St (i + 1) h₃ := W.frame _ _ _ hst₂ fun b hb o e => old3 b o (fun q => hCf (by rw [← q]; exact hb)) e
        obtain ⟨oC, heC, hoC⟩ := ns_obj hn₃
        have F₃ : Fr h₀ L h₃ m := (((frW _ _ F' hk).keeps he').change hs₆ hCL hC₀).change hs₃ hCL hC₀
        have Nown : News h₀ L h₃ (ownOf h₀ fp h₃) := news_ownOf hLf
        have N₃ : News h₀ L h₃ ((H2.objs.size, oC) :: (s₂.heap.objs.size, lst ys) :: (news' ++ ownOf h₀ fp h₃)) := fun p hp => by
          rcases List.mem_cons.mp hp with rfl | hp
          · exact ⟨heC, hCL, hC₀⟩
          · rcases List.mem_cons.mp hp with rfl | hp
            · have z := N' (s₂.heap.objs.size, lst ys) List.mem_cons_self
              exact ⟨old3 _ _ hDC (hk _ _ hDw z.1), z.2⟩
            · rcases List.mem_append.mp hp with hp | hp
              · have z := N' p (List.mem_cons_of_mem _ hp)
                exact ⟨old3 _ _ (off' p hp).1 (hk _ _ (off' p hp).2.2 z.1), z.2⟩
              · exact Nown p hp
        refine wpAny_mono (R'' (ownOf h₀ fp h₃) H2.objs.size oC s₂.heap.objs.size _ h₃ _ _ hoC (by simp [hxx]) (by simp) F₃ N₃ off' (Ne.symm hDC) (fun b hb => by
          obtain ⟨o, e⟩ := hwl _ _ hst₃ b hb
          exact ⟨o, mem_ownOf (W.sub _ hb) (hw₀ b hb) e⟩)) (fun y s₄ h₄ => ?_) fun _ _ e => e
        obtain ⟨h₄, tk₄, news₄, rfl, F₄, N₄, off₄, R₄⟩ := h₄
        have zC := (N₄ (H2.objs.size, oC) List.mem_cons_self).1
        have zD := (N₄ (s₂.heap.objs.size, lst ys) (List.mem_cons_of_mem _ List.mem_cons_self)).1
        have N₄' : News h₀ L h₄ (news₄ ++ ownOf h₀ fp h₃) := fun p hp => N₄ p (List.mem_cons_of_mem _ (List.mem_cons_of_mem _ hp))
        have hst₄ : St (i + 1) h₄ := W.frame _ _ _ hst₃ fun b hb o e => by
          cases hn : h₀.get? b with
          | some o₀ =>
            have := F₃.keep b o₀ hn
            rw [e] at this
            rw [Option.some.inj this]
            exact F₄.keep b o₀ hn
          | none => exact (N₄' _ (List.mem_append_right _ (mem_ownOf hb hn e))).1
        refine append_at (hsz := by show ys.toArray.size ≤ sizeLine; rw [List.size_toArray, hyl]; exact Nat.le_trans hi hsz) zD fun h₅ hs₅ hD₅ => ?_
        refine ⟨n + 1 - (i + 1), by omega, .mk h₅ tk₄ (i + 1) (ys ++ [y]) _ news₄ hlt (by rw [List.length_append, List.length_singleton, hyl]) (W.frame _ _ _ hst₄ fun b hb o e => hs₅.extBut b o (fun q => hDf (q ▸ hb)) e) (F₄.change hs₅ hDL hD₀)
          ((hoC.ns zC).sameBut hs₅ (Ne.symm hDC)) (fun p hp => ?_) off₄ ?_⟩
        · rcases List.mem_cons.mp hp with rfl | hp
          · exact ⟨hD₅.trans (congrArg some (lst_snoc ys y)), hDL, hD₀⟩
          · exact ⟨hs₅.extBut _ _ (off₄ p hp).2.1 (N₄' p (List.mem_append_left _ hp)).1, (N₄' p (List.mem_append_left _ hp)).2⟩
        · rw [show n - (i + 1) = j by omega]
          exact R₄
      · obtain rfl : i = n := Nat.le_antisymm hi (Nat.not_lt.mp hlt)
        rw [Nat.sub_self] at R'
        refine W.done _ _ _ hst' fun h₂ tk₂ hk₂ => ?_
        exact hRR _ _ h₂ tk₂ _ ys news' (frW _ _ F' hk₂) (fun p hp => by
          rcases List.mem_cons.mp hp with rfl | hp
          · exact ⟨hk₂ _ _ hDw (N' _ List.mem_cons_self).1, (N' _ List.mem_cons_self).2⟩
          · exact ⟨hk₂ _ _ (off' p hp).2.2 (N' _ (List.mem_cons_of_mem _ hp)).1, (N' _ (List.mem_cons_of_mem _ hp)).2⟩) (fun p hp => (off' p hp).2.1) (hn'.at' fun o e => hk₂ _ o hCw e) hC₀ hD₀ hCL hDL (Ne.symm hDC) (fun p hp => (off' p hp).1) R'
    · rcases List.mem_cons.mp hp with rfl | hp
      · exact ⟨hacc, hDL, hD₀⟩
      · exact ⟨old _ _ (N p hp).1, (N p hp).2⟩
  exact codeAny_compStart_list (loop _ rfl) (W.self 0 _ _ _ hst₁ (loop _ rfl))
end
end Mine
end
section
open PySem PySem.W PyProof.Rows PyProof.Rows.LCg PySem.Calls PySem.Spec
namespace Mine
inductive SrcT (prog : Program) (w : World) (A : Around) (h₀ : Heap) (L : Addr) (m : Str → Option Value) (env : Env) (elt : Expr) (x x₂ : Str) (scope : Scope) (cl : List (Str × Addr)) (Fin : Shared → List Value → List (Addr × Obj) → Prop) : Value → Shared → Prop
  | mk {s₂ : Shared} (I : Addr) (fp wr : List Addr) (n : Nat) (Pt : Nat → Array Value → Prop) (St : Nat → Heap → Prop) (Mid : Nat → Addr → Heap → Prop) (news : List (Addr × Obj)) : A.handled = none → WalksT prog w A I fp wr n Pt St Mid → n ≤ sizeLine →
    (∀ i h, St i h → ∀ b ∈ wr, ∃ o, h.get? b = some o) → St 0 s₂.heap → (∀ b ∈ fp, b < s₂.heap.objs.size) → Fr h₀ L s₂.heap m → News h₀ L s₂.heap news → L ∉ fp → (∀ b ∈ wr, h₀.get? b = none) → (∀ p ∈ news, p.1 ∉ wr) →
    CRT prog w A h₀ L m env elt x x₂ scope cl s₂ wr Pt (Fin s₂) n 0 [] news → SrcT prog w A h₀ L m env elt x x₂ scope cl Fin (.ref I) s₂
def IterT (prog : Program) (w : World) (A : Around) (E : Value → Shared → Prop) (h₀ : Heap) (L : Addr) (m : Str → Option Value) (env : Env) (elt : Expr) (x x₂ : Str) (scope : Scope) (cl : List (Str × Addr)) (Fin : Shared → List Value → List (Addr × Obj) → Prop) (xv : Value) (s₁ : Shared) : Prop :=
  wpAny (model prog w) A (pyIter xv) (SrcT prog w A h₀ L m env elt x x₂ scope cl Fin) E s₁

section
variable {prog : Program} {w : World} {A : Around} {E : Value → Shared → Prop} {s : Shared} {h₀ : Heap} {L : Addr} {m : Str → Option Value} {env : Env}
theorem ListComp_E {elt iter : Expr} {x x₂ : Str} {px px₂ tp : Pos} {tk} {scope : Scope} {cl : List (Str × Addr)} {pos : Pos} {Q : Value → Shared → Prop} (F₀ : Fr h₀ L s.heap m)
    (hclos : closureFor scope env = pure cl) (hcell : ∀ y ∈ scope.names, y.2 ≠ .cell) (hkind : scope.kind = .function)
    (hnames : ∀ y ∈ scope.names, y.2 = .local → scope.names.lookup y.1 = some .local) (hx : scope.names.lookup x = some .local) (hx₂ : scope.names.lookup x₂ = some .local) (hxx : x ≠ x₂)
    (h : wpAny (model prog w) A (eval iter env) (IterT prog w A E h₀ L m env elt x x₂ scope cl (fun s₂ => FinE h₀ L m s₂ Q)) E s)
    (hs : ∀ x, foldedSetIterable iter env x = pure x := by intro _; rfl) :
    wpAny (model prog w) A (eval (.ListComp elt [⟨.Tuple [.Name x px, .Name x₂ px₂] tk tp, iter, [], 0⟩] scope pos) env) Q E s := by
  rw [eval_ListComp]
  refine wpAny_comprehension_free (use := none) rfl hs hclos hkind hnames (wpAny_mono h (fun xv s₁ h₁ => wpAny_mono h₁ (fun iv s₂ h₂ => ?_) fun _ _ e => e) fun _ _ e => e)
  obtain ⟨I, fp, wr, n, Pt, St, Mid, news, hh, W, hsz, hwl, hst, hfp, F, N, hLf, hw₀, off, R⟩ := h₂
  refine block_E W hsz hwl hcell hkind hx hx₂ hxx hh hst hfp F N hLf hw₀ off R ?_
  intro D C h tk m' ys news' F' N' o1 hn hC₀ hD₀ hCL hDL hCD offC fin
  refine ⟨m', hn, fun h'' hs'' => fin D h'' tk (F'.change hs'' hCL hC₀) (fun p hp => ?_) ?_⟩
  · refine ⟨hs''.extBut _ _ ?_ (N' p hp).1, (N' p hp).2⟩
    rcases List.mem_cons.mp hp with rfl | hp
    · exact Ne.symm hCD
    · exact offC p hp
  · clear N' fin offC
    induction news' with
    | nil => trivial
    | cons q r ih => exact ⟨o1 q List.mem_cons_self, ih fun p hp => o1 p (List.mem_cons_of_mem _ hp)⟩

theorem Assign_ListComp_E {elt iter : Expr} {x x₂ y : Str} {px px₂ tp py : Pos} {tk} {scope : Scope} {cl : List (Str × Addr)} {pos spos : Pos} {Q : Flow → Shared → Prop} (F₀ : Fr h₀ L s.heap m) (hLe : env.locals = L)
    (hsw : swapsWith (.ListComp elt [⟨.Tuple [.Name x px, .Name x₂ px₂] tk tp, iter, [], 0⟩] scope pos) (some (.Name y py)) spos.line env = pure true)
    (hclos : closureFor scope env = pure cl) (hcell : ∀ z ∈ scope.names, z.2 ≠ .cell) (hkind : scope.kind = .function)
    (hnames : ∀ z ∈ scope.names, z.2 = .local → scope.names.lookup z.1 = some .local) (hx : scope.names.lookup x = some .local) (hx₂ : scope.names.lookup x₂ = some .local) (hxx : x ≠ x₂)
    (hy : env.kindOf y = some .local) (hp : (env.scope.kind == .class || (env.scope.kind == .module && env.locals != env.globals)) = false)
    (h : wpAny (model prog w) A (eval iter env) (IterT prog w A E h₀ L m env elt x x₂ scope cl (fun s₂ => FinA h₀ L m s₂ y Q)) E s)
    (hs : ∀ x, foldedSetIterable iter env x = pure x := by intro _; rfl) :
    wpAny (model prog w) A (exec (.Assign [.Name y py] (.ListComp elt [⟨.Tuple [.Name x px, .Name x₂ px₂] tk tp, iter, [], 0⟩] scope pos) spos) env) Q E s := by
  subst hLe
  rw [exec_Assign_Name_used _ _ _ _ hsw]
  refine wpAny_bind (wpAny_standAt (wpAny_bind ?_))
  show wpAny _ A (do let _ ← comprehension (.ListComp elt [⟨.Tuple [.Name x px, .Name x₂ px₂] tk tp, iter, [], 0⟩] scope pos) scope env _ (newList []) false (eval iter env) (some (assign (.Name y py) env))) _ _ s
  refine wpAny_bind (wpAny_mono (wpAny_comprehension_free (use := some (assign (.Name y py) env)) (Q := fun _ s' => Q .next s') rfl hs hclos hkind hnames
    (wpAny_mono h (fun xv s₁ h₁ => wpAny_mono h₁ (fun iv s₂ h₂ => ?_) fun _ _ e => e) fun _ _ e => e)) (fun _ s' hq => wpAny_pure (wpAny_pure hq)) fun _ _ e => e)
  obtain ⟨I, fp, wr, n, Pt, St, Mid, news, hh, W, hsz, hwl, hst, hfp, F, N, hLf, hw₀, off, R⟩ := h₂
  refine block_E W hsz hwl hcell hkind hx hx₂ hxx hh hst hfp F N hLf hw₀ off R ?_
  intro D C h' tk m' ys news' F' N' o1 hn hC₀ hD₀ hCL hDL hCD offC fin
  show wpAny _ A (assign (.Name y py) env (.ref D)) _ _ _
  refine wpAny_assign_Name (wpAny_storeName_local hy F'.ns (fun h₂ hn₂ hs₂ => ?_) hp)
  have hL₀ : h₀.get? env.locals = none := Heap.get?_none_of_le F'.above
  have F₂ : Fr h₀ env.locals h₂ (fun z => if z = y then some (.ref D) else m z) := ⟨hn₂, fun b o e => hs₂.extBut b o (fun q => by rw [q, hL₀] at e; cases e) (F'.keep b o e), F'.above⟩
  refine ⟨m', hn.sameBut hs₂ hCL, fun h'' hs'' => fin D h'' _ (F₂.change hs'' hCL hC₀) (fun p hp => ?_) ?_⟩
  · have z : h₂.get? p.1 = some p.2 := hs₂.extBut _ _ (N' p hp).2.1 (N' p hp).1
    refine ⟨hs''.extBut _ _ ?_ z, (N' p hp).2⟩
    rcases List.mem_cons.mp hp with rfl | hp
    · exact Ne.symm hCD
    · exact offC p hp
  · clear N' fin offC
    induction news' with
    | nil => trivial
    | cons q r ih => exact ⟨o1 q List.mem_cons_self, ih fun p hp => o1 p (List.mem_cons_of_mem _ hp)⟩

theorem srcEnum {elt : Expr} {x x₂ : Str} {scope : Scope} {cl : List (Str × Addr)} {Fin : Shared → List Value → List (Addr × Obj) → Prop} {l : Addr} {items : Array Value} {news : List (Addr × Obj)} (hh : A.handled = none)
    (F : Fr h₀ L s.heap m) (N : News h₀ L s.heap news) (hL : s.heap.IsList l items) (hsz : items.size ≤ sizeLine) (hLl : L ≠ l)
    (R : ∀ g wr, CRT prog w A h₀ L m env elt x x₂ scope cl { s with heap := g } wr (fun i vals => ∃ t x, items[i]? = some x ∧ vals = #[.int i t, x]) (Fin { s with heap := g }) items.size 0 [] news) :
    wpAny (model prog w) A (call (.type "enumerate") [.ref l]) (IterT prog w A E h₀ L m env elt x x₂ scope cl Fin) E s := by
  have hl : l < s.heap.objs.size := by obtain ⟨_, e, _⟩ := hL; exact Heap.lt_size e
  refine call_enumerate_list hL fun h' he hit hz hk => ?_
  have fresh₀ : ∀ a, s.heap.objs.size ≤ a → h₀.get? a = none := fun a ha => by
    cases e : h₀.get? a with
    | none => rfl
    | some o' => exact absurd (Heap.lt_size (F.keep a o' e)) (Nat.not_lt.mpr ha)
  refine wpAny_pyIter_enum he ?_
  refine ⟨_, _, _, _, _, _, _, news, hh, WalksT.enumerate hh (s.heap.objs.size + 1) s.heap.objs.size l (Nat.succ_ne_self _) (Nat.ne_of_lt (Nat.lt_succ_of_lt hl)) (Nat.ne_of_lt hl) items, hsz, ?_, ⟨⟨_, he⟩, hit, hL.at fun o e => hk _ o e⟩, ?_, F.keeps hk, N.grown hk, ?_, ?_, ?_, R _ _⟩
  · intro i h st b hb
    obtain ⟨⟨old, e1⟩, e2, _⟩ := st
    simp at hb
    rcases hb with rfl | rfl
    · exact ⟨_, e1⟩
    · obtain ⟨o, e, _⟩ := e2; exact ⟨_, e⟩
  · intro b hb
    rw [show ({ s with heap := h' } : Shared).heap.objs.size = s.heap.objs.size + 2 from hz]
    simp at hb
    rcases hb with rfl | rfl | rfl
    · exact Nat.lt_succ_self _
    · exact Nat.lt_succ_of_lt (Nat.lt_succ_self _)
    · exact Nat.lt_succ_of_lt (Nat.lt_succ_of_lt hl)
  · have := F.ns.lt
    simp
    exact ⟨Nat.ne_of_lt (Nat.lt_succ_of_lt this), Nat.ne_of_lt this, hLl⟩
  · intro b hb
    simp at hb
    rcases hb with rfl | rfl
    · exact fresh₀ _ (Nat.le_succ _)
    · exact fresh₀ _ (Nat.le_refl _)
  · intro p hp hb
    have := Heap.lt_size (N p hp).1
    simp at hb
    rcases hb with e | e
    · rw [e] at this; exact Nat.lt_irrefl _ (Nat.lt_of_succ_lt this)
    · rw [e] at this; exact Nat.lt_irrefl _ this

theorem srcZip {elt : Expr} {x x₂ : Str} {scope : Scope} {cl : List (Str × Addr)} {Fin : Shared → List Value → List (Addr × Obj) → Prop} {l1 l2 : Addr} {xs ys : Array Value} {news : List (Addr × Obj)} (hh : A.handled = none)
    (F : Fr h₀ L s.heap m) (N : News h₀ L s.heap news) (hL1 : s.heap.IsList l1 xs) (hL2 : s.heap.IsList l2 ys) (hsz : min xs.size ys.size ≤ sizeLine) (hLl : L ≠ l1) (hLl2 : L ≠ l2)
    (R : ∀ g wr, CRT prog w A h₀ L m env elt x x₂ scope cl { s with heap := g } wr (fun i vals => ∃ x y, xs[i]? = some x ∧ ys[i]? = some y ∧ vals = #[x, y]) (Fin { s with heap := g }) (min xs.size ys.size) 0 [] news) :
    wpAny (model prog w) A (call (.type "zip") [.ref l1, .ref l2]) (IterT prog w A E h₀ L m env elt x x₂ scope cl Fin) E s := by
  have a1 : l1 < s.heap.objs.size := by obtain ⟨_, e, _⟩ := hL1; exact Heap.lt_size e
  have a2 : l2 < s.heap.objs.size := by obtain ⟨_, e, _⟩ := hL2; exact Heap.lt_size e
  refine call_zip_2 hL1 hL2 fun h' hzz hTI hTO hi1 hi2 hz hk => ?_
  have fresh₀ : ∀ a, s.heap.objs.size ≤ a → h₀.get? a = none := fun a ha => by
    cases e : h₀.get? a with
    | none => rfl
    | some o' => exact absurd (Heap.lt_size (F.keep a o' e)) (Nat.not_lt.mpr ha)
  refine wpAny_pyIter_zip hzz ?_
  refine ⟨_, _, _, _, _, _, _, news, hh, WalksT.zip2 hh _ _ _ _ _ l1 l2 (zipApart_new a1 a2) xs ys, hsz, ?_, ⟨hzz, hTI, ⟨_, _, hTO⟩, hi1, hi2, hL1.at fun o e => hk _ o e, hL2.at fun o e => hk _ o e⟩, ?_, F.keeps hk, N.grown hk, ?_, ?_, ?_, R _ _⟩
  · intro i h st b hb
    obtain ⟨e1, _, ⟨_, _, e3⟩, e4, e5, _⟩ := st
    simp only [List.mem_cons, List.not_mem_nil, or_false] at hb
    rcases hb with rfl | rfl | rfl | rfl
    · exact ⟨_, e1⟩
    · exact ⟨_, e3⟩
    · obtain ⟨o, e, _⟩ := e4; exact ⟨_, e⟩
    · obtain ⟨o, e, _⟩ := e5; exact ⟨_, e⟩
  · intro b hb
    rw [show ({ s with heap := h' } : Shared).heap.objs.size = s.heap.objs.size + 5 from hz]
    simp only [List.mem_cons, List.not_mem_nil, or_false] at hb
    generalize s.heap.objs.size = z at *
    rcases hb with rfl | rfl | rfl | rfl | rfl | rfl | rfl
    · exact Nat.lt_succ_self _
    · exact Nat.add_lt_add_left (by decide) z
    · exact Nat.add_lt_add_left (by decide) z
    · exact Nat.lt_add_of_pos_right (by decide)
    · exact Nat.add_lt_add_left (by decide) z
    · exact Nat.lt_of_lt_of_le a1 (Nat.le_add_right _ _)
    · exact Nat.lt_of_lt_of_le a2 (Nat.le_add_right _ _)
  · have hl := F.ns.lt
    simp only [List.mem_cons, List.not_mem_nil, or_false, not_or]
    exact ⟨Nat.ne_of_lt (Nat.lt_of_lt_of_le hl (Nat.le_add_right _ _)), Nat.ne_of_lt (Nat.lt_of_lt_of_le hl (Nat.le_add_right _ _)), Nat.ne_of_lt (Nat.lt_of_lt_of_le hl (Nat.le_add_right _ _)), Nat.ne_of_lt hl, Nat.ne_of_lt (Nat.lt_of_lt_of_le hl (Nat.le_add_right _ _)), hLl, hLl2⟩
  · intro b hb
    simp only [List.mem_cons, List.not_mem_nil, or_false] at hb
    rcases hb with rfl | rfl | rfl | rfl
    · exact fresh₀ _ (Nat.le_add_right _ _)
    · exact fresh₀ _ (Nat.le_add_right _ _)
    · exact fresh₀ _ (Nat.le_refl _)
    · exact fresh₀ _ (Nat.le_add_right _ _)
  · intro p hp hb
    have := Heap.lt_size (N p hp).1
    simp only [List.mem_cons, List.not_mem_nil, or_false] at hb
    rcases hb with e | e | e | e <;> rw [e] at this <;> exact absurd this (Nat.not_lt.mpr (by first | exact Nat.le_refl _ | exact Nat.le_add_right _ _))

theorem CRT.same {elt : Expr} {x x₂ : Str} {scope : Scope} {cl : List (Str × Addr)} {wr : List Addr} {Pt : Nat → Array Value → Prop} {Fin : List Value → List (Addr × Obj) → Prop} {n : Nat} {news : List (Addr × Obj)} (Y : Nat → Value → Prop)
    (el : ∀ i, i < n → ∀ vals, Pt i vals → ∃ v₁ v₂ : Value, vals = #[v₁, v₂] ∧ ∀ own C oC D m₂ h tk ys (Q' E' : Value → Shared → Prop), NsObj oC m₂ → m₂ x = some v₁ → m₂ x₂ = some v₂ → Fr h₀ L h m → News h₀ L h ((C, oC) :: (D, lst ys) :: (news ++ own)) →
      (∀ y tk', Y i y → Q' y { s with heap := h, toks := tk' }) → wpAny (model prog w) A (eval elt (compEnvC scope cl C env)) Q' E' { s with heap := h, toks := tk })
    (fin : ∀ ys, ys.length = n → (∀ i, i < n → ∃ y, ys[i]? = some y ∧ Y i y) → Fin ys news) : CRT prog w A h₀ L m env elt x x₂ scope cl s wr Pt Fin n 0 [] news := by
  suffices G : ∀ k i ys, i + k = n → ys.length = i → (∀ j, j < i → ∃ y, ys[j]? = some y ∧ Y j y) → CRT prog w A h₀ L m env elt x x₂ scope cl s wr Pt Fin k i ys news from
    G n 0 [] (Nat.zero_add _) rfl (fun j hj => absurd hj (Nat.not_lt_zero _))
  intro k
  induction k with
  | zero => intro i ys hi hl hY; exact fin ys (hl.trans hi) (fun j hj => hY j (by omega))
  | succ k ih =>
    intro i ys hi hl hY
    intro vals hv
    obtain ⟨v₁, v₂, rfl, hE⟩ := el i (by omega) vals hv
    refine ⟨v₁, v₂, rfl, ?_⟩
    intro own C oC D m₂ h tk E' hC hx hx₂ F N off hCD hw
    refine hE own C oC D m₂ h tk ys _ _ hC hx hx₂ F N ?_
    intro y tk' hy
    refine ⟨h, tk', news, rfl, F, N, off, ih (i + 1) (ys ++ [y]) (by omega) (by rw [List.length_append, List.length_singleton, hl]) ?_⟩
    intro j hj
    by_cases q : j < i
    · obtain ⟨z, hz, hz'⟩ := hY j q
      exact ⟨z, by rw [List.getElem?_append_left (by omega)]; exact hz, hz'⟩
    · obtain rfl : j = i := by omega
      exact ⟨y, by rw [List.getElem?_append_right (by omega), hl, Nat.sub_self]; rfl, hy⟩
end
end Mine
end
section
open PySem PySem.W PyProof.Rows PyProof.Rows.LCg PySem.Calls PySem.Spec
namespace Mine
def dueB (cr B : Int) (sl : Nat → Int) (i : Nat) : Bool := decide (cr % B ^ i = 0) && decide ((i:Int) + sl i < 5)
def dueL (cr B : Int) (sl : Nat → Int) : List Value := (List.range 5).map fun i => Value.bool (dueB cr B sl i)
theorem getNone {s g h : Heap} {L' D : Addr} {ds : List Addr} {o : Obj} {rest : List (Addr × Obj)} (kb : KB ds s g) (N : News g L' h ((D, o) :: rest)) (hd : ∀ b ∈ ds, b ≠ D) : s.get? D = none := by
  cases e : s.get? D with
  | none => rfl
  | some o' =>
    have := kb D o' (fun q => hd D q rfl) e
    rw [(N (D, o) List.mem_cons_self).2.2] at this
    cases this
abbrev Due (w : World) (p : Program) (loose : List Str) (mean : ExcName → Option Value) (mg mb : Str → Option Value) (base : Heap) : Prop :=
  ∀ (dp un : Nat) (gd : Option (List Code)) (cn : Str) (cs : Scope) (a : Addr) (ccd : Value) (cl : List (Str × Addr)) (outer : List Env) (A₀ : Around) (h₀ : Heap) (L : Addr) (m : Str → Option Value) (s : Shared)
    (Q E : Value → Shared → Prop) (S : Addr) (c : Nat) (cr B : Int) (items : List Value) (sl : Nat → Int) (tc tB : Tok),
    Below A₀ base outer h₀ → Fr h₀ L s.heap m → (Mine.hd.heap_39 w.params).In h₀ → Top p loose mean mg mb h₀ → cs.kind = .function →
    News h₀ L s.heap [(S, W.listOf items.toArray c)] → items.length = 5 → (∀ i, i < 5 → ∃ t, items[i]? = some (.int (sl i) t)) → 0 < B → B < 100 →
    dp + 20 < recursionLimit → un + 200 < cLine →
    (∀ D h' tk', KB [] s.heap h' → s.heap.get? D = none → h'.get? D = some (lst (dueL cr B sl)) → Q (.ref D) { s with heap := h', toks := tk' }) →
    wpAny (model PySem.Challenge.rw_pg0188_01.row.prog w) (ktrTop dp un gd cn cs L a ccd cl outer) (call (.ref 132) [.int cr tc, .int B tB, .ref S]) Q E s

set_option maxRecDepth 100000 in
set_option maxHeartbeats 200000 in
theorem due {w : World} {p : Program} {loose : List Str} {mean : ExcName → Option Value} {mg mb : Str → Option Value} {base : Heap} : Due w p loose mean mg mb base := by
  k_with "eval ListComp" => (refine Mine.Stop.go ?_)
  intro dp un gd cn cs a ccd cl outer A₀ h₀ L m s Q E S c cr B items sl tc tB
  k_fill
  intro BB F X T hk N h5 hI hB hB2 hdp hun hret
  refine wpAny_call ?_
  k_dflt ((refine' Mine.enterKC ?k1v11 ?k2v11 ?k3v11 ?k4v11 ?k5v11 ?kAv11 ?kFv11 ?kKv11 ?k6v11 ?k7v11 ?k8v11 ?k9v11 ?kBv11 ?kDv11 ?_ ?c2v11 ?c3v11 ?c4v11; (case kAv11 => exact rfl); (case kFv11 => exact rfl); (case kKv11 => first | exact rfl | assumption); (case k1v11 => k_asm); (case k2v11 => k_asm); (case k3v11 => k_asm); (case k4v11 => k_asm); (case k5v11 => k_asm); (case k6v11 => k_is); (case k7v11 => k_is); (case k8v11 => ktr_room); (case k9v11 => exact BindsTo.of_eq rfl); (case kBv11 => exact rfl); (case kDv11 => decide +kernel); (case c2v11 => exact rfl); (case c3v11 => exact rfl); (case c4v11 => exact rfl); k_whole))
  intro g' L' h' tk' cells' kb' hl' F' N' Y' B' X' T' l1
  k_lt l1; k_cells Y'; (try simp only [List.cons_append, List.nil_append] at N'); (try dsimp only)
  clear X T
  (try dsimp only)
  w_on
  w_strict k_steps
  refine (id ?_ : wpAny _ _ _ _ _ _)
  k_dflt (refine Mine.ListComp_E (F₀ := F') (by with_unfolding_all rfl) (by decide) (by rfl) (by decide) (by rfl) (by rfl) (by decide) ?_)
  w_strict k_steps
  have hLo : h'.get? S = some (W.listOf items.toArray c) := (N' (S, W.listOf items.toArray c) (by k_mem)).1
  have hLi : h'.IsList S items.toArray := ⟨_, hLo, rfl, c, rfl⟩
  refine (id ?_ : wpAny _ _ _ _ _ _)
  refine srcEnum rfl F' N' hLi (by rw [List.size_toArray, h5]; exact Nat.le_of_ble_eq_true rfl) (Nat.ne_of_gt l1) ?_
  intro g₂ wr
  rw [List.size_toArray, h5]
  refine CRT.same (fun i y => y = .bool (dueB cr B sl i)) ?_ ?_
  · rintro i hi vals ⟨t, x, hx, rfl⟩
    refine ⟨_, _, rfl, ?_⟩
    obtain ⟨u, hu⟩ := hI i hi
    rw [List.getElem?_toArray, hu] at hx
    obtain rfl := Option.some.inj hx
    clear hx hu hI h5 hLi
    intro own C oC D m₂ h₂ tk₂ ys Q' E' hC hx1 hx2 F₂ N₂ hQ'
    (try simp only [List.cons_append, List.nil_append] at N₂)
    have hBp : 0 < B ^ ((i : Int)).toNat := Int.pow_pos hB
    have hBi : B ^ i = B ^ ((i : Int)).toNat := rfl
    have hfm : cr.fmod (B ^ ((i : Int)).toNat) = cr % B ^ i := by rw [hBi]; exact Int.fmod_eq_emod_of_nonneg _ (Int.le_of_lt hBp)
    w_strict k_steps
    · rename cr.fmod _ = 0 => h0
      refine hQ' _ _ ?_
      rw [hfm] at h0
      unfold dueB; rw [h0]; rfl
    · rename cr.fmod _ ≠ 0 => h0
      refine hQ' _ _ ?_
      rw [hfm] at h0
      unfold dueB; rw [hfm, decide_eq_false h0]
      exact congrArg Value.bool (beq_eq_false_iff_ne.mpr h0)
  · intro ys h5' hY D h₃ tk₃ F₃ N₃ o1
    (try simp only [LCg.Off1, and_true] at o1)
    have ey : ys = dueL cr B sl := by
      apply List.ext_getElem?
      intro i
      by_cases hi : i < 5
      · obtain ⟨y, hy, rfl⟩ := hY i hi
        rw [hy]; unfold dueL; rw [List.getElem?_map, List.getElem?_range hi]; rfl
      · rw [List.getElem?_eq_none (by omega), List.getElem?_eq_none (by unfold dueL; rw [List.length_map, List.length_range]; omega)]
    rw [ey] at N₃
    w_strict k_steps
    exact hret D _ _ (kbEnd0 kb' F₃ N₃ (fun p hp => (N p hp).1) (by kcj_all)) (getNone kb' N₃ (by simp [o1])) (N₃.get (.head _))
  k_with_none
end Mine
end
section
open PySem PySem.W PyProof.Rows PyProof.Rows.LCg PySem.Calls PySem.Spec
namespace Mine
section
variable {prog : Program} {w : World} {A : Around} {E : Value → Shared → Prop} {s : Shared} {h₀ : Heap} {L : Addr} {m : Str → Option Value} {env : Env}

/-- the turns of a comprehension that leave the ledger as it was -/
theorem CompRest.same {elt : Expr} {x : Str} {scope : Scope} {cl : List (Str × Addr)} {S : List (Addr × Obj) → Prop} {P : Nat → Value → Prop} {Fin : List Value → List (Addr × Obj) → Prop} {n : Nat} {news : List (Addr × Obj)} (Y : Nat → Value → Prop)
    (hS : S news)
    (el : ∀ i, i < n → ∀ v, P i v → ∀ I oI C oC D m₂ h tk ys (Q' E' : Value → Shared → Prop), NsObj oC m₂ → m₂ x = some v → Fr h₀ L h m → News h₀ L h ((I, oI) :: (C, oC) :: (D, lst ys) :: news) → Off3 I C D news → ((@Ne Nat I C) ∧ (@Ne Nat I D) ∧ (@Ne Nat C D)) →
      (∀ y h' tk', Y i y → Fr h₀ L h' m → News h₀ L h' ((I, oI) :: (C, oC) :: (D, lst ys) :: news) → Q' y { s with heap := h', toks := tk' }) → wpAny (model prog w) A (eval elt (compEnvC scope cl C env)) Q' E' { s with heap := h, toks := tk })
    (fin : ∀ ys, ys.length = n → (∀ i, i < n → ∃ y, ys[i]? = some y ∧ Y i y) → Fin ys news) : CompRest prog w A h₀ L m env elt x scope cl s S P Fin n 0 [] news := by
  suffices G : ∀ k i ys, i + k = n → ys.length = i → (∀ j, j < i → ∃ y, ys[j]? = some y ∧ Y j y) → CompRest prog w A h₀ L m env elt x scope cl s S P Fin k i ys news from
    G n 0 [] (Nat.zero_add _) rfl (fun j hj => absurd hj (Nat.not_lt_zero _))
  intro k
  induction k with
  | zero => intro i ys hi hl hY; exact fin ys (hl.trans hi) (fun j hj => hY j (by omega))
  | succ k ih =>
    intro i ys hi hl hY
    intro v I oI C oC D m₂ h tk E' hv hC hx F N off hne
    refine el i (by omega) v hv I oI C oC D m₂ h tk ys _ _ hC hx F N off hne ?_
    intro y h' tk' hy F' N'
    refine ⟨h', tk', news, rfl, F', N', off, hS, ih (i + 1) (ys ++ [y]) (by omega) (by rw [List.length_append, List.length_singleton, hl]) ?_⟩
    intro j hj
    by_cases q : j < i
    · obtain ⟨z, hz, hz'⟩ := hY j q
      exact ⟨z, by rw [List.getElem?_append_left (by omega)]; exact hz, hz'⟩
    · obtain rfl : j = i := by omega
      exact ⟨y, by rw [List.getElem?_append_right (by omega), hl, Nat.sub_self]; rfl, hy⟩

/-- the turns of a comprehension over pairs, each of which makes one object that stays -/
theorem CRT.acc {elt : Expr} {x x₂ : Str} {scope : Scope} {cl : List (Str × Addr)} {wr : List Addr} {Pt : Nat → Array Value → Prop} {Fin : List Value → List (Addr × Obj) → Prop} {n : Nat} {news : List (Addr × Obj)} (Z : Nat → Obj → Prop)
    (el : ∀ i, i < n → ∀ vals, Pt i vals → ∃ v₁ v₂ : Value, vals = #[v₁, v₂] ∧ ∀ own C oC D m₂ h tk ys nw (Q' E' : Value → Shared → Prop), NsObj oC m₂ → m₂ x = some v₁ → m₂ x₂ = some v₂ → Fr h₀ L h m → News h₀ L h ((C, oC) :: (D, lst ys) :: (nw ++ own)) →
      (∀ a o h' tk', Z i o → (∀ p ∈ (C, oC) :: (D, lst ys) :: (nw ++ own), @LT.lt Nat _ p.1 a) → Fr h₀ L h' m → News h₀ L h' ((a, o) :: (C, oC) :: (D, lst ys) :: (nw ++ own)) → Q' (.ref a) { s with heap := h', toks := tk' }) → wpAny (model prog w) A (eval elt (compEnvC scope cl C env)) Q' E' { s with heap := h, toks := tk })
    (fin : ∀ (ys : List Value) (acc : List (Addr × Obj)), ys.length = n → acc.length = n → (∀ i, i < n → ∃ a o, ys[i]? = some (.ref a) ∧ acc[i]? = some (a, o) ∧ Z i o ∧ ∀ p ∈ news, @LT.lt Nat _ p.1 a) → Fin ys (acc.reverse ++ news)) : CRT prog w A h₀ L m env elt x x₂ scope cl s wr Pt Fin n 0 [] news := by
  suffices G : ∀ (k i : Nat) (ys : List Value) (acc : List (Addr × Obj)), i + k = n → ys.length = i → acc.length = i → (∀ j, j < i → ∃ a o, ys[j]? = some (.ref a) ∧ acc[j]? = some (a, o) ∧ Z j o ∧ ∀ p ∈ news, @LT.lt Nat _ p.1 a) → CRT prog w A h₀ L m env elt x x₂ scope cl s wr Pt Fin k i ys (acc.reverse ++ news) from
    G n 0 [] [] (Nat.zero_add _) rfl rfl (fun j hj => absurd hj (Nat.not_lt_zero _))
  intro k
  induction k with
  | zero => intro i ys acc hi hl hl2 hY; exact fin ys acc (hl.trans hi) (hl2.trans hi) (fun j hj => hY j (by omega))
  | succ k ih =>
    intro i ys acc hi hl hl2 hY
    intro vals hv
    obtain ⟨v₁, v₂, rfl, hE⟩ := el i (by omega) vals hv
    refine ⟨v₁, v₂, rfl, ?_⟩
    intro own C oC D m₂ h tk E' hC hx hx₂ F N off hCD hw
    refine hE own C oC D m₂ h tk ys _ _ _ hC hx hx₂ F N ?_
    intro a o h' tk' hz ha F' N'
    have e : (a, o) :: (acc.reverse ++ news) = (acc ++ [(a, o)]).reverse ++ news := by rw [List.reverse_append]; rfl
    refine ⟨h', tk', (acc ++ [(a, o)]).reverse ++ news, rfl, F', fun p hp => N' p ?_, fun p hp => ?_, ih (i + 1) (ys ++ [.ref a]) (acc ++ [(a, o)]) (by omega) (by rw [List.length_append, List.length_singleton, hl]) (by rw [List.length_append, List.length_singleton, hl2]) ?_⟩
    · rw [← e] at hp
      rcases List.mem_cons.mp hp with rfl | hp
      · exact .tail _ (.head _)
      · rcases List.mem_cons.mp hp with rfl | hp
        · exact .tail _ (.tail _ (.head _))
        · rcases List.mem_append.mp hp with hp | hp
          · rcases List.mem_cons.mp hp with rfl | hp
            · exact .head _
            · exact .tail _ (.tail _ (.tail _ (List.mem_append_left _ hp)))
          · exact .tail _ (.tail _ (.tail _ (List.mem_append_right _ hp)))
    · rw [← e] at hp
      rcases List.mem_cons.mp hp with rfl | hp
      · refine ⟨fun q => ?_, fun q => ?_, fun q => ?_⟩
        · exact Nat.ne_of_gt (ha (C, oC) (.head _)) q
        · exact Nat.ne_of_gt (ha (D, lst ys) (.tail _ (.head _))) q
        · obtain ⟨ob, hb⟩ := hw _ q
          exact absurd (ha (a, ob) (.tail _ (.tail _ (List.mem_append_right _ hb)))) (Nat.lt_irrefl _)
      · exact off p hp
    · intro j hj
      by_cases q : j < i
      · obtain ⟨b, ob, h1, h2, h3⟩ := hY j q
        exact ⟨b, ob, by rw [List.getElem?_append_left (by omega)]; exact h1, by rw [List.getElem?_append_left (by omega)]; exact h2, h3⟩
      · obtain rfl : j = i := by omega
        exact ⟨a, o, by rw [List.getElem?_append_right (by omega), hl, Nat.sub_self]; rfl, by rw [List.getElem?_append_right (by omega), hl2, Nat.sub_self]; rfl, hz, fun p hp => ha p (.tail _ (.tail _ (List.mem_append_left _ (List.mem_append_right _ hp))))⟩

/-- the end of a loop's turn -/
def LStep (h₀ : Heap) (L I : Addr) (oI : Obj) (Jn : (Str → Option Value) → List (Addr × Obj) → Prop) (s : Shared) (Q : Flow → Shared → Prop) (f : Flow) (s' : Shared) : Prop :=
  match f with
  | .ret v => Q (.ret v) s'
  | .brk => Q .next s'
  | _ => ∃ h' tk m₂ news₂, s' = { s with heap := h', toks := tk } ∧ Fr h₀ L h' m₂ ∧ News h₀ L h' ((I, oI) :: news₂) ∧ (∀ p ∈ news₂, p.1 ≠ I) ∧ Jn m₂ news₂

theorem stepOf {Jn : (Str → Option Value) → List (Addr × Obj) → Prop} {wr : List Addr} {own : List (Addr × Obj)} {I : Addr} {oI : Obj} {s₁ : Shared} {h₁ : Heap} {Q : Flow → Shared → Prop} {f : Flow} {s' : Shared} {tk₁ : Nat} (hwr : wr = [I]) (ho : ∀ p ∈ own, p = (I, oI))
    (x : LStep h₀ L I oI Jn s₁ Q f s') : LoopStepV h₀ L wr own Jn { s₁ with heap := h₁, toks := tk₁ } (fun v s' => Q (.ret v) s') (fun s' => Q .next s') f s' := by
  subst hwr
  have go : (∃ h' tk m₂ news₂, s' = { s₁ with heap := h', toks := tk } ∧ Fr h₀ L h' m₂ ∧ News h₀ L h' ((I, oI) :: news₂) ∧ (∀ p ∈ news₂, p.1 ≠ I) ∧ Jn m₂ news₂) → LoopStepU h₀ L [I] own Jn { s₁ with heap := h₁, toks := tk₁ } .next s' := by
    rintro ⟨h', tk, m₂, news₂, rfl, F, N, off, j⟩
    refine ⟨rfl, h', tk, m₂, news₂, rfl, F, fun p hp => ?_, fun p hp => by simpa using off p hp, j⟩
    rcases List.mem_append.mp hp with hp | hp
    · rw [ho p hp]; exact N _ (.head _)
    · exact N p (.tail _ hp)
  cases f with
  | ret v => exact x
  | brk => exact x
  | cont => exact go x
  | next => exact go x

theorem forRange {x : Str} {px : Pos} {body : List Stmt} {Q : Flow → Shared → Prop} {r : Addr} {a₀ b₀ : Int} {t₀ u₀ v₀ : Tok} {n : Nat} {m₀ : Str → Option Value} {news : List (Addr × Obj)} (J : Nat → (Str → Option Value) → List (Addr × Obj) → Prop)
    (hh : A.handled = none) (hr : IsRange s.heap r a₀ b₀ 1 t₀ u₀ v₀) (hsmall : Builtin.Range.small a₀ b₀ 1 = true) (hn : Builtin.Range.rangeSize a₀ b₀ 1 = (n : Int)) (F : Fr h₀ env.locals s.heap m₀) (N : News h₀ env.locals s.heap news)
    (h0 : J 0 m₀ news)
    (step : ∀ (I : Addr), (∀ p ∈ news, p.1 < I) → ∀ i t m₁ news₁ h₁ tk₁ oI, i < n → J i m₁ news₁ → (∀ p ∈ news₁, p.1 ≠ I) → Fr h₀ env.locals h₁ m₁ → News h₀ env.locals h₁ ((I, oI) :: news₁) →
      wpAny (model prog w) A (assign (.Name x px) env (.int (a₀ + (i : Int)) t)) (fun _ s₃ => wpAny (model prog w) A (execs body env) (LStep h₀ env.locals I oI (J (i + 1)) s Q) E s₃) E { s with heap := h₁, toks := tk₁ })
    (done : ∀ h' tk m' news', Fr h₀ env.locals h' m' → News h₀ env.locals h' news' → J n m' news' → Q .next { s with heap := h', toks := tk }) :
    wpAny (model prog w) A (pyIter (.ref r)) (fun it s₂ => TurnsAt prog w A h₀ env (.Name x px) body Q E it s₂) E s := by
  refine wpAny_pyIter_range hr hsmall ?_
  have hnew := next_is_new F
  refine ⟨_, _, _, n, _, _, _, m₀, news, J, rfl, KTurns.ofWalks (Walks.range hh s.heap.objs.size a₀ 1 n) (fun i v s Q E st q => by unfold letOwnedTupleGo; exact wpAny_pure q), ?_, ?_, ?_, (by show IsRangeIter _ _ _ _ _; rw [hn]; simpa using Heap.get?_push_size _ rfl), F.push _, (fun p hp => ⟨Heap.get?_push_of_some _ (N p hp).1, (N p hp).2⟩), h0, ?_, ?_⟩
  · intro hm
    exact absurd F.ns.lt ((List.mem_singleton.mp hm) ▸ Nat.lt_irrefl _)
  · intro b hb
    rw [List.mem_singleton.mp hb]
    exact hnew
  · intro p hp hI
    exact absurd (Heap.lt_size (N p hp).1) ((List.mem_singleton.mp hI) ▸ Nat.lt_irrefl _)
  · rintro i v m₁ news₁ h₁ tk₁ own hin ⟨t, rfl⟩ hJ hoff hown hget hall hst F₁ N₁
    rw [Int.mul_one]
    obtain ⟨oI, hI⟩ : ∃ o, h₁.get? s.heap.objs.size = some o := ⟨_, hst⟩
    have hmem := hall s.heap.objs.size (List.mem_singleton.mpr rfl) hnew _ hI
    refine wpAny_mono (step s.heap.objs.size (fun p hp => Heap.lt_size (N p hp).1) i t m₁ news₁ h₁ tk₁ oI hin hJ (fun p hp => by simpa using hoff p hp) F₁ (fun p hp => ?_)) (fun _ s₃ x => wpAny_mono x (fun f s' y => stepOf rfl (fun p hp => ?_) y) fun _ _ e => e) fun _ _ e => e
    · rcases List.mem_cons.mp hp with rfl | hp
      · exact N₁ _ (List.mem_append_left _ hmem)
      · exact N₁ p (List.mem_append_right _ hp)
    · have e1 : p.1 = s.heap.objs.size := by simpa using hown p hp
      have e2 := hget p hp
      rw [e1, hI] at e2
      exact Prod.ext e1 (Option.some.inj e2).symm
  · intro h' tk m' news' F' N' _ j
    exact done h' tk m' news' F' N' j
end
end Mine
end
section
open PySem PySem.W PyProof.Rows PyProof.Rows.LCg PySem.Calls PySem.Spec
namespace Mine
section
variable {prog : Program} {w : World} {A : Around} {E : Value → Shared → Prop} {s : Shared} {h₀ : Heap} {L : Addr} {m : Str → Option Value} {env : Env}
theorem letGoList {target : Expr} {I l : Addr} {i : Nat} {v : Value} {Q' : Unit → Shared → Prop} {s' : Shared} (hit : s'.heap.IsListIter I l i) (h : Q' () s') :
    wpAny (model prog w) A (letOwnedTupleGo target (.ref I) v) Q' E s' := by
  obtain ⟨o, ho, hc, hd⟩ := hit
  unfold letOwnedTupleGo
  cases target <;> first
    | exact wpAny_pure h
    | (cases v <;> first
        | exact wpAny_pure h
        | (refine wpAny_bind (wpAny_load ho ?_)
           rw [hc, hd]
           exact wpAny_pure h))
theorem stepOfL {Jn : (Str → Option Value) → List (Addr × Obj) → Prop} {wr : List Addr} {own : List (Addr × Obj)} {I l : Addr} {oI oL : Obj} {s₁ : Shared} {h₁ : Heap} {Q : Flow → Shared → Prop} {f : Flow} {s' : Shared} {tk₁ : Nat} (hwr : wr = [I]) (ho : ∀ p ∈ own, p = (I, oI) ∨ p = (l, oL))
    (hJ : ∀ m nw, Jn m nw → (l, oL) ∈ nw) (x : LStep h₀ L I oI Jn s₁ Q f s') : LoopStepV h₀ L wr own Jn { s₁ with heap := h₁, toks := tk₁ } (fun v s' => Q (.ret v) s') (fun s' => Q .next s') f s' := by
  subst hwr
  have go : (∃ h' tk m₂ news₂, s' = { s₁ with heap := h', toks := tk } ∧ Fr h₀ L h' m₂ ∧ News h₀ L h' ((I, oI) :: news₂) ∧ (∀ p ∈ news₂, p.1 ≠ I) ∧ Jn m₂ news₂) → LoopStepU h₀ L [I] own Jn { s₁ with heap := h₁, toks := tk₁ } .next s' := by
    rintro ⟨h', tk, m₂, news₂, rfl, F, N, off, j⟩
    refine ⟨rfl, h', tk, m₂, news₂, rfl, F, fun p hp => ?_, fun p hp => by simpa using off p hp, j⟩
    rcases List.mem_append.mp hp with hp | hp
    · rcases ho p hp with rfl | rfl
      · exact N _ (.head _)
      · exact N _ (.tail _ (hJ _ _ j))
    · exact N p (.tail _ hp)
  cases f with
  | ret v => exact x
  | brk => exact x
  | cont => exact go x
  | next => exact go x
theorem forList {target : Expr} {body : List Stmt} {Q : Flow → Shared → Prop} {l : Addr} {its : Array Value} {c : Nat} {m₀ : Str → Option Value} {news : List (Addr × Obj)} (J : Nat → (Str → Option Value) → List (Addr × Obj) → Prop)
    (hh : A.handled = none) (F : Fr h₀ env.locals s.heap m₀) (N : News h₀ env.locals s.heap news) (hJm : ∀ i m nw, J i m nw → (l, ({ cls := .type "list", data := .seq its c } : Obj)) ∈ nw)
    (h0 : J 0 m₀ news)
    (step : ∀ (I : Addr), (∀ p ∈ news, p.1 < I) → ∀ i v m₁ news₁ h₁ tk₁ oI, its[i]? = some v → J i m₁ news₁ → (∀ p ∈ news₁, p.1 ≠ I) → Fr h₀ env.locals h₁ m₁ → News h₀ env.locals h₁ ((I, oI) :: news₁) →
      wpAny (model prog w) A (assign target env v) (fun _ s₃ => wpAny (model prog w) A (execs body env) (LStep h₀ env.locals I oI (J (i + 1)) s Q) E s₃) E { s with heap := h₁, toks := tk₁ })
    (done : ∀ h' tk m' news', Fr h₀ env.locals h' m' → News h₀ env.locals h' news' → J its.size m' news' → Q .next { s with heap := h', toks := tk }) :
    wpAny (model prog w) A (pyIter (.ref l)) (fun it s₂ => TurnsAt prog w A h₀ env target body Q E it s₂) E s := by
  have hmem := N _ (hJm _ _ _ h0)
  have hl : s.heap.IsList l its := ⟨_, hmem.1, rfl, _, rfl⟩
  have hlt : l < s.heap.objs.size := Heap.lt_size hmem.1
  have hLl : env.locals ≠ l := Ne.symm hmem.2.1
  refine wpAny_pyIter_list hl ?_
  have hnew := next_is_new F
  have up : ∀ b o, s.heap.get? b = some o → (s.heap.push { cls := .type "list_iterator", data := .fields #[.ref l, .int 0 0] }).get? b = some o := fun b o e => Heap.get?_push_of_some _ e
  refine ⟨_, _, _, _, _, _, _, m₀, news, J, rfl, KTurns.ofWalks (Walks.list hh s.heap.objs.size l (Nat.ne_of_lt hlt) its) (fun i v s Q E st q => letGoList st.1 q), ?_, ?_, ?_, ⟨⟨_, Heap.get?_push_size _ rfl, rfl, rfl⟩, hl.push _⟩, F.keeps up, N.grown up, h0, ?_, ?_⟩
  · intro hm
    rcases List.mem_cons.mp hm with h | h
    · exact absurd F.ns.lt (h ▸ Nat.lt_irrefl _)
    · exact hLl (List.mem_singleton.mp h)
  · intro b hb
    rw [List.mem_singleton.mp hb]
    exact hnew
  · intro p hp hI
    exact absurd (Heap.lt_size (N p hp).1) ((List.mem_singleton.mp hI) ▸ Nat.lt_irrefl _)
  · rintro i v m₁ news₁ h₁ tk₁ own hin hv hJ hoff hown hget hall hst F₁ N₁
    obtain ⟨oI, hI⟩ : ∃ o, h₁.get? s.heap.objs.size = some o := by obtain ⟨o, e, _⟩ := hst.1; exact ⟨o, e⟩
    have hmemI := hall s.heap.objs.size (List.mem_cons_self) hnew _ hI
    refine wpAny_mono (step s.heap.objs.size (fun p hp => Heap.lt_size (N p hp).1) i v m₁ news₁ h₁ tk₁ oI hv hJ (fun p hp => by simpa using hoff p hp) F₁ (fun p hp => ?_)) (fun _ s₃ x => wpAny_mono x (fun f s' y => stepOfL rfl (l := l) (fun p hp => ?_) (hJm _) y) fun _ _ e => e) fun _ _ e => e
    · rcases List.mem_cons.mp hp with rfl | hp
      · exact N₁ _ (List.mem_append_left _ hmemI)
      · exact N₁ p (List.mem_append_right _ hp)
    · have e2 := hget p hp
      rcases List.mem_cons.mp (hown p hp) with e1 | e1
      · rw [e1, hI] at e2
        exact .inl (Prod.ext e1 (Option.some.inj e2).symm)
      · have e1' := List.mem_singleton.mp e1
        have e3 := (N₁ _ (List.mem_append_right _ (hJm _ _ _ hJ))).1
        rw [e1', e3] at e2
        exact .inr (Prod.ext e1' (Option.some.inj e2).symm)
  · intro h' tk m' news' F' N' _ j
    exact done h' tk m' news' F' N' j
end
end Mine
end
section
open PySem PySem.W PyProof.Rows PyProof.Rows.LCg PySem.Calls PySem.Spec
namespace Mine
def st15 : Stmt := sAt 15 PySem.Challenge.pw_pg0188_01.main.body
def for6 : Stmt := sAt 6 (sBody st15)
def for7 : Stmt := sAt 7 (sBody st15)
def forFar : Stmt := sAt 2 (sBody for7)
abbrev envW (L fa : Addr) (cd : Value) : Env := envOfC (Str.ofString "law") (sScope st15) L fa cd
def boolL (f : Nat → Bool) : List Value := (List.range 5).map fun i => Value.bool (f i)
theorem boolL_of {ys : List Value} {f : Nat → Bool} (h5 : ys.length = 5) (hY : ∀ i, i < 5 → ∃ y, ys[i]? = some y ∧ y = .bool (f i)) : ys = boolL f := by
  apply List.ext_getElem?
  intro i
  by_cases hi : i < 5
  · obtain ⟨y, hy, rfl⟩ := hY i hi
    rw [hy]; unfold boolL; rw [List.getElem?_map, List.getElem?_range hi]; rfl
  · rw [List.getElem?_eq_none (by omega), List.getElem?_eq_none (by unfold boolL; rw [List.length_map, List.length_range]; omega)]
theorem subC {α : Type _} {x : α} {r l : List α} (h : x ∈ l) (hr : ∀ p ∈ r, p ∈ l) : ∀ p ∈ x :: r, p ∈ l := fun p hp => by
  rcases List.mem_cons.mp hp with rfl | hp
  · exact h
  · exact hr p hp
/-- a fresh object joins the ledger -/
theorem joinNews {h₀ h₁ h : Heap} {L D : Addr} {m : Str → Option Value} {o : Obj} {news : List (Addr × Obj)} (F : Fr h₀ L h₁ m) (N : News h₀ L h news) (hn : h₁.get? D = none) (hD : h.get? D = some o) : News h₀ L h ((D, o) :: news) := fun p hp => by
  rcases List.mem_cons.mp hp with rfl | hp
  · refine ⟨hD, fun q => ?_, ?_⟩
    · obtain ⟨ob, _, _, e, _⟩ := F.ns
      rw [show D = L from q, e] at hn
      cases hn
    · cases e : h₀.get? D with
      | none => rfl
      | some o' =>
        have := F.keep D o' e
        rw [hn] at this; cases this
  · exact N p hp
section
variable {prog : Program} {w : World} {A : Around} {E : Value → Shared → Prop} {s : Shared} {A1 A2 : Addr} {f g : Nat → Bool} {n1 n2 : Nat} {Q : Value → Shared → Prop}
theorem neBools (m1 : s.heap.get? A1 = some (lst (boolL f))) (m2 : s.heap.get? A2 = some (lst (boolL g))) (hfg : ∀ i, i < 5 → f i = g i) (hu : A.units + 64 < cLine) (h : Q (.bool false) s) :
    wpAny (model prog w) A (compareOp .NotEq (.ref A1) (.ref A2)) Q E s := by
  have e : boolL f = boolL g := by
    unfold boolL
    exact List.map_congr_left fun i hi => by rw [hfg i (List.mem_range.mp hi)]
  rw [e] at m1
  have b5 : ∀ g : Nat → Bool, boolL g = [.bool (g 0), .bool (g 1), .bool (g 2), .bool (g 3), .bool (g 4)] := fun _ => rfl
  rw [b5 g] at m1 m2
  have r : ∀ {A : Addr}, s.heap.get? A = some (lst [.bool (g 0), .bool (g 1), .bool (g 2), .bool (g 3), .bool (g 4)]) → Reads s.heap (.ref A) (.list [.bool (g 0), .bool (g 1), .bool (g 2), .bool (g 3), .bool (g 4)]) _ := fun m =>
    reads_list_at m rfl rfl (ReadsAll.cons (.bool _) (ReadsAll.cons (.bool _) (ReadsAll.cons (.bool _) (ReadsAll.cons (.bool _) (ReadsAll.cons (.bool _) .nil)))))
  refine ne_dataH (r m1) (r m2) ?_ ?_ hu ?_
  · simp [SeqAt.shaped, PyData.canLay0, PyData.canLayAll0, PyData.depth, PyData.depthAll]
  · simp [SeqAt.shaped, PyData.canLay0, PyData.canLayAll0, PyData.depth, PyData.depthAll]
  · have e : PyData.eqv (.list [.bool (g 0), .bool (g 1), .bool (g 2), .bool (g 3), .bool (g 4)]) (.list [.bool (g 0), .bool (g 1), .bool (g 2), .bool (g 3), .bool (g 4)]) = true := by
      simp [PyData.eqv, PyData.eqvAll]
    rw [e]; exact h
theorem subNth {value slice : Expr} {l : Addr} {items : List Value} {k : Int} {u : Tok} {x : Value} {h₀ : Heap} {L : Addr} {news : List (Addr × Obj)} (N : News h₀ L s.heap news) {c : Nat} (hm : (l, W.listOf items.toArray c) ∈ news)
    (h0 : 0 ≤ k) (hfit : k < 2 ^ 63) (hx : items[k.toNat]? = some x) (h : Q x s)
    (hs : subscripted slice false (.ref l) (.int k u) = operate [.ref l, .int k u] (getItem (.ref l) (.int k u)) := by with_unfolding_all rfl) :
    wpAny (model prog w) A (subscriptTail value slice (.ref l) (.int k u)) Q E s :=
  item_listR ⟨_, (N _ hm).1, rfl, _, rfl⟩ h0 hfit (by rw [List.getElem?_toArray]; exact hx) h hs
end
end Mine
end
section
open PySem PySem.W PyProof.Rows PySem.Calls PySem.Spec
namespace Mine
theorem nonneg_take {B t u : Int} (hB : 0 < B) (k : Nat) : ∀ d ∈ (runF B t 4 u).take k, 0 ≤ d := fun d hd => (runF_bounds hB t 4 u d (List.mem_of_mem_take hd)).1
theorem small_take {B t u : Int} (hB : 0 < B) (hB2 : B < 7) (k : Nat) : small ((runF B t 4 u).take k) := fun d hd => by
  have := runF_bounds hB t 4 u d (List.mem_of_mem_take hd)
  omega
theorem pth_fits {B t u : Int} (hB : 0 < B) (hB2 : B < 7) (k : Nat) : (pathS ((runF B t 4 u).take k)).length ≤ 900 ∧ PyData.strOk (pathS ((runF B t 4 u).take k)) = true := by
  refine ⟨?_, pathS_ok⟩
  have h1 := pathS_len (small_take (t := t) (u := u) hB hB2 k)
  have h2 := List.length_take_le k (runF B t 4 u)
  have h3 : ((runF B t 4 u).take k).length ≤ (runF B t 4 u).length := List.length_take_le' k _
  rw [runF_length] at h3
  omega
theorem law_full {B : Int} (hB : 1 < B) (us ts : Nat → Int) (pl j : Nat) (i : Nat) (hi : i < 5) :
    sub (pathS ((runF B (ts pl) 4 (us pl)).take i) ++ Txt.mul (Str.ofString "/") (((pl : Int) + i + 1) % 2)) (pathS ((runF B (ts j) 4 (us j)).take 4)) = dueB (us pl * (1 + B * ts j) - us j * (1 + B * ts pl)) B (fun i => ((pl : Int) + i + 1) % 2) i := by
  have hs : ((pl : Int) + i + 1) % 2 = 0 ∨ ((pl : Int) + i + 1) % 2 = 1 := by omega
  have e4 : (runF B (ts j) 4 (us j)).take 4 = runF B (ts j) 4 (us j) := List.take_of_length_le (by rw [runF_length]; exact Nat.le_refl _)
  have h1 := sub_paths (nonneg_take (B := B) (t := ts pl) (u := us pl) (by omega) i) (nonneg_take (B := B) (t := ts j) (u := us j) (by omega) 4) (pathS_cps _) (pathS_cps _) hs
  rw [e4] at h1
  have h2 := law_iff (B := B) (t1 := ts pl) (t2 := ts j) (u1 := us pl) (u2 := us j) (by omega) hi hs
  rw [e4]
  rw [Bool.eq_iff_iff]
  unfold sub dueB
  rw [Bool.and_eq_true, decide_eq_true_eq, decide_eq_true_eq]
  exact h1.trans h2
def sel6 {α : Type} (a b c d e f : α) : Nat → α
  | 0 => a
  | 1 => b
  | 2 => c
  | 3 => d
  | 4 => e
  | _ => f
theorem sel6_all {α : Type} {P : α → Prop} {a b c d e f : α} (ha : P a) (hb : P b) (hc : P c) (hd : P d) (he : P e) (hf : P f) : ∀ j, P (sel6 a b c d e f j)
  | 0 => ha
  | 1 => hb
  | 2 => hc
  | 3 => hd
  | 4 => he
  | _ + 5 => hf
theorem lo_bound {B t : Int} (hB : 1 < B) (hB2 : B < 7) (ht : -30 ≤ t ∧ t ≤ 30) : -1000 < 1 + B * t ∧ 1 + B * t < 1000 := by
  have : B = 2 ∨ B = 3 ∨ B = 4 ∨ B = 5 ∨ B = 6 := by omega
  rcases this with rfl | rfl | rfl | rfl | rfl <;> omega
end Mine
end
section
open PySem PySem.W PyProof.Rows PyProof.Rows.LCg PySem.Calls PySem.Spec
namespace Mine
abbrev mgrObj (w : World) (tq : Tok) (pd : Addr) : Obj := dictOf [{ hash := PyData.keyHash w.params (Str.ofString "passwd"), key := Value.str (Str.ofString "passwd") tq, val := Value.ref pd }] 1
abbrev NFar (w : World) (L : Nat) (M md pd fr tp tf lw pt pf ab sl : Addr) (tq : Tok) (cf : Nat) (o1 o2 o3 o5 o6 oa ob : Obj) (frs lws pts pfs abs items : List Value) (tups : List (Addr × Obj)) : List (Addr × Obj) :=
  (L + 6, o6) :: (L + 1, o1) :: (L + 2, o2) :: (L + 3, o3) :: (L + 5, o5) :: (M, instObj 67 md) :: (md, mgrObj w tq pd) :: (fr, W.listOf frs.toArray cf) :: (tp, oa) :: (tf, ob) :: (lw, lst lws) :: (pt, lst pts) :: (pf, lst pfs) :: (ab, lst abs) :: (sl, lst items) :: tups
def assTold : Stmt := sAt 1 (sBody forFar)
def lcElt : Expr → Expr
  | .ListComp e _ _ _ => e
  | _ => default
def lcScope : Expr → Scope
  | .ListComp _ _ s _ => s
  | _ => default
def asVal : Stmt → Expr
  | .Assign _ v _ => v
  | _ => default
set_option maxRecDepth 100000 in
set_option maxHeartbeats 8000000 in
theorem toldEl {w : World} {p : Program} {loose : List Str} {mean : ExcName → Option Value} {mg mb : Str → Option Value} {fa : Addr} {cd : Value}
    {g : Heap} {L : Nat} {M md pd pt pf C a1 : Addr} {tq : Tok} {m m₂ : Str → Option Value} {s : Shared} {Q E : Value → Shared → Prop} {tfa : Tok} {o2 o3 o6 oC : Obj} {pts pfs : List Value} {tups : List (Addr × Obj)}
    {far : Nat} {T4 P : Str} {t4 th tp : Tok}
    (BB : Below callerA g [] g) (X : (Mine.hd.heap_39 w.params).In g) (T : Top p loose mean mg mb g)
    (hfa : far < 6) (F : Fr g L s.heap m) 
    (d2 : o2.data = .cell (some (.ref M))) (d3 : o3.data = .cell (some (.ref pt))) (d6 : o6.data = .cell (some (.int far tfa)))
    (hC : NsObj oC m₂) (hx : m₂ (Str.ofString "one") = some (.ref a1))
    (N : News g L s.heap ((a1, tup2 (.str H th) (.str P tp)) :: (C, oC) :: (L + 6, o6) :: (L + 2, o2) :: (L + 3, o3) :: (M, instObj 67 md) :: (md, mgrObj w tq pd) :: (pt, lst pts) :: (pf, lst pfs) :: tups))
    (e8 : pts[far]? = some (.ref pf)) (e10 : pfs[4]? = some (.str T4 t4))
    (q1 : T4.length ≤ 1000) (q2 : PyData.strOk T4 = true) (q3 : P.length ≤ 1000) (q4 : PyData.strOk P = true)
    (hQ : ∀ h' tk', Fr g L h' m → News g L h' ((a1, tup2 (.str H th) (.str P tp)) :: (C, oC) :: (L + 6, o6) :: (L + 2, o2) :: (L + 3, o3) :: (M, instObj 67 md) :: (md, mgrObj w tq pd) :: (pt, lst pts) :: (pf, lst pfs) :: tups) → Q (.bool (sub P T4)) { s with heap := h', toks := tk' }) :
    wpAny (model PySem.Challenge.rw_pg0188_01.row.prog w) (callerA.deeper (envW L fa cd)) (eval (lcElt (asVal assTold)) (compEnvC (lcScope (asVal assTold)) [(Str.ofString "far", L + 6), (Str.ofString "manager", L + 2), (Str.ofString "paths", L + 3)] C (envW L fa cd))) Q E s := by
  k_with "subscriptTail" => ((with_reducible show wpAny _ _ (subscriptTail _ _ (Value.ref _) (Value.int _ _)) _ _ _); with_unfolding_all refine' Mine.subNth (by k_dflt k_asm) (by k_dflt k_mem) (by k_dflt omega) (by k_dflt omega) (by k_dflt assumption) ?_ (by with_unfolding_all rfl); k_whole)
  k_with "call ref" => ((with_reducible show wpAny _ _ (call (Value.ref 64) _) _ _ _); refine Mine.Stop.go ?_)
  revert X
  k_fill
  intro X
  have hb : lcElt (asVal assTold) = lcElt (asVal assTold) := rfl
  conv at hb => rhs; whnf
  have hs : sScope st15 = sScope st15 := rfl
  conv at hs => rhs; whnf
  have hc : lcScope (asVal assTold) = lcScope (asVal assTold) := rfl
  conv at hc => rhs; whnf
  refine (id ?_ : wpAny _ _ _ _ _ _)
  dsimp only [envW] at F N ⊢
  rw [hb, hs, hc]
  clear hb hs hc
  w_on
  w_strict k_steps
  unfold Stop
  rename Fr g L _ _ => F1
  rename News g L _ _ => N1
  rename_i D' hh l1
  with_unfolding_all refine subu (base := g) _ _ _ _ _ _ _ _ _ _ _ _ _ _ _ _ M a1 D' P T4 _ _ _ _ BB F1 X T rfl (cb_drop N1 (by kcj_all)) (by omega) q3 q1 q4 q2 (by ktr_room) (by ktr_units) ?_
  intro h3 tk3 kb3
  have kb4 : ∀ b o, _ → h3.get? b = some o := fun b o e => kb3 b o (List.not_mem_nil) e
  exact hQ h3 tk3 (F1.keeps kb4) (cb_drop (N1.grown kb4) (by kcj_all))
  k_with_none
theorem toldEl2 {w : World} {p : Program} {loose : List Str} {mean : ExcName → Option Value} {mg mb : Str → Option Value} {fa : Addr} {cd : Value}
    {g : Heap} {L : Nat} {M md pd pt pf C a1 : Addr} {tq : Tok} {m m₂ : Str → Option Value} {s : Shared} {Q E : Value → Shared → Prop} {tfa : Tok} {o2 o3 o6 oC : Obj} {pts pfs : List Value} {tups : List (Addr × Obj)}
    {far : Nat} {T4 P : Str} {t4 th tp : Tok}
    (BB : Below callerA g [] g) (X : (Mine.hd.heap_39 w.params).In g) (T : Top p loose mean mg mb g)
    (hfa : far < 6) (F : Fr g L s.heap m) 
    (d2 : o2.data = .cell (some (.ref M))) (d3 : o3.data = .cell (some (.ref pt))) (d6 : o6.data = .cell (some (.int far tfa)))
    (hC : NsObj oC m₂) (hx : m₂ (Str.ofString "one") = some (.ref a1))
    (N : News g L s.heap tups) (k1 : (a1, tup2 (.str H th) (.str P tp)) ∈ tups) (k2 : (C, oC) ∈ tups) (k3 : (L + 6, o6) ∈ tups) (k4 : (L + 2, o2) ∈ tups) (k5 : (L + 3, o3) ∈ tups) (k6 : (M, instObj 67 md) ∈ tups) (k7 : (md, mgrObj w tq pd) ∈ tups) (k8 : (pt, lst pts) ∈ tups) (k9 : (pf, lst pfs) ∈ tups)
    (e8 : pts[far]? = some (.ref pf)) (e10 : pfs[4]? = some (.str T4 t4))
    (q1 : T4.length ≤ 1000) (q2 : PyData.strOk T4 = true) (q3 : P.length ≤ 1000) (q4 : PyData.strOk P = true)
    (hQ : ∀ h' tk', Fr g L h' m → News g L h' tups → Q (.bool (sub P T4)) { s with heap := h', toks := tk' }) :
    wpAny (model PySem.Challenge.rw_pg0188_01.row.prog w) (callerA.deeper (envW L fa cd)) (eval (lcElt (asVal assTold)) (compEnvC (lcScope (asVal assTold)) [(Str.ofString "far", L + 6), (Str.ofString "manager", L + 2), (Str.ofString "paths", L + 3)] C (envW L fa cd))) Q E s := 
  toldEl (tups := tups) BB X T hfa F d2 d3 d6 hC hx (cb_drop N (subC k1 (subC k2 (subC k3 (subC k4 (subC k5 (subC k6 (subC k7 (subC k8 (subC k9 fun _ hp => hp)))))))))) e8 e10 q1 q2 q3 q4
    fun h' tk' F' N' => hQ h' tk' F' fun p hp => N' p (.tail _ (.tail _ (.tail _ (.tail _ (.tail _ (.tail _ (.tail _ (.tail _ (.tail _ hp)))))))))
end Mine
end
section
open PySem PySem.W PyProof.Rows PyProof.Rows.LCg PySem.Calls PySem.Spec
namespace Mine
set_option maxRecDepth 100000 in
set_option maxHeartbeats 8000000 in
theorem turnFar {w : World} {p : Program} {loose : List Str} {mean : ExcName → Option Value} {mg mb : Str → Option Value} {fa : Addr} {cd : Value}
    {g : Heap} {L : Nat} {M md pd fr tp tf lw pt pf ab sl : Addr} {tq : Tok} {cf : Nat} {m : Str → Option Value} {s : Shared} {Q : Flow → Shared → Prop} {E : Value → Shared → Prop} {B : Int} {tB tpl tfa : Tok} {o1 o2 o3 o5 o6 : Obj} {frs lws pts pfs abs items : List Value} {tups : List (Addr × Obj)}
    {pl far : Nat} {up uf lp lf xp xf : Int} {u1 u2 u3 u4 u5 u6 : Tok} {T4 : Str} {t4 : Tok} {aa : Nat → Addr} {aq : Nat → Str} {sls : Nat → Int}
    (BB : Below callerA g [] g) (X : (Mine.hd.heap_39 w.params).In g) (T : Top p loose mean mg mb g)
    (hpl : pl < 6) (hfa : far < 6) (hB : 1 < B) (hB2 : B < 7)
    (F : Fr g L s.heap m) (m1 : m (Str.ofString "fractions") = some (.ref fr)) (m2 : m (Str.ofString "lowers") = some (.ref lw)) (m3 : m (Str.ofString "above") = some (.ref ab)) (m4 : m (Str.ofString "slashes") = some (.ref sl))
    (d1 : o1.data = .cell (some (.int B tB))) (d2 : o2.data = .cell (some (.ref M))) (d3 : o3.data = .cell (some (.ref pt))) (d5 : o5.data = .cell (some (.int pl tpl))) (d6 : o6.data = .cell (some (.int far tfa)))
    (N : News g L s.heap (NFar w L M md pd fr tp tf lw pt pf ab sl tq cf o1 o2 o3 o5 o6 (tup2 (.int up u1) (.int xp u2)) (tup2 (.int uf u3) (.int xf u4)) frs lws pts pfs abs items tups))
    (e1 : frs.length = 6) (e2 : frs[pl]? = some (.ref tp)) (e3 : frs[far]? = some (.ref tf)) (e4 : lws.length = 6) (e5 : lws[pl]? = some (.int lp u5)) (e6 : lws[far]? = some (.int lf u6)) (e7 : pts.length = 6) (e8 : pts[far]? = some (.ref pf)) (e9 : pfs.length = 5) (e10 : pfs[4]? = some (.str T4 t4))
    (e11 : abs.length = 5) (e12 : ∀ i, i < 5 → ∃ th tq, abs[i]? = some (.ref (aa i)) ∧ (aa i, tup2 (.str H th) (.str (aq i) tq)) ∈ tups) (e13 : items.length = 5) (e14 : ∀ i, i < 5 → ∃ t, items[i]? = some (.int (sls i) t))
    (b1 : -(2 ^ 60) < up ∧ up < 2 ^ 60) (b2 : -(2 ^ 60) < uf ∧ uf < 2 ^ 60) (b3 : -(2 ^ 60) < lp ∧ lp < 2 ^ 60) (b4 : -(2 ^ 60) < lf ∧ lf < 2 ^ 60)
    (q1 : T4.length ≤ 1000) (q2 : PyData.strOk T4 = true) (q3 : ∀ i, i < 5 → (aq i).length ≤ 1000 ∧ PyData.strOk (aq i) = true)
    (law : ∀ i, i < 5 → sub (aq i) T4 = dueB (up * lf - uf * lp) B sls i)
    (hQ : ∀ h' tk' m', Fr g L h' m' → m' (Str.ofString "fractions") = some (.ref fr) → m' (Str.ofString "lowers") = some (.ref lw) → m' (Str.ofString "above") = some (.ref ab) → m' (Str.ofString "slashes") = some (.ref sl) →
      News g L h' (NFar w L M md pd fr tp tf lw pt pf ab sl tq cf o1 o2 o3 o5 o6 (tup2 (.int up u1) (.int xp u2)) (tup2 (.int uf u3) (.int xf u4)) frs lws pts pfs abs items tups) → Q .next { s with heap := h', toks := tk' }) :
    wpAny (model PySem.Challenge.rw_pg0188_01.row.prog w) (callerA.deeper (envW L fa cd)) (execs (sBody forFar) (envW L fa cd)) Q E s := by
  k_with "eval Name" => (refine' nameX_L (by k_asm) (by assumption) ?_ rfl rfl; k_whole)
  k_with "mem" => ((repeat (apply List.Mem.tail)); assumption)
  k_with "subscriptTail" => ((with_reducible show wpAny _ _ (subscriptTail _ _ (Value.ref _) (Value.int _ _)) _ _ _); with_unfolding_all refine' Mine.subNth (by k_dflt k_asm) (by k_dflt k_mem) (by k_dflt omega) (by k_dflt omega) (by k_dflt assumption) ?_ (by with_unfolding_all rfl); k_whole)
  k_with "call ref" => ((with_reducible show wpAny _ _ (call (Value.ref 132) _) _ _ _); refine Mine.Stop.go ?_)
  k_with "CompSrc" => (refine Mine.Stop.go ?_)
  revert X
  k_fill
  intro X
  have hb : sBody forFar = sBody forFar := rfl
  conv at hb => rhs; whnf
  have hs : sScope st15 = sScope st15 := rfl
  conv at hs => rhs; whnf
  refine (id ?_ : wpAny _ _ _ _ _ _)
  dsimp only [envW, NFar] at F N ⊢
  rw [hb, hs]
  clear hb hs
  w_on
  w_strict k_steps
  unfold Stop
  rename Fr g L _ _ => F1
  rename News g L _ _ => N1
  refine CompSrc.ledger (its := abs.toArray) rfl F1 N1 (by k_mem) (by rw [List.size_toArray, e11]; exact Nat.le_of_ble_eq_true rfl) ?_
  intro g₂
  rw [List.size_toArray, e11]
  refine CompRest.same (fun i y => y = .bool (sub (aq i) T4)) (.inr ⟨lst abs, (by k_mem), rfl, abs.length, rfl⟩) ?_ ?_
  · intro i hi v hv I oI C oC D m₂ h₂ tk₂ ys Q' E' hC hx F₂ N₂ off hne hQ'
    obtain ⟨th, tq', ha, hmem⟩ := e12 i hi
    rw [List.getElem?_toArray, ha] at hv
    obtain rfl := Option.some.inj hv
    obtain ⟨r1, r2⟩ := q3 i hi
    with_unfolding_all refine toldEl2 (tq := tq) (md := md) (pd := pd) (th := th) (tp := tq') BB X T hfa F₂ d2 d3 d6 hC hx N₂ (.tail _ (.tail _ (.tail _ (by k_mem)))) (by k_mem) (by k_mem) (by k_mem) (by k_mem) (by k_mem) (by k_mem) (by k_mem) (by k_mem) e8 e10 q1 q2 r1 r2 ?_
    intro h3 tk3 F3 N3
    exact hQ' _ _ _ rfl F3 N3
  · intro ys h5' hY D h₃ tk₃ F₃ N₃ o1
    rw [boolL_of h5' hY] at N₃
    w_strict k_steps
    unfold Stop
    clear hY h5' o1 e12 q1 q2 q3
    have N₅ : News g L h₃ [(sl, W.listOf items.toArray items.length)] := fun p hp => by
      rw [List.mem_singleton.mp hp]
      exact N₃ (sl, lst items) (by k_mem)
    with_unfolding_all refine due (base := g) _ _ _ _ _ _ _ _ _ _ _ _ _ _ _ _ sl items.length (up * lf - uf * lp) B items sls _ tB BB F₃ X T rfl N₅ e13 e14 (by omega) (by omega) (by ktr_room) (by ktr_units) ?_
    intro D2 h4 tk4 kb4 hn4 hD2
    have kb5 : ∀ b o, _ → h4.get? b = some o := fun b o e => kb4 b o (List.not_mem_nil) e
    have N4 := joinNews F₃ (N₃.grown kb5) hn4 hD2
    have F4 := F₃.keeps kb5
    clear N₃ F₃ hn4 hD2 kb4 kb5
    refine (id ?_ : wpAny _ _ _ _ _ _)
    refine neBools (N4.get (by k_mem)) (N4.get (by k_mem)) law (by ktr_units) ?_
    w_strict k_steps
    refine hQ _ _ _ F4 m1 m2 m3 m4 (cb_drop N4 ?_)
    intro p hp
    exact .tail _ (.tail _ hp)
  k_with_none
end Mine
end
section
open PySem PySem.W PyProof.Rows PyProof.Rows.LCg PySem.Calls PySem.Spec
namespace Mine
abbrev NL (w : World) (L : Nat) (M md pd fr lw pt ab sl : Addr) (tq : Tok) (cf : Nat) (o1 o2 o3 o5 : Obj) (frs lws pts abs items : List Value) (tups : List (Addr × Obj)) : List (Addr × Obj) :=
  (L + 1, o1) :: (L + 2, o2) :: (L + 3, o3) :: (L + 5, o5) :: (M, instObj 67 md) :: (md, mgrObj w tq pd) :: (fr, W.listOf frs.toArray cf) :: (lw, lst lws) :: (pt, lst pts) :: (ab, lst abs) :: (sl, lst items) :: tups
section
variable {prog : Program} {w : World} {A : Around} {E : Value → Shared → Prop} {s : Shared} {h₀ : Heap} {m : Str → Option Value} {env : Env}
theorem storeCellAt {name : Str} {c : Addr} {v : Value} {o : Obj} {v₀ : Option Value} {Q : Unit → Shared → Prop} {n1 n2 : List (Addr × Obj)} {px : Pos} (F : Fr h₀ env.locals s.heap m) (N : News h₀ env.locals s.heap (n1 ++ (c, o) :: n2)) (hc : env.cells.lookup name = some c) (hd : o.data = .cell v₀)
    (u1 : ∀ p ∈ n1, p.1 ≠ c) (u2 : ∀ p ∈ n2, p.1 ≠ c)
    (h : ∀ h' o', Fr h₀ env.locals h' m → News h₀ env.locals h' (n1 ++ (c, o') :: n2) → o'.data = .cell (some v) → Q () { s with heap := h' })
    (hk : env.scope.kind = .function) (hx : env.kindOf name = some .cell) : wpAny (model prog w) A (assign (.Name name px) env v) Q E s := by
  refine wpAny_assign_Name ?_
  have hmem := N (c, o) (List.mem_append_right _ (.head _))
  refine wpAny_storeName_cell hk hx hc ⟨o, hmem.1, hd⟩ fun h' hv hs => ?_
  obtain ⟨o', ho', hd'⟩ := hv
  refine h h' o' ⟨F.ns.sameBut hs (Ne.symm hmem.2.1), fun b ob e => (hs.2 b (fun q => ?_)).trans (F.keep b ob e), F.above⟩ (fun p hp => ?_) hd'
  · rw [q, hmem.2.2] at e; cases e
  · rcases List.mem_append.mp hp with hp | hp
    · have z := N p (List.mem_append_left _ hp)
      exact ⟨(hs.2 p.1 (u1 p hp)).trans z.1, z.2⟩
    · rcases List.mem_cons.mp hp with rfl | hp
      · exact ⟨ho', hmem.2⟩
      · have z := N p (List.mem_append_right _ (.tail _ hp))
        exact ⟨(hs.2 p.1 (u2 p hp)).trans z.1, z.2⟩
end
theorem rangeSize6 {pl : Nat} (h : pl < 6) : Builtin.Range.rangeSize (pl : Int) 6 1 = ((6 - pl : Nat) : Int) ∧ Builtin.Range.small (pl : Int) 6 1 = true := by
  have : pl = 0 ∨ pl = 1 ∨ pl = 2 ∨ pl = 3 ∨ pl = 4 ∨ pl = 5 := by omega
  rcases this with rfl | rfl | rfl | rfl | rfl | rfl <;> exact ⟨by decide +kernel, by decide +kernel⟩
set_option maxRecDepth 100000 in
set_option maxHeartbeats 8000000 in
theorem loopFar {w : World} {p : Program} {loose : List Str} {mean : ExcName → Option Value} {mg mb : Str → Option Value} {fa : Addr} {cd : Value}
    {g : Heap} {L : Nat} {M md pd fr lw pt ab sl : Addr} {tq : Tok} {cf : Nat} {m : Str → Option Value} {s : Shared} {Q : Flow → Shared → Prop} {E : Value → Shared → Prop} {B : Int} {tB tpl : Tok} {o1 o2 o3 o5 o6 : Obj} {frs lws pts abs items : List Value} {tups : List (Addr × Obj)}
    {pl : Nat} {us xs lo : Nat → Int} {ft pa : Nat → Addr} {ps : Nat → List Value} {pth : Nat → Nat → Str} {aa : Nat → Addr} {aq : Nat → Str} {sls : Nat → Int} {v6 : Option Value}
    (hE : PassesOwn (model PySem.Challenge.rw_pg0188_01.row.prog w) (callerA.deeper (envW L fa cd)) (envW L fa cd) E) (BB : Below callerA g [] g) (X : (Mine.hd.heap_39 w.params).In g) (T : Top p loose mean mg mb g)
    (hpl : pl < 6) (hB : 1 < B) (hB2 : B < 7)
    (F : Fr g L s.heap m) (m1 : m (Str.ofString "fractions") = some (.ref fr)) (m2 : m (Str.ofString "lowers") = some (.ref lw)) (m3 : m (Str.ofString "above") = some (.ref ab)) (m4 : m (Str.ofString "slashes") = some (.ref sl))
    (d1 : o1.data = .cell (some (.int B tB))) (d2 : o2.data = .cell (some (.ref M))) (d3 : o3.data = .cell (some (.ref pt))) (d5 : o5.data = .cell (some (.int pl tpl))) (d6 : o6.data = .cell v6)
    (N : News g L s.heap ((L + 6, o6) :: NL w L M md pd fr lw pt ab sl tq cf o1 o2 o3 o5 frs lws pts abs items tups))
    (ne6 : ∀ q ∈ NL w L M md pd fr lw pt ab sl tq cf o1 o2 o3 o5 frs lws pts abs items tups, q.1 ≠ L + 6)
    (e1 : frs.length = 6) (e4 : lws.length = 6) (e7 : pts.length = 6) (e11 : abs.length = 5) (e13 : items.length = 5)
    (hF : ∀ j, j < 6 → ∃ u1 u2, frs[j]? = some (.ref (ft j)) ∧ (ft j, tup2 (.int (us j) u1) (.int (xs j) u2)) ∈ tups)
    (hL : ∀ j, j < 6 → ∃ u, lws[j]? = some (.int (lo j) u))
    (hP : ∀ j, j < 6 → pts[j]? = some (.ref (pa j)) ∧ (pa j, lst (ps j)) ∈ tups ∧ (ps j).length = 5 ∧ ∃ t, (ps j)[4]? = some (.str (pth j 4) t))
    (e12 : ∀ i, i < 5 → ∃ th tq, abs[i]? = some (.ref (aa i)) ∧ (aa i, tup2 (.str H th) (.str (aq i) tq)) ∈ tups) (e14 : ∀ i, i < 5 → ∃ t, items[i]? = some (.int (sls i) t))
    (b1 : ∀ j, j < 6 → -(2 ^ 60) < us j ∧ us j < 2 ^ 60) (b3 : ∀ j, j < 6 → -(2 ^ 60) < lo j ∧ lo j < 2 ^ 60)
    (q1 : ∀ j, j < 6 → (pth j 4).length ≤ 1000 ∧ PyData.strOk (pth j 4) = true) (q3 : ∀ i, i < 5 → (aq i).length ≤ 1000 ∧ PyData.strOk (aq i) = true)
    (law : ∀ j, pl ≤ j → j < 6 → ∀ i, i < 5 → sub (aq i) (pth j 4) = dueB (us pl * lo j - us j * lo pl) B sls i)
    (hQ : ∀ h' tk' m' o6' v6', o6'.data = .cell v6' → Fr g L h' m' → m' (Str.ofString "fractions") = some (.ref fr) → m' (Str.ofString "lowers") = some (.ref lw) →
      News g L h' ((L + 6, o6') :: NL w L M md pd fr lw pt ab sl tq cf o1 o2 o3 o5 frs lws pts abs items tups) → Q .next { s with heap := h', toks := tk' }) :
    wpAny (model PySem.Challenge.rw_pg0188_01.row.prog w) (callerA.deeper (envW L fa cd)) (exec forFar (envW L fa cd)) Q E s := by
  k_with "pyIter ref" => (refine Mine.Stop.go ?_)
  k_with "exec For Name Call cons nil" => ((rename Fr _ _ _ _ => lF'); (with_unfolding_all refine' For_turns lF' ?_; k_whole))
  k_with "mem" => ((repeat (apply List.Mem.tail)); assumption)
  revert X
  k_fill
  intro X
  have hb : forFar = forFar := rfl
  conv at hb => rhs; whnf
  have hs : sScope st15 = sScope st15 := rfl
  conv at hs => rhs; whnf
  refine (id ?_ : wpAny _ _ _ _ _ _)
  dsimp only [envW, NL] at F N ⊢
  rw [hb, hs]
  clear hb hs
  w_on
  with_unfolding_all refine For_turns F ?_ (hE := hE)
  w_strict k_steps
  unfold Stop
  rename IsRange _ _ _ _ _ _ _ _ => hr
  rename News g L _ _ => N1
  rename Fr g L _ _ => F1
  obtain ⟨z1, z2⟩ := rangeSize6 hpl
  with_unfolding_all refine forRange (fun i m' nw => ∃ o6' v6', o6'.data = .cell v6' ∧ nw = (L + 6, o6') :: NL w L M md pd fr lw pt ab sl tq cf o1 o2 o3 o5 frs lws pts abs items tups ∧ m' (Str.ofString "fractions") = some (.ref fr) ∧ m' (Str.ofString "lowers") = some (.ref lw) ∧ m' (Str.ofString "above") = some (.ref ab) ∧ m' (Str.ofString "slashes") = some (.ref sl)) rfl hr z2 z1 F1 N1 ⟨_, _, d6, rfl, m1, m2, m3, m4⟩ ?_ ?_
  · rintro I hI i t m₁ news₁ h₁ tk₁ oI hi ⟨o6', v6', d6', rfl, k1, k2, k3, k4⟩ hoff F2 N2
    have hI6 : ((L + 6 : Nat) : Nat) ≠ I := hoff _ (.head _)
    with_unfolding_all refine storeCellAt (n1 := [(I, oI)]) (o := o6') F2 N2 rfl d6' (fun q hq => by rw [List.mem_singleton.mp hq]; exact hI6.symm) ne6 ?_ rfl rfl
    intro h3 o6n F3 N3 d6n
    have hoff' : ∀ q ∈ (L + 6, o6n) :: NL w L M md pd fr lw pt ab sl tq cf o1 o2 o3 o5 frs lws pts abs items tups, q.1 ≠ I := fun q hq => by
      rcases List.mem_cons.mp hq with rfl | hq
      · exact hI6
      · exact hoff q (.tail _ hq)
    obtain ⟨u1, u2, fe1, fe2⟩ := hF pl hpl
    obtain ⟨u3, u4, ff1, ff2⟩ := hF (pl + i) (by omega)
    obtain ⟨u5, le1⟩ := hL pl hpl
    obtain ⟨u6, lf1⟩ := hL (pl + i) (by omega)
    obtain ⟨pe1, pe2, pe3, t4, pe4⟩ := hP (pl + i) (by omega)
    have d6m : o6n.data = .cell (some (.int ((pl + i : Nat) : Int) t)) := by rw [d6n, Int.natCast_add]
    refine (id ?_ : wpAny _ _ _ _ _ _)
    have N4 : News g L h3 (NFar w L M md pd fr (ft pl) (ft (pl + i)) lw pt (pa (pl + i)) ab sl tq cf o1 o2 o3 o5 o6n (tup2 (.int (us pl) u1) (.int (xs pl) u2)) (tup2 (.int (us (pl + i)) u3) (.int (xs (pl + i)) u4)) frs lws pts (ps (pl + i)) abs items ((I, oI) :: (L + 6, o6n) :: NL w L M md pd fr lw pt ab sl tq cf o1 o2 o3 o5 frs lws pts abs items tups)) :=
      cb_drop N3 (subC (by k_mem) (subC (by k_mem) (subC (by k_mem) (subC (by k_mem) (subC (by k_mem) (subC (by k_mem) (subC (by k_mem) (subC (by k_mem) (subC (by k_mem) (subC (by k_mem) (subC (by k_mem) (subC (by k_mem) (subC (by k_mem) (subC (by k_mem) (subC (by k_mem) (fun q hq => hq))))))))))))))))
    with_unfolding_all refine turnFar (aa := aa) (pl := pl) (far := pl + i) BB X T hpl (by omega) hB hB2 F3 k1 k2 k3 k4 d1 d2 d3 d5 d6m N4 e1 fe1 ff1 e4 le1 lf1 e7 pe1 pe3 pe4 e11 (fun j hj => ?_) e13 e14 (b1 pl hpl) (b1 (pl + i) (by omega)) (b3 pl hpl) (b3 (pl + i) (by omega)) (q1 (pl + i) (by omega)).1 (q1 (pl + i) (by omega)).2 q3 (law (pl + i) (by omega) (by omega)) ?_
    · obtain ⟨th, tk, y1, y2⟩ := e12 j hj
      exact ⟨th, tk, y1, .tail _ (.tail _ (by k_mem))⟩
    · intro h5 tk5 m5 F5 r1 r2 r3 r4 N5
      refine ⟨h5, tk5, m5, (L + 6, o6n) :: NL w L M md pd fr lw pt ab sl tq cf o1 o2 o3 o5 frs lws pts abs items tups, rfl, F5, cb_drop N5 (fun q hq => ?_), hoff', o6n, _, d6n, rfl, r1, r2, r3, r4⟩
      exact .tail _ (.tail _ (.tail _ (.tail _ (.tail _ (.tail _ (.tail _ (.tail _ (.tail _ (.tail _ (.tail _ (.tail _ (.tail _ (.tail _ (.tail _ hq))))))))))))))
  · rintro h' tk m' news' F' N' ⟨o6', v6', d6', rfl, k1, k2, k3, k4⟩
    exact hQ h' tk m' o6' v6' d6' F' k1 k2 N'
  k_with_none
end Mine
end
section
open PySem PySem.W PyProof.Rows PyProof.Rows.LCg PySem.Calls PySem.Spec
namespace Mine
def assSl : Stmt := sAt 0 (sBody for7)
def assAb : Stmt := sAt 1 (sBody for7)
set_option maxRecDepth 100000 in
set_option maxHeartbeats 8000000 in
theorem slashEl {w : World} {p : Program} {loose : List Str} {mean : ExcName → Option Value} {mg mb : Str → Option Value} {fa : Addr} {cd : Value}
    {g : Heap} {L : Nat} {C : Addr} {m m₂ : Str → Option Value} {s : Shared} {Q E : Value → Shared → Prop} {tpl tk : Tok} {o5 oC : Obj} {tups : List (Addr × Obj)} {pl k : Nat}
    (BB : Below callerA g [] g) (X : (Mine.hd.heap_39 w.params).In g) (T : Top p loose mean mg mb g)
    (hpl : pl < 6) (hk : k < 5) (F : Fr g L s.heap m) (d5 : o5.data = .cell (some (.int pl tpl)))
    (hC : NsObj oC m₂) (hx : m₂ (Str.ofString "k") = some (.int k tk)) (N : News g L s.heap ((C, oC) :: (L + 5, o5) :: tups))
    (hQ : ∀ t tk', Q (.int (((pl : Int) + k + 1) % 2) t) { s with toks := tk' }) :
    wpAny (model PySem.Challenge.rw_pg0188_01.row.prog w) (callerA.deeper (envW L fa cd)) (eval (lcElt (asVal assSl)) (compEnvC (lcScope (asVal assSl)) [(Str.ofString "place", L + 5)] C (envW L fa cd))) Q E s := by
  k_with "newTuple" => (refine' Mine.newTupleL (by k_asm) (by k_asm) (by exact Nat.le_of_ble_eq_true rfl) ?_)
  revert X
  k_fill
  intro X
  have hb : lcElt (asVal assSl) = lcElt (asVal assSl) := rfl
  conv at hb => rhs; whnf
  have hs : sScope st15 = sScope st15 := rfl
  conv at hs => rhs; whnf
  have hc : lcScope (asVal assSl) = lcScope (asVal assSl) := rfl
  conv at hc => rhs; whnf
  refine (id ?_ : wpAny _ _ _ _ _ _)
  dsimp only [envW] at F N ⊢
  rw [hb, hs, hc]
  clear hb hs hc
  have hm : ((pl : Int) + k + 1).fmod 2 = ((pl : Int) + k + 1) % 2 := Int.fmod_eq_emod_of_nonneg _ (by decide)
  w_on
  w_strict k_steps
  rw [hm]
  exact hQ _ _
  k_with_none
set_option maxRecDepth 100000 in
set_option maxHeartbeats 8000000 in
theorem aboveEl {w : World} {p : Program} {loose : List Str} {mean : ExcName → Option Value} {mg mb : Str → Option Value} {fa : Addr} {cd : Value}
    {g : Heap} {L : Nat} {C : Addr} {m m₂ : Str → Option Value} {s : Shared} {Q E : Value → Shared → Prop} {tp tk : Tok} {oC : Obj} {tups : List (Addr × Obj)} {P : Str} {sl : Int}
    (BB : Below callerA g [] g) (X : (Mine.hd.heap_39 w.params).In g) (T : Top p loose mean mg mb g)
    (F : Fr g L s.heap m) (hP : P.length ≤ 1000)
    (hC : NsObj oC m₂) (hx : m₂ (Str.ofString "path") = some (.str P tp)) (hx2 : m₂ (Str.ofString "slash") = some (.int sl tk)) (hs0 : 0 ≤ sl) (hs1 : sl ≤ 1) (N : News g L s.heap ((C, oC) :: tups))
    (hQ : ∀ a th t h' tk', (∀ q ∈ (C, oC) :: tups, @LT.lt Nat _ q.1 a) → Fr g L h' m → News g L h' ((a, tup2 (.str H th) (.str (P ++ Txt.mul (Str.ofString "/") sl) t)) :: (C, oC) :: tups) → Q (.ref a) { s with heap := h', toks := tk' }) :
    wpAny (model PySem.Challenge.rw_pg0188_01.row.prog w) (callerA.deeper (envW L fa cd)) (eval (lcElt (asVal assAb)) (compEnvC (lcScope (asVal assAb)) [] C (envW L fa cd))) Q E s := by
  k_with "newTuple" => (refine' Mine.newTupleL (by k_asm) (by k_asm) (by exact Nat.le_of_ble_eq_true rfl) ?_)
  revert X
  k_fill
  intro X
  have hb : lcElt (asVal assAb) = lcElt (asVal assAb) := rfl
  conv at hb => rhs; whnf
  have hs : sScope st15 = sScope st15 := rfl
  conv at hs => rhs; whnf
  have hc : lcScope (asVal assAb) = lcScope (asVal assAb) := rfl
  conv at hc => rhs; whnf
  refine (id ?_ : wpAny _ _ _ _ _ _)
  dsimp only [envW] at F N ⊢
  rw [hb, hs, hc]
  clear hb hs hc
  w_on
  w_strict k_steps
  rename Fr g L _ _ => F3
  rename News g L _ _ => N3
  rename ∀ q ∈ (C, oC) :: tups, _ => hlt
  exact hQ _ _ _ _ _ hlt F3 N3
  k_with_none
end Mine
end
section
open PySem PySem.W PyProof.Rows PyProof.Rows.LCg PySem.Calls PySem.Spec
namespace Mine
abbrev NP (w : World) (L : Nat) (M md pd fr lw pt : Addr) (tq : Tok) (cf : Nat) (o1 o2 o3 : Obj) (frs lws pts : List Value) (tups : List (Addr × Obj)) : List (Addr × Obj) :=
  (L + 1, o1) :: (L + 2, o2) :: (L + 3, o3) :: (M, instObj 67 md) :: (md, mgrObj w tq pd) :: (fr, W.listOf frs.toArray cf) :: (lw, lst lws) :: (pt, lst pts) :: tups
def addrAt (acc : List (Addr × Obj)) (i : Nat) : Addr := match acc[i]? with
  | some p => p.1
  | none => 0
theorem OffL {D : Addr} : ∀ {l : List (Addr × Obj)}, Off1 D l → ∀ p ∈ l, p.1 ≠ D
  | [], _, _, h => nomatch h
  | _ :: _, x, p, h => by
    rcases List.mem_cons.mp h with rfl | h
    · exact x.1
    · exact OffL x.2 p h
set_option maxRecDepth 100000 in
set_option maxHeartbeats 8000000 in
theorem turnPlace {w : World} {p : Program} {loose : List Str} {mean : ExcName → Option Value} {mg mb : Str → Option Value} {fa : Addr} {cd : Value}
    {g : Heap} {L : Nat} {M md pd fr lw pt : Addr} {tq : Tok} {cf : Nat} {m : Str → Option Value} {s : Shared} {Q : Flow → Shared → Prop} {E : Value → Shared → Prop} {B : Int} {tB tpl : Tok} {o1 o2 o3 o5 o6 : Obj} {frs lws pts : List Value} {tups : List (Addr × Obj)}
    {pl : Nat} {us xs lo : Nat → Int} {ft pa : Nat → Addr} {ps : Nat → List Value} {pth : Nat → Nat → Str} {v6 : Option Value}
    (hE : PassesOwn (model PySem.Challenge.rw_pg0188_01.row.prog w) (callerA.deeper (envW L fa cd)) (envW L fa cd) E) (BB : Below callerA g [] g) (X : (Mine.hd.heap_39 w.params).In g) (T : Top p loose mean mg mb g)
    (hpl : pl < 6) (hB : 1 < B) (hB2 : B < 7)
    (F : Fr g L s.heap m) (m1 : m (Str.ofString "fractions") = some (.ref fr)) (m2 : m (Str.ofString "lowers") = some (.ref lw))
    (d1 : o1.data = .cell (some (.int B tB))) (d2 : o2.data = .cell (some (.ref M))) (d3 : o3.data = .cell (some (.ref pt))) (d5 : o5.data = .cell (some (.int pl tpl))) (d6 : o6.data = .cell v6)
    (N : News g L s.heap ((L + 5, o5) :: (L + 6, o6) :: NP w L M md pd fr lw pt tq cf o1 o2 o3 frs lws pts tups))
    (ne6 : ∀ q ∈ NP w L M md pd fr lw pt tq cf o1 o2 o3 frs lws pts tups, q.1 ≠ L + 6)
    (e1 : frs.length = 6) (e4 : lws.length = 6) (e7 : pts.length = 6)
    (hF : ∀ j, j < 6 → ∃ u1 u2, frs[j]? = some (.ref (ft j)) ∧ (ft j, tup2 (.int (us j) u1) (.int (xs j) u2)) ∈ tups)
    (hL : ∀ j, j < 6 → ∃ u, lws[j]? = some (.int (lo j) u))
    (hP : ∀ j, j < 6 → pts[j]? = some (.ref (pa j)) ∧ (pa j, lst (ps j)) ∈ tups ∧ (ps j).length = 5 ∧ ∀ k, k < 5 → ∃ t, (ps j)[k]? = some (.str (pth j k) t))
    (b1 : ∀ j, j < 6 → -(2 ^ 60) < us j ∧ us j < 2 ^ 60) (b3 : ∀ j, j < 6 → -(2 ^ 60) < lo j ∧ lo j < 2 ^ 60)
    (q1 : ∀ j, j < 6 → ∀ k, k < 5 → (pth j k).length ≤ 900 ∧ PyData.strOk (pth j k) = true)
    (law : ∀ j, pl ≤ j → j < 6 → ∀ i, i < 5 → sub (pth pl i ++ Txt.mul (Str.ofString "/") (((pl : Int) + i + 1) % 2)) (pth j 4) = dueB (us pl * lo j - us j * lo pl) B (fun i => ((pl : Int) + i + 1) % 2) i)
    (hQ : ∀ h' tk' m' o6' v6', o6'.data = .cell v6' → Fr g L h' m' → m' (Str.ofString "fractions") = some (.ref fr) → m' (Str.ofString "lowers") = some (.ref lw) →
      News g L h' ((L + 5, o5) :: (L + 6, o6') :: NP w L M md pd fr lw pt tq cf o1 o2 o3 frs lws pts tups) → Q .next { s with heap := h', toks := tk' }) :
    wpAny (model PySem.Challenge.rw_pg0188_01.row.prog w) (callerA.deeper (envW L fa cd)) (execs (sBody for7) (envW L fa cd)) Q E s := by
  k_with "eval Name" => (refine' nameX_L (by k_asm) (by assumption) ?_ rfl rfl; k_whole)
  k_with "mem" => ((repeat (apply List.Mem.tail)); assumption)
  k_with "subscriptTail" => ((with_reducible show wpAny _ _ (subscriptTail _ _ (Value.ref _) (Value.int _ _)) _ _ _); with_unfolding_all refine' Mine.subNth (by k_dflt k_asm) (by k_dflt k_mem) (by k_dflt omega) (by k_dflt omega) (by k_dflt assumption) ?_ (by with_unfolding_all rfl); k_whole)
  k_with "call type:zip" => (refine Mine.Stop.go ?_)
  k_with "CompSrc" => (refine Mine.Stop.go ?_)
  k_with "exec For Name Call cons nil" => (refine Mine.Stop.go ?_)
  k_with "exec Assign cons ListComp" => ((with_reducible show wpAny _ _ (exec (Stmt.Assign _ (PySem.Expr.ListComp (PySem.Expr.Tuple _ _ _) _ _ _) _) _) _ _ _); refine Mine.Stop.go ?_)
  revert X
  k_fill
  intro X
  have hb : sBody for7 = sBody for7 := rfl
  conv at hb => rhs; whnf
  have hs : sScope st15 = sScope st15 := rfl
  conv at hs => rhs; whnf
  refine (id ?_ : wpAny _ _ _ _ _ _)
  dsimp only [envW, NP] at F N ⊢
  rw [hb, hs]
  clear hb hs
  w_on
  w_strict k_steps
  unfold Stop
  rename IsRange _ _ _ _ _ _ _ _ => hr
  rename News g L _ _ => N1
  rename Fr g L _ _ => F1
  refine CompSrc.range (n := 5) rfl F1 N1 hr (by decide +kernel) (by decide +kernel) (Nat.le_of_ble_eq_true rfl) ?_
  intro g₂
  refine CompRest.same (fun i y => ∃ t, y = .int (((pl : Int) + i + 1) % 2) t) trivial ?_ ?_
  · rintro i hi v ⟨t, rfl⟩ I oI C oC D m₂ h₂ tk₂ ys Q' E' hC hx F₂ N₂ off hne hQ'
    rw [Int.zero_add] at hx
    with_unfolding_all refine slashEl (tups := _) BB X T hpl hi F₂ d5 hC hx (cb_drop N₂ (subC (by k_mem) (subC (by k_mem) (fun q hq => hq)))) ?_
    intro t' tk'
    exact hQ' _ _ _ ⟨_, rfl⟩ F₂ N₂
  · intro ys h5' hY D h₃ tk₃ F₃ N₃ off1
    have off1' := OffL off1
    refine (id ?_ : wpAny _ _ _ _ _ _)
    w_strict k_steps
    unfold Stop
    refine (id ?_ : wpAny _ _ _ _ _ _)
    k_dflt (refine Mine.Assign_ListComp_E (F₀ := F₃) (by rfl) (by with_unfolding_all rfl) (by with_unfolding_all rfl) (by decide) (by rfl) (by decide) (by rfl) (by rfl) (by decide) (by rfl) (by rfl) ?_)
    obtain ⟨pe1, pe2, pe3, pe4⟩ := hP pl hpl
    w_strict k_steps
    unfold Stop
    have gD := (N₃ (D, lst ys) (.head _)).1
    have gP := (N₃ (pa pl, lst (ps pl)) (by k_mem)).1
    have hysl : ys.toArray.size = 5 := by rw [List.size_toArray, h5']
    have hpsl : (ps pl).toArray.size = 5 := by rw [List.size_toArray, pe3]
    refine srcZip (xs := (ps pl).toArray) (ys := ys.toArray) rfl F₃ N₃ ⟨_, gP, rfl, _, rfl⟩ ⟨_, gD, rfl, _, rfl⟩ (by rw [hysl, hpsl]; exact Nat.le_of_ble_eq_true rfl) (Ne.symm (N₃ (pa pl, lst (ps pl)) (by k_mem)).2.1) (Ne.symm (N₃ (D, lst ys) (.head _)).2.1) ?_
    intro g₃ wr
    rw [hysl, hpsl]
    refine CRT.acc (fun i o => ∃ th t, o = tup2 (.str H th) (.str (pth pl i ++ Txt.mul (Str.ofString "/") (((pl : Int) + i + 1) % 2)) t)) ?_ ?_
    · rintro i hi vals ⟨x, y, hx, hy, rfl⟩
      refine ⟨x, y, rfl, ?_⟩
      obtain ⟨tp, hp⟩ := pe4 i hi
      rw [List.getElem?_toArray, hp] at hx
      obtain rfl := Option.some.inj hx
      obtain ⟨y', hy1, ts, rfl⟩ := hY i hi
      rw [List.getElem?_toArray, hy1] at hy
      obtain rfl := Option.some.inj hy
      intro own C oC D2 m₂ h₂ tk₂ ys2 nw Q' E' hC hx hx2 F₂ N₂ hQ'
      with_unfolding_all refine aboveEl (tups := (D2, lst ys2) :: (nw ++ own)) BB X T F₂ (by have := (q1 pl hpl i hi).1; omega) hC hx hx2 (by omega) (by omega) N₂ ?_
      intro a th t h' tk' hlt F4 N4
      exact hQ' a _ h' tk' ⟨th, t, rfl⟩ hlt F4 N4
    · intro ys2 acc l1 l2 hacc D2 h₄ tk₄ F₄ N₄ off2
      have hys : ∀ i, i < 5 → ∃ t, ys[i]? = some (.int (((pl : Int) + i + 1) % 2) t) := fun i hi => by
        obtain ⟨y, hy, t, rfl⟩ := hY i hi
        exact ⟨t, hy⟩
      refine (id ?_ : wpAny _ _ _ _ _ _)
      w_strict k_steps
      unfold Stop
      have off2' := OffL off2
      have hcv : ∀ i, i < 5 → ∃ th tq, ys2[i]? = some (.ref (addrAt acc i)) ∧ (addrAt acc i, tup2 (.str H th) (.str (pth pl i ++ Txt.mul (Str.ofString "/") (((pl : Int) + i + 1) % 2)) tq)) ∈ acc.reverse ++ tups := fun i hi => by
        obtain ⟨a, o, y1, y2, ⟨th, t, rfl⟩, _⟩ := hacc i (by omega)
        refine ⟨th, t, ?_, ?_⟩
        · unfold addrAt; rw [y2]; exact y1
        · unfold addrAt; rw [y2]; exact List.mem_append_left _ (List.mem_reverse.mpr (List.mem_of_getElem? y2))
      have inT : ∀ q ∈ tups, q ∈ acc.reverse ++ tups := fun q hq => List.mem_append_right _ hq
      with_unfolding_all refine loopFar (cf := cf) (xs := xs) (tq := tq) (pd := pd) (md := md) (aa := addrAt acc) (pa := pa) (ft := ft) (ps := ps) (pth := pth) (sl := D) (ab := D2) (items := ys) (abs := ys2) (tups := acc.reverse ++ tups) hE BB X T hpl hB hB2 F₄ m1 m2 rfl rfl d1 d2 d3 d5 d6 (cb_drop N₄ ?_) ?_ e1 e4 e7 (by omega) h5' ?_ hL ?_ hcv hys b1 b3 (fun j hj => ⟨by have := (q1 j hj 4 (by omega)).1; omega, (q1 j hj 4 (by omega)).2⟩) ?_ law ?_
      · refine subC (.tail _ (List.mem_append_right _ (by k_mem))) (subC (.tail _ (List.mem_append_right _ (by k_mem))) (subC (.tail _ (List.mem_append_right _ (by k_mem))) (subC (.tail _ (List.mem_append_right _ (by k_mem))) (subC (.tail _ (List.mem_append_right _ (by k_mem))) (subC (.tail _ (List.mem_append_right _ (by k_mem))) (subC (.tail _ (List.mem_append_right _ (by k_mem))) (subC (.tail _ (List.mem_append_right _ (by k_mem))) (subC (.tail _ (List.mem_append_right _ (by k_mem))) (subC (.tail _ (List.mem_append_right _ (by k_mem))) (subC (.head _) (subC (.tail _ (List.mem_append_right _ (by k_mem))) ?_)))))))))))
        intro q hq
        rcases List.mem_append.mp hq with hq | hq
        · exact .tail _ (List.mem_append_left _ hq)
        · exact .tail _ (List.mem_append_right _ (.tail _ (.tail _ (.tail _ (.tail _ (.tail _ (.tail _ (.tail _ (.tail _ (.tail _ (.tail _ (.tail _ hq))))))))))))
      · intro q hq
        show @Ne Nat q.1 (L + 6)
        rcases List.mem_cons.mp hq with rfl | hq
        · exact ne6 _ (.head _)
        rcases List.mem_cons.mp hq with rfl | hq
        · exact ne6 _ (.tail _ (.head _))
        rcases List.mem_cons.mp hq with rfl | hq
        · exact ne6 _ (.tail _ (.tail _ (.head _)))
        rcases List.mem_cons.mp hq with rfl | hq
        · show L + 5 ≠ L + 6; omega
        rcases List.mem_cons.mp hq with rfl | hq
        · exact ne6 _ (.tail _ (.tail _ (.tail _ (.head _))))
        rcases List.mem_cons.mp hq with rfl | hq
        · exact ne6 _ (.tail _ (.tail _ (.tail _ (.tail _ (.head _)))))
        rcases List.mem_cons.mp hq with rfl | hq
        · exact ne6 _ (.tail _ (.tail _ (.tail _ (.tail _ (.tail _ (.head _))))))
        rcases List.mem_cons.mp hq with rfl | hq
        · exact ne6 _ (.tail _ (.tail _ (.tail _ (.tail _ (.tail _ (.tail _ (.head _)))))))
        rcases List.mem_cons.mp hq with rfl | hq
        · exact ne6 _ (.tail _ (.tail _ (.tail _ (.tail _ (.tail _ (.tail _ (.tail _ (.head _))))))))
        rcases List.mem_cons.mp hq with rfl | hq
        · exact Ne.symm (off2' (L + 6, o6) (List.mem_append_right _ (by k_mem)))
        rcases List.mem_cons.mp hq with rfl | hq
        · exact Ne.symm (off1' (L + 6, o6) (by k_mem))
        rcases List.mem_append.mp hq with hq | hq
        · obtain ⟨i, hi, he⟩ := List.mem_iff_getElem.mp (List.mem_reverse.mp hq)
          obtain ⟨a, o, y1, y2, _, y3⟩ := hacc i (by omega)
          rw [List.getElem?_eq_getElem hi] at y2
          rw [← he, Option.some.inj y2]
          exact Nat.ne_of_gt (y3 (L + 6, o6) (by k_mem))
        · exact ne6 q (.tail _ (.tail _ (.tail _ (.tail _ (.tail _ (.tail _ (.tail _ (.tail _ hq))))))))
      · intro j hj
        obtain ⟨u1, u2, y1, y2⟩ := hF j hj
        exact ⟨u1, u2, y1, inT _ y2⟩
      · intro j hj
        obtain ⟨y1, y2, y3, y4⟩ := hP j hj
        exact ⟨y1, inT _ y2, y3, y4 4 (by omega)⟩
      · intro i hi
        exact slash_ok (q1 pl hpl i hi).2 (q1 pl hpl i hi).1 (by omega) (by omega)
      · intro h' tk' m' o6' v6' d6' F' k1 k2 N'
        w_strict k_steps
        refine hQ _ _ _ o6' v6' d6' F' k1 k2 (cb_drop N' ?_)
        refine subC (by k_mem) (subC (by k_mem) (subC (by k_mem) (subC (by k_mem) (subC (by k_mem) (subC (by k_mem) (subC (by k_mem) (subC (by k_mem) (subC (by k_mem) (subC (by k_mem) ?_)))))))))
        intro q hq
        exact .tail _ (.tail _ (.tail _ (.tail _ (.tail _ (.tail _ (.tail _ (.tail _ (.tail _ (.tail _ (.tail _ (.tail _ (inT q hq))))))))))))
  k_with_none
end Mine
end
section
open PySem PySem.W PyProof.Rows PyProof.Rows.LCg PySem.Calls PySem.Spec
namespace Mine
theorem rangeSize06 : Builtin.Range.rangeSize 0 6 1 = ((6 : Nat) : Int) ∧ Builtin.Range.small 0 6 1 = true := ⟨by decide +kernel, by decide +kernel⟩
set_option maxRecDepth 100000 in
set_option maxHeartbeats 8000000 in
theorem loopPlace {w : World} {p : Program} {loose : List Str} {mean : ExcName → Option Value} {mg mb : Str → Option Value} {fa : Addr} {cd : Value}
    {g : Heap} {L : Nat} {M md pd fr lw pt : Addr} {tq : Tok} {cf : Nat} {m : Str → Option Value} {s : Shared} {Q : Flow → Shared → Prop} {E : Value → Shared → Prop} {B : Int} {tB : Tok} {o1 o2 o3 o5 o6 : Obj} {frs lws pts : List Value} {tups : List (Addr × Obj)}
    {us xs lo : Nat → Int} {ft pa : Nat → Addr} {ps : Nat → List Value} {pth : Nat → Nat → Str} {v5 v6 : Option Value}
    (hE : PassesOwn (model PySem.Challenge.rw_pg0188_01.row.prog w) (callerA.deeper (envW L fa cd)) (envW L fa cd) E) (BB : Below callerA g [] g) (X : (Mine.hd.heap_39 w.params).In g) (T : Top p loose mean mg mb g)
    (hB : 1 < B) (hB2 : B < 7)
    (F : Fr g L s.heap m) (m1 : m (Str.ofString "fractions") = some (.ref fr)) (m2 : m (Str.ofString "lowers") = some (.ref lw))
    (d1 : o1.data = .cell (some (.int B tB))) (d2 : o2.data = .cell (some (.ref M))) (d3 : o3.data = .cell (some (.ref pt))) (d5 : o5.data = .cell v5) (d6 : o6.data = .cell v6)
    (N : News g L s.heap ((L + 5, o5) :: (L + 6, o6) :: NP w L M md pd fr lw pt tq cf o1 o2 o3 frs lws pts tups))
    (ne5 : ∀ q ∈ NP w L M md pd fr lw pt tq cf o1 o2 o3 frs lws pts tups, q.1 ≠ L + 5)
    (ne6 : ∀ q ∈ NP w L M md pd fr lw pt tq cf o1 o2 o3 frs lws pts tups, q.1 ≠ L + 6)
    (e1 : frs.length = 6) (e4 : lws.length = 6) (e7 : pts.length = 6)
    (hF : ∀ j, j < 6 → ∃ u1 u2, frs[j]? = some (.ref (ft j)) ∧ (ft j, tup2 (.int (us j) u1) (.int (xs j) u2)) ∈ tups)
    (hL : ∀ j, j < 6 → ∃ u, lws[j]? = some (.int (lo j) u))
    (hP : ∀ j, j < 6 → pts[j]? = some (.ref (pa j)) ∧ (pa j, lst (ps j)) ∈ tups ∧ (ps j).length = 5 ∧ ∀ k, k < 5 → ∃ t, (ps j)[k]? = some (.str (pth j k) t))
    (b1 : ∀ j, j < 6 → -(2 ^ 60) < us j ∧ us j < 2 ^ 60) (b3 : ∀ j, j < 6 → -(2 ^ 60) < lo j ∧ lo j < 2 ^ 60)
    (q1 : ∀ j, j < 6 → ∀ k, k < 5 → (pth j k).length ≤ 900 ∧ PyData.strOk (pth j k) = true)
    (law : ∀ pl, pl < 6 → ∀ j, pl ≤ j → j < 6 → ∀ i, i < 5 → sub (pth pl i ++ Txt.mul (Str.ofString "/") (((pl : Int) + i + 1) % 2)) (pth j 4) = dueB (us pl * lo j - us j * lo pl) B (fun i => ((pl : Int) + i + 1) % 2) i)
    (hQ : ∀ h' tk' m', Fr g L h' m' → News g L h' tups → Q .next { s with heap := h', toks := tk' }) :
    wpAny (model PySem.Challenge.rw_pg0188_01.row.prog w) (callerA.deeper (envW L fa cd)) (exec for7 (envW L fa cd)) Q E s := by
  k_with "pyIter ref" => (refine Mine.Stop.go ?_)
  k_with "mem" => ((repeat (apply List.Mem.tail)); assumption)
  revert X
  k_fill
  intro X
  have hb : for7 = for7 := rfl
  conv at hb => rhs; whnf
  have hs : sScope st15 = sScope st15 := rfl
  conv at hs => rhs; whnf
  refine (id ?_ : wpAny _ _ _ _ _ _)
  dsimp only [envW, NP] at F N ⊢
  rw [hb, hs]
  clear hb hs
  w_on
  with_unfolding_all refine For_turns F ?_ (hE := hE)
  w_strict k_steps
  unfold Stop
  rename IsRange _ _ _ _ _ _ _ _ => hr
  rename News g L _ _ => N1
  rename Fr g L _ _ => F1
  with_unfolding_all refine forRange (fun i m' nw => ∃ o5' v5' o6' v6', o5'.data = .cell v5' ∧ o6'.data = .cell v6' ∧ nw = (L + 5, o5') :: (L + 6, o6') :: NP w L M md pd fr lw pt tq cf o1 o2 o3 frs lws pts tups ∧ m' (Str.ofString "fractions") = some (.ref fr) ∧ m' (Str.ofString "lowers") = some (.ref lw)) rfl hr rangeSize06.2 rangeSize06.1 F1 N1 ⟨_, _, _, _, d5, d6, rfl, m1, m2⟩ ?_ ?_
  · rintro I hI i t m₁ news₁ h₁ tk₁ oI hi ⟨o5', v5', o6', v6', d5', d6', rfl, k1, k2⟩ hoff F2 N2
    have hI5 : ((L + 5 : Nat) : Nat) ≠ I := hoff _ (.head _)
    with_unfolding_all refine storeCellAt (n1 := [(I, oI)]) (o := o5') F2 N2 rfl d5' (fun q hq => by rw [List.mem_singleton.mp hq]; exact hI5.symm) (fun q hq => ?_) ?_ rfl rfl
    · rcases List.mem_cons.mp hq with rfl | hq
      · show L + 6 ≠ L + 5; omega
      · exact ne5 q hq
    intro h3 o5n F3 N3 d5n
    have hoff' : ∀ q ∈ (L + 6, o6') :: NP w L M md pd fr lw pt tq cf o1 o2 o3 frs lws pts tups, q.1 ≠ I := fun q hq => hoff q (.tail _ hq)
    have d5m : o5n.data = .cell (some (.int (i : Int) t)) := by rw [d5n, Int.zero_add]
    refine (id ?_ : wpAny _ _ _ _ _ _)
    have N4 : News g L h3 ((L + 5, o5n) :: (L + 6, o6') :: NP w L M md pd fr lw pt tq cf o1 o2 o3 frs lws pts ((I, oI) :: tups)) := cb_drop N3 (by
      refine subC (by k_mem) (subC (by k_mem) (subC (by k_mem) (subC (by k_mem) (subC (by k_mem) (subC (by k_mem) (subC (by k_mem) (subC (by k_mem) (subC (by k_mem) (subC (by k_mem) (subC (by k_mem) ?_))))))))))
      intro q hq
      exact .tail _ (.tail _ (.tail _ (.tail _ (.tail _ (.tail _ (.tail _ (.tail _ (.tail _ (.tail _ (.tail _ hq)))))))))))
    with_unfolding_all refine turnPlace (cf := cf) (pl := i) (xs := xs) (us := us) (lo := lo) (pth := pth) (pa := pa) (ps := ps) (ft := ft) hE BB X T hi hB hB2 F3 k1 k2 d1 d2 d3 d5m d6' N4 ?_ e1 e4 e7 ?_ hL ?_ b1 b3 q1 (law i hi) ?_
    · intro q hq
      rcases List.mem_cons.mp hq with rfl | hq
      · exact ne6 _ (.head _)
      rcases List.mem_cons.mp hq with rfl | hq
      · exact ne6 _ (.tail _ (.head _))
      rcases List.mem_cons.mp hq with rfl | hq
      · exact ne6 _ (.tail _ (.tail _ (.head _)))
      rcases List.mem_cons.mp hq with rfl | hq
      · exact ne6 _ (.tail _ (.tail _ (.tail _ (.head _))))
      rcases List.mem_cons.mp hq with rfl | hq
      · exact ne6 _ (.tail _ (.tail _ (.tail _ (.tail _ (.head _)))))
      rcases List.mem_cons.mp hq with rfl | hq
      · exact ne6 _ (.tail _ (.tail _ (.tail _ (.tail _ (.tail _ (.head _))))))
      rcases List.mem_cons.mp hq with rfl | hq
      · exact ne6 _ (.tail _ (.tail _ (.tail _ (.tail _ (.tail _ (.tail _ (.head _)))))))
      rcases List.mem_cons.mp hq with rfl | hq
      · exact ne6 _ (.tail _ (.tail _ (.tail _ (.tail _ (.tail _ (.tail _ (.tail _ (.head _))))))))
      rcases List.mem_cons.mp hq with rfl | hq
      · exact Ne.symm (hoff (L + 6, o6') (.tail _ (.head _)))
      · exact ne6 q (.tail _ (.tail _ (.tail _ (.tail _ (.tail _ (.tail _ (.tail _ (.tail _ hq))))))))
    · intro j hj
      obtain ⟨u1, u2, y1, y2⟩ := hF j hj
      exact ⟨u1, u2, y1, .tail _ y2⟩
    · intro j hj
      obtain ⟨y1, y2, y3, y4⟩ := hP j hj
      exact ⟨y1, .tail _ y2, y3, y4⟩
    · intro h5 tk5 m5 o6n v6n d6n F5 r1 r2 N5
      refine ⟨h5, tk5, m5, (L + 5, o5n) :: (L + 6, o6n) :: NP w L M md pd fr lw pt tq cf o1 o2 o3 frs lws pts tups, rfl, F5, cb_drop N5 ?_, ?_, o5n, _, o6n, _, d5n, d6n, rfl, r1, r2⟩
      · refine subC (by k_mem) (subC (by k_mem) (subC (by k_mem) (subC (by k_mem) (subC (by k_mem) (subC (by k_mem) (subC (by k_mem) (subC (by k_mem) (subC (by k_mem) (subC (by k_mem) (subC (by k_mem) ?_))))))))))
        intro q hq
        exact .tail _ (.tail _ (.tail _ (.tail _ (.tail _ (.tail _ (.tail _ (.tail _ (.tail _ (.tail _ (.tail _ hq))))))))))
      · intro q hq
        rcases List.mem_cons.mp hq with rfl | hq
        · exact hI5
        · rcases List.mem_cons.mp hq with rfl | hq
          · exact hoff (L + 6, o6') (.tail _ (.head _))
          · exact hoff q (.tail _ (.tail _ hq))
  · rintro h' tk m' news' F' N' ⟨o5', v5', o6', v6', d5', d6', rfl, _⟩
    exact hQ h' tk m' F' (cb_drop N' fun q hq => .tail _ (.tail _ (.tail _ (.tail _ (.tail _ (.tail _ (.tail _ (.tail _ (.tail _ (.tail _ hq))))))))))
  k_with_none
end Mine
end
section
open PySem PySem.W PyProof.Rows PyProof.Rows.LCg PySem.Calls PySem.Spec
namespace Mine
def tst (i : Nat) : Stmt := sAt i (sBody for6)
theorem allLt_at {d : Addr} : ∀ {l : List (Addr × Obj)}, AllLt d l → ∀ p ∈ l, @LT.lt Nat _ p.1 d
  | [], _, _, h => nomatch h
  | _ :: _, x, p, h => by
    rcases List.mem_cons.mp h with rfl | h
    · exact x.1
    · exact allLt_at x.2 p h
theorem ne_of_allLt {d : Addr} {l : List (Addr × Obj)} (h : ∀ p ∈ l, @LT.lt Nat _ p.1 d) : ∀ p ∈ l, p.1 ≠ d := fun p hp => Nat.ne_of_lt (h p hp)
set_option maxRecDepth 100000 in
set_option maxHeartbeats 8000000 in
theorem ts0 {w : World} {p : Program} {loose : List Str} {mean : ExcName → Option Value} {mg mb : Str → Option Value} {fa : Addr} {cd : Value}
    {g : Heap} {L : Nat} {m : Str → Option Value} {s : Shared} {Q : Flow → Shared → Prop} {E : Value → Shared → Prop} {B u t : Int} {tB tu tt : Tok} {o1 o4 o7 x7 o9 x9 : Obj} {e7 e9 : Addr} {v4 : Option Value} {tups : List (Addr × Obj)}
    (BB : Below callerA g [] g) (X : (Mine.hd.heap_39 w.params).In g) (T : Top p loose mean mg mb g) (C1 : CodeHd g 91 87) (C2 : CodeHd g 98 94)
    (hB : 1 < B) (hB2 : B < 7) (ht : -1000 < t ∧ t < 1000) (hb : ∀ i, -(2 ^ 50) < runH B t i u ∧ runH B t i u < 2 ^ 50)
    (F : Fr g L s.heap m) (m1 : m (Str.ofString "upper") = some (.int u tu)) (m2 : m (Str.ofString "turn") = some (.int t tt))
    (d1 : o1.data = .cell (some (.int B tB))) (d4 : o4.data = .cell v4)
    (N : News g L s.heap ((87, o7) :: (e7, x7) :: (94, o9) :: (e9, x9) :: (L + 1, o1) :: (L + 4, o4) :: tups)) (t7 : TabL 87 59 4 Q87 o7 e7 x7) (t9 : TabL 94 74 4 Q94 o9 e9 x9)
    (hL : 94 < L) (k7 : AllNe 87 tups) (k9 : AllNe 94 tups) (q7 : AllNe e7 ((L + 1, o1) :: (L + 4, o4) :: tups)) (q9 : AllNe e9 ((L + 1, o1) :: (L + 4, o4) :: tups)) (k4 : ∀ q ∈ tups, q.1 ≠ L + 4)
    (hQ : ∀ h' tk' m' lf fv th c o4' o7' e7' x7' o9' e9' x9', Fr g L h' m' → m' (Str.ofString "here") = some (.int (runH B t 4 u) th) → (∀ z, z ≠ Str.ofString "here" → m' z = m z) →
      IntsAre fv (runF B t 4 u) → o4'.data = .cell (some (.ref lf)) → News g L h' ((lf, W.listOf fv.toArray c) :: (87, o7') :: (e7', x7') :: (94, o9') :: (e9', x9') :: (L + 1, o1) :: (L + 4, o4') :: tups) →
      TabL 87 59 4 Q87 o7' e7' x7' → TabL 94 74 4 Q94 o9' e9' x9' → AllNe e7' ((L + 1, o1) :: (L + 4, o4) :: tups) → AllNe e9' ((L + 1, o1) :: (L + 4, o4) :: tups) → @Ne Nat e7' lf → @Ne Nat e9' lf → L + 4 < lf → (∀ q ∈ tups, @LT.lt Nat _ q.1 lf) → Q .next { s with heap := h', toks := tk' }) :
    wpAny (model PySem.Challenge.rw_pg0188_01.row.prog w) (callerA.deeper (envW L fa cd)) (exec (tst 0) (envW L fa cd)) Q E s := by
  k_with "eval Name" => (refine' nameX_L (by k_asm) (by assumption) ?_ rfl rfl; k_whole)
  k_with "call ref" => ((with_reducible show wpAny _ _ (call (Value.ref 127) _) _ _ _); refine Mine.Stop.go ?_)
  k_with "all" => with_reducible assumption
  k_with "ne" => (refine neN ?_; (try dsimp only); first | with_reducible assumption | exact Ne.symm (by with_reducible assumption) | omega)
  revert X
  k_fill
  intro X
  have hb' : tst 0 = tst 0 := rfl
  conv at hb' => rhs; whnf
  have hs : sScope st15 = sScope st15 := rfl
  conv at hs => rhs; whnf
  refine (id ?_ : wpAny _ _ _ _ _ _)
  dsimp only [envW] at F N ⊢
  rw [hb', hs]
  clear hb' hs
  w_on
  w_strict k_steps
  unfold Stop
  rename Fr g L _ _ => F1
  rename News g L _ _ => N1
  with_unfolding_all refine lrun (base := g) C1 C2 _ _ _ _ _ _ _ _ _ _ _ _ _ _ _ _ u t B _ _ _ _ _ _ _ _ _ BB F1 X T rfl (cb_drop N1 (by kcj_all)) t7 t9 (by ktr_room) (by ktr_units) (by omega) (by omega) ht hb ?_
  intro D lf fv th c h2 tk2 o7' e7' x7' o9' e9' x9' kb hD hlf hne gD glf hfv t2 n7 n9
  obtain ⟨F2, N2, l1, r7, r9, r7D, r9D⟩ := after2 (cs := (L + 1, o1) :: (L + 4, o4) :: tups) F1 N1 kb (by k_mem) (by k_mem) (by k_mem) (by k_mem) (fun q hq => .tail _ (.tail _ (.tail _ (.tail _ hq))))
    ⟨by show @Ne Nat (L + 1) 87; omega, by show @Ne Nat (L + 4) 87; omega, k7⟩ ⟨by show @Ne Nat (L + 1) 94; omega, by show @Ne Nat (L + 4) 94; omega, k9⟩ q7 q9 t2 n7 n9 hD gD rfl
  have N3 := addNew F1 N2 hlf glf
  have l2 := newsLt N1 hlf
  have lf7 := tab_seq t2.1.1 t2.1.2.2 glf rfl
  have lf9 := tab_seq t2.2.1 t2.2.2.2 glf rfl
  obtain ⟨_, _, _, _, y1, y2, y3⟩ := l1
  obtain ⟨_, _, _, _, z1, z2, z3⟩ := l2
  have y3' := ne_of_allLt (allLt_at y3)
  dsimp only at y1 y2 z1 z2
  have w1 := r7.2.1
  have w2 := r9.2.1
  dsimp only at w1 w2
  clear N1 F1 N2 kb q7 q9
  w_strict k_steps
  rename Fr g L _ _ => F7
  rename News g L _ _ => N7
  rename _ = Data.cell (some (Value.ref lf)) => d7
  refine hQ _ _ _ lf fv th c _ _ _ _ _ _ _ F7 (if_pos rfl) (fun z hz => if_neg hz) hfv d7 (cb_drop N7 ?_) t2.1.1 t2.2.1 r7 r9 lf7 lf9 z2 (allLt_at z3)
  refine subC (by k_mem) (subC (by k_mem) (subC (by k_mem) (subC (by k_mem) (subC (by k_mem) (subC (by k_mem) (subC (by k_mem) ?_))))))
  exact fun q hq => .tail _ (.tail _ (.tail _ (.tail _ (.tail _ (.tail _ (.tail _ (.tail _ hq)))))))
  k_with_none
end Mine
end
section
open PySem PySem.W PyProof.Rows PyProof.Rows.LCg PySem.Calls PySem.Spec
namespace Mine
theorem intsAre_of : ∀ {ys : List Value} {f : Nat → Int}, (∀ i, i < ys.length → ∃ t, ys[i]? = some (.int (f i) t)) → IntsAre ys ((List.range ys.length).map f)
  | [], _, _ => .nil
  | y :: r, f, h => by
    rw [List.length_cons, List.range_succ_eq_map, List.map_cons, List.map_map]
    obtain ⟨t, ht⟩ := h 0 (Nat.succ_pos _)
    rw [List.getElem?_cons_zero] at ht
    rw [Option.some.inj ht]
    exact .cons _ t (intsAre_of (f := f ∘ Nat.succ) fun i hi => by
      obtain ⟨u, hu⟩ := h (i + 1) (Nat.succ_lt_succ hi)
      rw [List.getElem?_cons_succ] at hu
      exact ⟨u, hu⟩)
theorem intsAre_at : ∀ {vs : List Value} {ns : List Int}, IntsAre vs ns → ∀ i, i < ns.length → ∃ t, vs[i]? = some (.int (ns.getD i 0) t)
  | _, _, .nil, _, h => nomatch h
  | _, _, .cons n t _, 0, _ => ⟨t, rfl⟩
  | _, _, .cons n t r, i + 1, h => by
    obtain ⟨u, hu⟩ := intsAre_at r i (Nat.lt_of_succ_lt_succ h)
    exact ⟨u, by rw [List.getElem?_cons_succ, hu]; simp⟩
def worthL (B : Int) (fs : List Int) : Int := ((List.range 4).map fun i => fs.getD i 0 * B ^ i).sum
theorem pow_small {B : Int} (hB : 1 < B) (hB2 : B < 7) {i : Nat} (hi : i ≤ 4) : 0 < B ^ i ∧ B ^ i ≤ 1296 := by
  have hp : 0 < B ^ i := Int.pow_pos (by omega)
  refine ⟨hp, ?_⟩
  have : B = 2 ∨ B = 3 ∨ B = 4 ∨ B = 5 ∨ B = 6 := by omega
  have h2 : i = 0 ∨ i = 1 ∨ i = 2 ∨ i = 3 ∨ i = 4 := by omega
  rcases this with rfl | rfl | rfl | rfl | rfl <;> rcases h2 with rfl | rfl | rfl | rfl | rfl <;> decide
set_option maxRecDepth 100000 in
set_option maxHeartbeats 8000000 in
theorem ts1 {w : World} {p : Program} {loose : List Str} {mean : ExcName → Option Value} {mg mb : Str → Option Value} {fa : Addr} {cd : Value}
    {g : Heap} {L : Nat} {m : Str → Option Value} {s : Shared} {Q : Flow → Shared → Prop} {E : Value → Shared → Prop} {B : Int} {tB : Tok} {o1 o4 : Obj} {lf : Addr} {fv : List Value} {fs : List Int} {c : Nat} {tups : List (Addr × Obj)}
    (BB : Below callerA g [] g) (X : (Mine.hd.heap_39 w.params).In g) (T : Top p loose mean mg mb g)
    (hB : 1 < B) (hB2 : B < 7) (hfv : IntsAre fv fs) (hl : fs.length = 4)
    (F : Fr g L s.heap m) (d1 : o1.data = .cell (some (.int B tB))) (d4 : o4.data = .cell (some (.ref lf)))
    (N : News g L s.heap ((lf, W.listOf fv.toArray c) :: (L + 1, o1) :: (L + 4, o4) :: tups))
    (hQ : ∀ h' tk' m' tw, Fr g L h' m' → m' (Str.ofString "worth") = some (.int (worthL B fs) tw) → (∀ z, z ≠ Str.ofString "worth" → m' z = m z) →
      News g L h' ((lf, W.listOf fv.toArray c) :: (L + 1, o1) :: (L + 4, o4) :: tups) → Q .next { s with heap := h', toks := tk' }) :
    wpAny (model PySem.Challenge.rw_pg0188_01.row.prog w) (callerA.deeper (envW L fa cd)) (exec (tst 1) (envW L fa cd)) Q E s := by
  k_with "eval Name" => (refine' nameX_L (by k_asm) (by assumption) ?_ rfl rfl; k_whole)
  k_with "eval ListComp" => (refine Mine.Stop.go ?_)
  k_with "call builtin:sum" => (refine Mine.Stop.go ?_)
  k_with "binaryOp Mult int int" => (refine Mine.mulS (by omega) ?_; k_whole)
  revert X
  k_fill
  intro X
  have hb' : tst 1 = tst 1 := rfl
  conv at hb' => rhs; whnf
  have hs : sScope st15 = sScope st15 := rfl
  conv at hs => rhs; whnf
  refine (id ?_ : wpAny _ _ _ _ _ _)
  dsimp only [envW] at F N ⊢
  rw [hb', hs]
  clear hb' hs
  w_on
  w_strict k_steps
  unfold Stop
  refine (id ?_ : wpAny _ _ _ _ _ _)
  rename Fr g L _ _ => F1
  rename News g L _ _ => N1
  k_dflt (refine Mine.ListComp_E (F₀ := F1) (by with_unfolding_all rfl) (by decide) (by rfl) (by decide) (by rfl) (by rfl) (by decide) ?_)
  w_strict k_steps
  have h5 : fv.length = 4 := by rw [hfv.length, hl]
  have hLi : Heap.IsList _ lf fv.toArray := ⟨_, (N1 (lf, W.listOf fv.toArray c) (.head _)).1, rfl, c, rfl⟩
  refine (id ?_ : wpAny _ _ _ _ _ _)
  refine srcEnum rfl F1 N1 hLi (by rw [List.size_toArray, h5]; exact Nat.le_of_ble_eq_true rfl) (Ne.symm (N1 (lf, W.listOf fv.toArray c) (.head _)).2.1) ?_
  intro g₂ wr
  rw [List.size_toArray, h5]
  refine CRT.same (fun i y => ∃ t, y = .int (fs.getD i 0 * B ^ i) t) ?_ ?_
  · rintro i hi vals ⟨t, x, hx, rfl⟩
    refine ⟨_, _, rfl, ?_⟩
    obtain ⟨u, hu⟩ := intsAre_at hfv i (by omega)
    rw [List.getElem?_toArray, hu] at hx
    obtain rfl := Option.some.inj hx
    clear hx hu hLi h5
    intro own C oC D m₂ h₂ tk₂ ys Q' E' hC hx1 hx2 F₂ N₂ hQ'
    (try simp only [List.cons_append, List.nil_append] at N₂)
    have hBi : B ^ i = B ^ ((i : Int)).toNat := rfl
    obtain ⟨hp1, hp2⟩ := pow_small hB hB2 (i := i) (by omega)
    rw [hBi] at hp1 hp2
    w_strict k_steps
    exact hQ' _ _ ⟨_, rfl⟩
  · intro ys h5' hY D h₃ tk₃ F₃ N₃ o1
    (try simp only [LCg.Off1, and_true] at o1)
    have hI := intsAre_of (ys := ys) (f := fun i => fs.getD i 0 * B ^ i) (fun i hi => by
      obtain ⟨y, hy, t, rfl⟩ := hY i (by omega)
      exact ⟨t, hy⟩)
    rw [h5'] at hI
    w_strict k_steps
    unfold Stop
    rename Fr g L _ _ => F4
    rename News g L _ _ => N4
    refine (id ?_ : wpAny _ _ _ _ _ _)
    with_unfolding_all refine sumK rfl F4 N4 ⟨_, (N4 (D, lst ys) (.head _)).1, rfl, _, rfl⟩ hI ?_
    intro h5 tk5 tw F5 N5
    w_strict k_steps
    rename Fr g L _ _ => F7
    rename News g L _ _ => N7
    refine hQ _ _ _ tw F7 (if_pos rfl) (fun z hz => if_neg hz) (cb_drop N7 ?_)
    exact fun q hq => .tail _ hq
  k_with_none
end Mine
end
section
open PySem PySem.W PyProof.Rows PyProof.Rows.LCg PySem.Calls PySem.Spec
namespace Mine
set_option maxRecDepth 100000 in
set_option maxHeartbeats 8000000 in
theorem ts2 {w : World} {p : Program} {loose : List Str} {mean : ExcName → Option Value} {mg mb : Str → Option Value} {fa : Addr} {cd : Value}
    {g : Heap} {L : Nat} {m : Str → Option Value} {s : Shared} {Q : Flow → Shared → Prop} {E : Value → Shared → Prop} {B t : Int} {tB tt : Tok} {o1 : Obj} {lw : Addr} {lws : List Value} {c : Nat} {tups : List (Addr × Obj)}
    (_BB : Below callerA g [] g) (X : (Mine.hd.heap_39 w.params).In g) (T : Top p loose mean mg mb g)
    (hB : 1 < B) (hB2 : B < 7) (ht : -1000 < t ∧ t < 1000) (hl : lws.length < 10)
    (F : Fr g L s.heap m) (m1 : m (Str.ofString "lowers") = some (.ref lw)) (m2 : m (Str.ofString "turn") = some (.int t tt)) (d1 : o1.data = .cell (some (.int B tB)))
    (N : News g L s.heap ((lw, W.listOf lws.toArray c) :: (L + 1, o1) :: tups)) (k1 : @Ne Nat (L + 1) lw) (k2 : ∀ q ∈ tups, q.1 ≠ lw)
    (hQ : ∀ h' tk' tw, Fr g L h' m → 
      News g L h' ((lw, W.listOf (lws ++ [Value.int (1 + B * t) tw]).toArray (c + 1)) :: (L + 1, o1) :: tups) → Q .next { s with heap := h', toks := tk' }) :
    wpAny (model PySem.Challenge.rw_pg0188_01.row.prog w) (callerA.deeper (envW L fa cd)) (exec (tst 2) (envW L fa cd)) Q E s := by
  k_with "eval Name" => (refine' nameX_L (by k_asm) (by assumption) ?_ rfl rfl; k_whole)
  k_with "binaryOp Mult int int" => (refine Mine.mulS (by omega) ?_; k_whole)
  k_with "all" => with_reducible assumption
  k_with "ne" => (refine neN ?_; (try dsimp only); first | with_reducible assumption | exact Ne.symm (by with_reducible assumption) | omega)
  k_with "call builtin:list.append" => ((try dsimp only [List.cons_append, List.nil_append]); refine' Mine.appendL (by k_asm) (by k_asm) ?_ (by k_upd) ?_; omega; k_whole; (intro _ _ _))
  revert X
  k_fill
  intro X
  have hb' : tst 2 = tst 2 := rfl
  conv at hb' => rhs; whnf
  have hs : sScope st15 = sScope st15 := rfl
  conv at hs => rhs; whnf
  refine (id ?_ : wpAny _ _ _ _ _ _)
  dsimp only [envW] at F N ⊢
  rw [hb', hs]
  clear hb' hs
  w_on
  w_strict k_steps
  rename Fr g L _ _ => F7
  rename News g L _ _ => N7

  exact hQ _ _ _ F7 N7
  k_with_none
end Mine
end
section
open PySem PySem.W PyProof.Rows PyProof.Rows.LCg PySem.Calls PySem.Spec
namespace Mine
section
variable {prog : Program} {w : World} {A : Around} {E : Value → Shared → Prop} {s : Shared} {h₀ : Heap} {L : Addr} {m : Str → Option Value} {env : Env}
/-- the turns of a comprehension whose test lets nothing through -/
theorem restT_none {ct elt : Expr} {x : Str} {scope : Scope} {cl : List (Str × Addr)} {S : List (Addr × Obj) → Prop} {P : Nat → Value → Prop} {Fin : List Value → List (Addr × Obj) → Prop} {n : Nat} {news : List (Addr × Obj)} (hS : S news)
    (el : ∀ i, i < n → ∀ v, P i v → ∀ I oI C oC D m₂ h tk (Q' : Bool → Shared → Prop) (E' : Value → Shared → Prop), NsObj oC m₂ → m₂ x = some v → Fr h₀ L h m → News h₀ L h ((I, oI) :: (C, oC) :: (D, lst []) :: news) →
      (∀ h' tk', Fr h₀ L h' m → News h₀ L h' ((I, oI) :: (C, oC) :: (D, lst []) :: news) → Q' false { s with heap := h', toks := tk' }) →
      wpAny (model prog w) A (isTrue ct (compEnvC scope cl C env) (eval ct (compEnvC scope cl C env))) Q' E' { s with heap := h, toks := tk })
    (fin : Fin [] news) : LCt.CompRestT prog w A h₀ L m env ct elt x scope cl s S P Fin n 0 [] news := by
  suffices G : ∀ k i, i + k = n → LCt.CompRestT prog w A h₀ L m env ct elt x scope cl s S P Fin k i [] news from G n 0 (Nat.zero_add _)
  intro k
  induction k with
  | zero => intro i _; exact fin
  | succ k ih =>
    intro i hi
    refine LCt.CompRestT.succ ?_
    intro v I oI C oC D m₂ h tk E' hP hC hx F N off hne
    refine el i (by omega) v hP I oI C oC D m₂ h tk _ E' hC hx F N ?_
    intro h' tk' F' N'
    rw [if_neg Bool.false_ne_true]
    exact ⟨h', tk', news, rfl, F', N', off, hS, ih (i + 1) (by omega)⟩
theorem neEmpty {A1 A2 : Addr} {o1 o2 : Obj} {Q : Value → Shared → Prop} (m1 : s.heap.get? A1 = some o1) (m2 : s.heap.get? A2 = some o2) (e1 : o1 = lst []) (e2 : o2 = lst []) (hu : A.units + 64 < cLine) (h : Q (.bool false) s) :
    wpAny (model prog w) A (compareOp .NotEq (.ref A1) (.ref A2)) Q E s := by
  subst e1; subst e2
  refine ne_dataH (reads_list_at m1 rfl rfl .nil) (reads_list_at m2 rfl rfl .nil) ?_ ?_ hu ?_
  · simp [SeqAt.shaped, PyData.canLay0, PyData.canLayAll0, PyData.depth, PyData.depthAll]
  · simp [SeqAt.shaped, PyData.canLay0, PyData.canLayAll0, PyData.depth, PyData.depthAll]
  · exact h
end
set_option maxRecDepth 100000 in
set_option maxHeartbeats 8000000 in
theorem ts3 {w : World} {p : Program} {loose : List Str} {mean : ExcName → Option Value} {mg mb : Str → Option Value} {fa : Addr} {cd : Value}
    {g : Heap} {L : Nat} {m : Str → Option Value} {s : Shared} {Q : Flow → Shared → Prop} {E : Value → Shared → Prop} {B : Int} {tB : Tok} {o1 o4 : Obj} {lf : Addr} {fv : List Value} {fs : List Int} {c : Nat} {tups : List (Addr × Obj)}
    (_BB : Below callerA g [] g) (X : (Mine.hd.heap_39 w.params).In g) (T : Top p loose mean mg mb g)
    (_hB : 1 < B) (_hB2 : B < 7) (hfv : IntsAre fv fs) (hl : fs.length = 4) (hf : ∀ d ∈ fs, 0 ≤ d ∧ d < B)
    (F : Fr g L s.heap m) (d1 : o1.data = .cell (some (.int B tB))) (d4 : o4.data = .cell (some (.ref lf)))
    (N : News g L s.heap ((lf, W.listOf fv.toArray c) :: (L + 1, o1) :: (L + 4, o4) :: tups))
    (hQ : ∀ h' tk', Fr g L h' m → 
      News g L h' ((lf, W.listOf fv.toArray c) :: (L + 1, o1) :: (L + 4, o4) :: tups) → Q .next { s with heap := h', toks := tk' }) :
    wpAny (model PySem.Challenge.rw_pg0188_01.row.prog w) (callerA.deeper (envW L fa cd)) (exec (tst 3) (envW L fa cd)) Q E s := by
  k_with "eval Name" => (refine' nameX_L (by k_asm) (by assumption) ?_ rfl rfl; k_whole)
  k_with "eval ListComp" => (refine Mine.Stop.go ?_)
  k_with "CompSrcT" => (refine Mine.Stop.go ?_)
  k_with "compareOp NotEq ref ref" => (refine Mine.Stop.go ?_)
  revert X
  k_fill
  intro X
  have hb' : tst 3 = tst 3 := rfl
  conv at hb' => rhs; whnf
  have hs : sScope st15 = sScope st15 := rfl
  conv at hs => rhs; whnf
  refine (id ?_ : wpAny _ _ _ _ _ _)
  dsimp only [envW] at F N ⊢
  rw [hb', hs]
  clear hb' hs
  w_on
  w_strict k_steps
  unfold Stop
  refine (id ?_ : wpAny _ _ _ _ _ _)
  k_dflt (refine LCt.ListComp_T (F₀ := F) (by with_unfolding_all rfl) (by decide) (by rfl) (by decide) (by rfl) ?_)
  w_strict k_steps
  unfold Stop
  rename Fr g L _ _ => F1
  rename News g L _ _ => N1
  have h5 : fv.length = 4 := by rw [hfv.length, hl]
  refine LCt.CompSrcT.ledger (its := fv.toArray) rfl F1 N1 (.head _) (by rw [List.size_toArray, h5]; exact Nat.le_of_ble_eq_true rfl) ?_
  intro g₂
  rw [List.size_toArray, h5]
  refine restT_none (.inr ⟨_, .head _, rfl, c, rfl⟩) ?_ ?_
  · intro i hi v hv I oI C oC D m₂ h₂ tk₂ Q' E' hC hx F₂ N₂ hQ'
    obtain ⟨u, hu⟩ := intsAre_at hfv i (by omega)
    rw [List.getElem?_toArray, hu] at hv
    obtain rfl := Option.some.inj hv
    obtain ⟨f0, f1⟩ : 0 ≤ fs.getD i 0 ∧ fs.getD i 0 < B := by
      rw [List.getD_eq_getElem?_getD, List.getElem?_eq_getElem (by omega)]
      exact hf _ (List.getElem_mem _)
    clear hu hfv h5 hf hl
    refine (id ?_ : wpAny _ _ _ _ _ _)
    w_strict k_steps
    all_goals first
      | (exfalso; omega)
      | exact hQ' _ _ F₂ N₂
  · intro D h₃ tk₃ F₃ N₃ o1
    refine (id ?_ : wpAny _ _ _ _ _ _)
    w_strict k_steps
    unfold Stop
    rename Fr g L _ _ => F4
    rename News g L _ _ => N4
    refine (id ?_ : wpAny _ _ _ _ _ _)
    refine neEmpty (News.get N4 (.tail _ (.head _))) (News.get N4 (.head _)) rfl rfl (by ktr_units) ?_
    w_strict k_steps
    exact hQ _ _ F4 (cb_drop N4 fun q hq => .tail _ (.tail _ hq))
  k_with_none
end Mine
end
section
open PySem PySem.W PyProof.Rows PyProof.Rows.LCg PySem.Calls PySem.Spec
namespace Mine
section
variable {prog : Program} {w : World} {A : Around} {E : Value → Shared → Prop} {s : Shared} {h₀ : Heap} {L : Addr}
theorem subLast {value slice : Expr} {l : Addr} {vi : List Value} {v : Value} {u : Tok} {c : Nat} {news : List (Addr × Obj)} {Q : Value → Shared → Prop} (N : News h₀ L s.heap news) (hm : (l, W.listOf (vi ++ [v]).toArray c) ∈ news) (h : Q v s)
    (hs : subscripted slice false (.ref l) (.int (-1) u) = operate [.ref l, .int (-1) u] (getItem (.ref l) (.int (-1) u)) := by with_unfolding_all rfl) :
    wpAny (model prog w) A (subscriptTail value slice (.ref l) (.int (-1) u)) Q E s := by
  have hl : s.heap.IsList l (vi ++ [v]).toArray := ⟨_, (N _ hm).1, rfl, _, rfl⟩
  exact subscriptTail_builtinR hl.typeIs slot_list_getitem.lookup (wpAny_getItem_list_neg (Q := fun r s' => r = v ∧ Q r s') hl (by decide) (by simp; omega) (by decide) (by
    have e : ((-1 : Int) + ((vi ++ [v]).toArray.size : Int)).toNat = vi.length := by simp; omega
    rw [e]; simp) ⟨rfl, h⟩) hs
theorem neTupI {A1 A2 : Addr} {a b : Int} {t1 t2 t3 t4 : Tok} {Q : Value → Shared → Prop} (m1 : s.heap.get? A1 = some (tup2 (.int a t1) (.int b t2))) (m2 : s.heap.get? A2 = some (tup2 (.int a t3) (.int b t4))) (hu : A.units + 64 < cLine) (h : Q (.bool false) s) :
    wpAny (model prog w) A (compareOp .NotEq (.ref A1) (.ref A2)) Q E s := by
  refine ne_dataH (da := .tuple [.int a, .int b]) (db := .tuple [.int a, .int b]) (as := []) (bs := []) ?_ ?_ ?_ ?_ hu ?_
  · exact reads_tuple_at m1 rfl rfl (ReadsAll.cons (.int _ _) (ReadsAll.cons (.int _ _) .nil))
  · exact reads_tuple_at m2 rfl rfl (ReadsAll.cons (.int _ _) (ReadsAll.cons (.int _ _) .nil))
  · simp [SeqAt.shaped, PyData.canLay0, PyData.canLayAll0, PyData.depth, PyData.depthAll]
  · simp [SeqAt.shaped, PyData.canLay0, PyData.canLayAll0, PyData.depth, PyData.depthAll]
  · have e : PyData.eqv (.tuple [.int a, .int b]) (.tuple [.int a, .int b]) = true := by
      simp [PyData.eqv, PyData.eqvAll]
    rw [e]; exact h
end
set_option maxRecDepth 100000 in
set_option maxHeartbeats 8000000 in
theorem ts4 {w : World} {p : Program} {loose : List Str} {mean : ExcName → Option Value} {mg mb : Str → Option Value} {fa : Addr} {cd : Value}
    {g : Heap} {L : Nat} {m : Str → Option Value} {s : Shared} {Q : Flow → Shared → Prop} {E : Value → Shared → Prop} {B u lo wo H : Int} {tB tu tW tH tl : Tok} {o1 o7 x7 o9 x9 : Obj} {e7 e9 lw : Addr} {lws : List Value} {c : Nat} {tups : List (Addr × Obj)}
    (BB : Below callerA g [] g) (X : (Mine.hd.heap_39 w.params).In g) (T : Top p loose mean mg mb g) (C1 : CodeHd g 91 87) (C2 : CodeHd g 98 94)
    (hB : 1 < B) (hB2 : B < 7) (hW : -(2 ^ 60) < wo ∧ wo < 2 ^ 60) (hx0 : -(2 ^ 59) ≤ u - lo * wo) (hx1 : u - lo * wo < 2 ^ 60) (hq : (u - lo * wo) / B ^ 4 = H) (hr : (u - lo * wo) % B ^ 4 = 0)
    (F : Fr g L s.heap m) (m1 : m (Str.ofString "upper") = some (.int u tu)) (m2 : m (Str.ofString "worth") = some (.int wo tW)) (m3 : m (Str.ofString "here") = some (.int H tH)) (m4 : m (Str.ofString "lowers") = some (.ref lw))
    (d1 : o1.data = .cell (some (.int B tB)))
    (N : News g L s.heap ((87, o7) :: (e7, x7) :: (94, o9) :: (e9, x9) :: (L + 1, o1) :: (lw, W.listOf (lws ++ [Value.int lo tl]).toArray c) :: tups)) (t7 : TabL 87 59 4 Q87 o7 e7 x7) (t9 : TabL 94 74 4 Q94 o9 e9 x9)
    (k7 : AllNe 87 ((L + 1, o1) :: (lw, W.listOf (lws ++ [Value.int lo tl]).toArray c) :: tups)) (k9 : AllNe 94 ((L + 1, o1) :: (lw, W.listOf (lws ++ [Value.int lo tl]).toArray c) :: tups)) (q7 : AllNe e7 ((L + 1, o1) :: (lw, W.listOf (lws ++ [Value.int lo tl]).toArray c) :: tups)) (q9 : AllNe e9 ((L + 1, o1) :: (lw, W.listOf (lws ++ [Value.int lo tl]).toArray c) :: tups))
    (hQ : ∀ h' tk' o7' e7' x7' o9' e9' x9', Fr g L h' m → 
      News g L h' ((87, o7') :: (e7', x7') :: (94, o9') :: (e9', x9') :: (L + 1, o1) :: (lw, W.listOf (lws ++ [Value.int lo tl]).toArray c) :: tups) →
      TabL 87 59 4 Q87 o7' e7' x7' → TabL 94 74 4 Q94 o9' e9' x9' → AllNe e7' ((L + 1, o1) :: (lw, W.listOf (lws ++ [Value.int lo tl]).toArray c) :: tups) → AllNe e9' ((L + 1, o1) :: (lw, W.listOf (lws ++ [Value.int lo tl]).toArray c) :: tups) → Q .next { s with heap := h', toks := tk' }) :
    wpAny (model PySem.Challenge.rw_pg0188_01.row.prog w) (callerA.deeper (envW L fa cd)) (exec (tst 4) (envW L fa cd)) Q E s := by
  k_with "eval Name" => (refine' nameX_L (by k_asm) (by assumption) ?_ rfl rfl; k_whole)
  k_with "call ref" => ((with_reducible show wpAny _ _ (call (Value.ref 113) _) _ _ _); refine Mine.Stop.go ?_)
  k_with "compareOp NotEq ref ref" => (refine Mine.Stop.go ?_)
  k_with "subscriptTail" => ((with_reducible show wpAny _ _ (subscriptTail _ _ (Value.ref _) (Value.int _ _)) _ _ _); with_unfolding_all refine' Mine.subLast (by k_dflt k_asm) (by k_dflt k_mem) ?_ (by with_unfolding_all rfl); k_whole)
  k_with "binaryOp Mult int int" => (refine Mine.mulS (by omega) ?_; k_whole)
  k_with "all" => with_reducible assumption
  k_with "ne" => (refine neN ?_; (try dsimp only); first | with_reducible assumption | exact Ne.symm (by with_reducible assumption) | omega)
  revert X
  k_fill
  intro X
  have hb' : tst 4 = tst 4 := rfl
  conv at hb' => rhs; whnf
  have hs : sScope st15 = sScope st15 := rfl
  conv at hs => rhs; whnf
  refine (id ?_ : wpAny _ _ _ _ _ _)
  dsimp only [envW] at F N ⊢
  rw [hb', hs]
  clear hb' hs
  obtain ⟨y0, y1⟩ := pow_small hB hB2 (i := 4) (by omega)
  w_on
  w_strict k_steps
  unfold Stop
  rename Fr g L _ _ => F1
  rename News g L _ _ => N1
  with_unfolding_all refine idiv (base := g) C1 C2 _ _ _ _ _ _ _ _ _ _ _ _ _ _ _ _ (u - lo * wo) (B ^ 4) _ _ _ _ _ _ _ _ BB F1 X T rfl (cb_drop N1 (by kcj_all)) t7 t9 (by ktr_room) (by ktr_units) hx0 hx1 y0 (by omega) ?_
  rw [hq, hr]
  intro D t1 t2 h2 tk2 o7' e7' x7' o9' e9' x9' kb hD gD tt n7 n9
  obtain ⟨F2, N2, l1, r7, r9, r7D, r9D⟩ := after2 (cs := (L + 1, o1) :: (lw, W.listOf (lws ++ [Value.int lo tl]).toArray c) :: tups) F1 N1 kb (by k_mem) (by k_mem) (by k_mem) (by k_mem) (fun q hq => .tail _ (.tail _ (.tail _ (.tail _ hq)))) k7 k9 q7 q9 tt n7 n9 hD gD rfl
  clear N1 F1 kb
  w_strict k_steps
  unfold Stop
  rename Fr g L _ _ => F4
  rename News g L _ _ => N4
  refine (id ?_ : wpAny _ _ _ _ _ _)
  refine neTupI (News.get N4 (by k_mem)) (News.get N4 (by k_mem)) (by ktr_units) ?_
  w_strict k_steps
  exact hQ _ _ _ _ _ _ _ _ F4 (cb_drop N4 fun q hq => .tail _ (.tail _ hq)) tt.1.1 tt.2.1 r7 r9
  k_with_none
end Mine
end
section
open PySem PySem.W PyProof.Rows PyProof.Rows.LCg PySem.Calls PySem.Spec
namespace Mine
theorem strsAre_of : ∀ {ys : List Value} {f : Nat → Str}, (∀ i, i < ys.length → ∃ t, ys[i]? = some (.str (f i) t)) → StrsAre ys ((List.range ys.length).map f)
  | [], _, _ => .nil
  | y :: r, f, h => by
    rw [List.length_cons, List.range_succ_eq_map, List.map_cons, List.map_map]
    obtain ⟨t, ht⟩ := h 0 (Nat.succ_pos _)
    rw [List.getElem?_cons_zero] at ht
    rw [Option.some.inj ht]
    exact .cons _ t (strsAre_of (f := f ∘ Nat.succ) fun i hi => by
      obtain ⟨u, hu⟩ := h (i + 1) (Nat.succ_lt_succ hi)
      rw [List.getElem?_cons_succ] at hu
      exact ⟨u, hu⟩)
theorem map_getD {α β : Type} (f : α → β) (d : α) (ns : List α) : (List.range ns.length).map (fun i => f (ns.getD i d)) = ns.map f := by
  apply List.ext_getElem?
  intro i
  by_cases h : i < ns.length
  · rw [List.getElem?_map, List.getElem?_range h, List.getElem?_map, List.getElem?_eq_getElem h]
    simp [List.getElem?_eq_getElem h]
  · rw [List.getElem?_eq_none (by rw [List.length_map, List.length_range]; omega), List.getElem?_eq_none (by rw [List.length_map]; omega)]
theorem segS_len {f : Int} (h0 : 0 ≤ f) (h1 : f < 6) : (segS f).length ≤ 8 := by
  rw [cps_len, segS_cps, segL, List.length_cons, List.length_replicate]
  omega
theorem seg_weight : ∀ ns : List Int, (∀ d ∈ ns, 0 ≤ d ∧ d < 6) → ((ns.map segS).map (·.length)).sum ≤ 8 * ns.length
  | [], _ => Nat.le_refl _
  | d :: r, h => by
    have h1 := seg_weight r fun x hx => h x (.tail _ hx)
    have h2 := segS_len (h d (.head _)).1 (h d (.head _)).2
    simp only [List.map_cons, List.sum_cons, List.length_cons] at *
    omega
def pthElt : Expr := match tst 5 with
  | .Expr (.Call _ [.ListComp e _ _ _] _ _) _ => e
  | _ => default
def pthScope : Scope := match tst 5 with
  | .Expr (.Call _ [.ListComp _ _ s _] _ _) _ => s
  | _ => default
set_option maxRecDepth 100000 in
set_option maxHeartbeats 8000000 in
theorem pathEl {w : World} {p : Program} {loose : List Str} {mean : ExcName → Option Value} {mg mb : Str → Option Value} {fa : Addr} {cd : Value}
    {g : Heap} {L : Nat} {C : Addr} {m m₂ : Str → Option Value} {s : Shared} {Q E : Value → Shared → Prop} {tk : Tok} {o4 oC : Obj} {lf : Addr} {fv : List Value} {fs : List Int} {c k : Nat} {tups : List (Addr × Obj)}
    (_BB : Below callerA g [] g) (X : (Mine.hd.heap_39 w.params).In g) (_T : Top p loose mean mg mb g)
    (hfv : IntsAre fv fs) (hl : fs.length = 4) (hf : ∀ d ∈ fs, 0 ≤ d ∧ d < 6) (hk : k < 5)
    (F : Fr g L s.heap m) (d4 : o4.data = .cell (some (.ref lf))) (hC : NsObj oC m₂) (hx : m₂ (Str.ofString "k") = some (.int k tk))
    (N : News g L s.heap ((C, oC) :: (L + 4, o4) :: (lf, W.listOf fv.toArray c) :: tups))
    (hQ : ∀ h' tk' t, Fr g L h' m → News g L h' ((C, oC) :: (L + 4, o4) :: (lf, W.listOf fv.toArray c) :: tups) → Q (.str (pathS (fs.take k)) t) { s with heap := h', toks := tk' }) :
    wpAny (model PySem.Challenge.rw_pg0188_01.row.prog w) (callerA.deeper (envW L fa cd)) (eval pthElt (compEnvC pthScope [(Str.ofString "figures", L + 4)] C (envW L fa cd))) Q E s := by
  k_with "eval ListComp" => (refine Mine.Stop.go ?_)
  k_with "CompSrc" => (refine Mine.Stop.go ?_)
  k_with "call builtin:str.join" => (refine Mine.Stop.go ?_)
  k_with "subscriptTail Name Slice ref ref" => (refine Mine.Stop.go ?_)
  revert X
  k_fill
  intro X
  have hb' : pthElt = pthElt := rfl
  conv at hb' => rhs; whnf
  have hs : sScope st15 = sScope st15 := rfl
  conv at hs => rhs; whnf
  have hc : pthScope = pthScope := rfl
  conv at hc => rhs; whnf
  refine (id ?_ : wpAny _ _ _ _ _ _)
  dsimp only [envW] at F N ⊢
  rw [hb', hs, hc]
  clear hb' hs hc
  have h5 : fv.length = 4 := by rw [hfv.length, hl]
  have hz : fv.toArray.size ≤ sizeLine := by rw [List.size_toArray, h5]; exact Nat.le_of_ble_eq_true rfl
  w_on
  w_strict k_steps
  unfold Stop
  refine (id ?_ : wpAny _ _ _ _ _ _)
  k_dflt (refine LCg.ListComp_U (F₀ := F) (by with_unfolding_all rfl) (by decide) (by rfl) (by decide) (by rfl) ?_)
  w_strict k_steps
  unfold Stop
  k_dflt (refine' kmk_slice_ints ?zzF ?zzN ?zzl ?zzp ?zzq ?zzi ?zzm ?zzc ?_ ?zzs ?zzt ?zzz; (case zzF => k_asm); (case zzN => k_asm); (case zzl => exact News.isList (by k_asm) (by k_mem)); (case zzp => exact IsPart.none); (case zzq => exact IsPart.int _ _); (case zzi => assumption); (case zzm => exact kmk_upto (by assumption) (by omega)); (case zzc => exact rfl); (case zzs => with_unfolding_all rfl); (case zzt => kmk_pure); (case zzz => assumption))
  intro D' ws' h' F' N' l1 hI' hC' hL'
  w_strict k_steps
  unfold Stop
  rename Fr g L _ _ => F1
  rename News g L _ _ => N1
  rename List Value => ws
  rename IntsAre ws _ => hI
  have hkt : ((k : Int)).toNat = k := Int.toNat_natCast k
  rw [hkt] at hI
  have hn4 : (fs.take k).length = k := by rw [List.length_take]; omega
  have hw5 : ws.length = k := by rw [hI.length, hn4]
  refine LCg.CompSrc.ledger (its := ws.toArray) rfl F1 N1 (.head _) (by rw [List.size_toArray, hw5]; exact Nat.le_trans (Nat.le_of_lt hk) (Nat.le_of_ble_eq_true rfl)) ?_
  intro g₂
  rw [List.size_toArray, hw5]
  refine CompRest.same (fun i y => ∃ t, y = .str (segS ((fs.take k).getD i 0)) t) (.inr ⟨_, .head _, rfl, _, rfl⟩) ?_ ?_
  · intro i hi v hv I oI C2 oC2 D2 m₃ h₂ tk₂ ys Q' E' hC2 hx2 F₂ N₂ off hne hQ'
    obtain ⟨u, hu⟩ := intsAre_at hI i (by omega)
    rw [List.getElem?_toArray, hu] at hv
    obtain rfl := Option.some.inj hv
    obtain ⟨f0, f1⟩ : 0 ≤ (fs.take k).getD i 0 ∧ (fs.take k).getD i 0 < 6 := by
      rw [List.getD_eq_getElem?_getD, List.getElem?_eq_getElem (by omega)]
      exact hf _ (List.mem_of_mem_take (List.getElem_mem _))
    clear hu
    generalize (fs.take k).getD i 0 = f at *
    refine (id ?_ : wpAny _ _ _ _ _ _)
    w_strict k_steps
    rename Fr g L _ _ => F3
    rename News g L _ _ => N3
    exact hQ' _ _ _ ⟨_, rfl⟩ F3 N3
  · intro ys h5' hY D2 h₃ tk₃ F₃ N₃ o1
    refine (id ?_ : wpAny _ _ _ _ _ _)
    w_strict k_steps
    unfold Stop
    have hS := strsAre_of (ys := ys) (f := fun i => segS ((fs.take k).getD i 0)) (fun i hi => by
      obtain ⟨y, hy, t, rfl⟩ := hY i (by omega)
      exact ⟨t, hy⟩)
    have e5 : ys.length = (fs.take k).length := by rw [h5', hn4]
    rw [e5, map_getD] at hS
    refine (id ?_ : wpAny _ _ _ _ _ _)
    refine join_listW (ys := (fs.take k).map segS) (items := ys.toArray) ⟨_, (N₃ (D2, lst ys) (.head _)).1, rfl, _, rfl⟩ hS (by decide +kernel) ?_ ?_
    · have := seg_weight (fs.take k) (fun d hd => hf d (List.mem_of_mem_take hd))
      rw [List.length_map]
      omega
    · intro t' k'
      exact hQ _ _ _ F₃ (cb_drop N₃ fun q hq => .tail _ (.tail _ hq))
  k_with_none
end Mine
end
section
open PySem PySem.W PyProof.Rows PyProof.Rows.LCg PySem.Calls PySem.Spec
namespace Mine
set_option maxRecDepth 100000 in
set_option maxHeartbeats 8000000 in
theorem ts5 {w : World} {p : Program} {loose : List Str} {mean : ExcName → Option Value} {mg mb : Str → Option Value} {fa : Addr} {cd : Value}
    {g : Heap} {L : Nat} {m : Str → Option Value} {s : Shared} {Q : Flow → Shared → Prop} {E : Value → Shared → Prop} {o3 o4 : Obj} {pt lf : Addr} {pts fv : List Value} {fs : List Int} {c0 c : Nat} {tups : List (Addr × Obj)}
    (BB : Below callerA g [] g) (X : (Mine.hd.heap_39 w.params).In g) (T : Top p loose mean mg mb g)
    (hfv : IntsAre fv fs) (hl : fs.length = 4) (hf : ∀ d ∈ fs, 0 ≤ d ∧ d < 6) (hp : pts.length < 10)
    (F : Fr g L s.heap m) (d3 : o3.data = .cell (some (.ref pt))) (d4 : o4.data = .cell (some (.ref lf)))
    (N : News g L s.heap ((pt, W.listOf pts.toArray c0) :: (L + 3, o3) :: (L + 4, o4) :: (lf, W.listOf fv.toArray c) :: tups))
    (k1 : @Ne Nat (L + 3) pt) (k2 : @Ne Nat (L + 4) pt) (k3 : @Ne Nat lf pt) (k4 : ∀ q ∈ tups, q.1 ≠ pt)
    (hQ : ∀ h' tk' D ys, Fr g L h' m → ys.length = 5 → (∀ i, i < 5 → ∃ t, ys[i]? = some (Value.str (pathS (fs.take i)) t)) → (∀ q ∈ (pt, W.listOf pts.toArray c0) :: (L + 3, o3) :: (L + 4, o4) :: (lf, W.listOf fv.toArray c) :: tups, q.1 ≠ D) →
      News g L h' ((D, lst ys) :: (pt, W.listOf (pts ++ [Value.ref D]).toArray (c0 + 1)) :: (L + 3, o3) :: (L + 4, o4) :: (lf, W.listOf fv.toArray c) :: tups) → Q .next { s with heap := h', toks := tk' }) :
    wpAny (model PySem.Challenge.rw_pg0188_01.row.prog w) (callerA.deeper (envW L fa cd)) (exec (tst 5) (envW L fa cd)) Q E s := by
  k_with "eval ListComp" => (refine Mine.Stop.go ?_)
  k_with "CompSrc" => (refine Mine.Stop.go ?_)
  k_with "all" => with_reducible assumption
  k_with "ne" => (refine neN ?_; (try dsimp only); first | with_reducible assumption | exact Ne.symm (by with_reducible assumption) | omega)
  k_with "call builtin:list.append" => ((try dsimp only [List.cons_append, List.nil_append]); refine' Mine.appendL (by k_asm) (by k_asm) ?_ (by k_upd) ?_; omega; k_whole; (intro _ _ _))
  revert X
  k_fill
  intro X
  have hb' : tst 5 = tst 5 := rfl
  conv at hb' => rhs; whnf
  have hs : sScope st15 = sScope st15 := rfl
  conv at hs => rhs; whnf
  refine (id ?_ : wpAny _ _ _ _ _ _)
  dsimp only [envW] at F N ⊢
  rw [hb', hs]
  clear hb' hs
  w_on
  w_strict k_steps
  unfold Stop
  refine (id ?_ : wpAny _ _ _ _ _ _)
  k_dflt (refine LCg.ListComp_U (F₀ := F) (by with_unfolding_all rfl) (by decide) (by rfl) (by decide) (by rfl) ?_)
  w_strict k_steps
  unfold Stop
  rename IsRange _ _ _ _ _ _ _ _ => hr
  rename Fr g L _ _ => F1
  rename News g L _ _ => N1
  refine CompSrc.range (n := 5) rfl F1 N1 hr (by decide +kernel) (by decide +kernel) (Nat.le_of_ble_eq_true rfl) ?_
  intro g₂
  refine CompRest.same (fun i y => ∃ t, y = .str (pathS (fs.take i)) t) trivial ?_ ?_
  · rintro i hi v ⟨t, rfl⟩ I oI C oC D m₂ h₂ tk₂ ys Q' E' hC hx F₂ N₂ off hne hQ'
    rw [Int.zero_add] at hx
    with_unfolding_all refine pathEl (c := c) (tups := (I, oI) :: (C, oC) :: (D, lst ys) :: (pt, W.listOf pts.toArray c0) :: (L + 3, o3) :: (L + 4, o4) :: (lf, W.listOf fv.toArray c) :: tups) BB X T (by assumption) hl hf hi F₂ d4 hC hx (cb_drop N₂ ?_) ?_
    · exact subC (by k_mem) (subC (by k_mem) (subC (by k_mem) fun q hq => hq))
    · intro h3 tk3 t3 F3 N3
      exact hQ' _ _ _ ⟨_, rfl⟩ F3 (cb_drop N3 fun q hq => .tail _ (.tail _ (.tail _ hq)))
  · intro ys h5' hY D h₃ tk₃ F₃ N₃ o1
    have o1' := OffL o1
    have n1 := o1' _ (.head _)
    refine (id ?_ : wpAny _ _ _ _ _ _)
    w_strict k_steps
    rename Fr g L _ _ => F7
    rename News g L _ _ => N7
    refine hQ _ _ D ys F7 h5' (fun i hi => ?_) o1' N7
    obtain ⟨y, hy, t, rfl⟩ := hY i hi
    exact ⟨t, hy⟩
  k_with_none
end Mine
end
section
open PySem PySem.W PyProof.Rows PyProof.Rows.LCg PySem.Calls PySem.Spec
namespace Mine
theorem body6 : sBody for6 = [tst 0, tst 1, tst 2, tst 3, tst 4, tst 5] := rfl
theorem worth_eq {B : Int} : ∀ {fs : List Int}, fs.length = 4 → worthL B fs = undig B fs
  | [a, b, c, d], _ => by
    have e : worthL B [a, b, c, d] = a * B ^ 0 + (b * B ^ 1 + (c * B ^ 2 + (d * B ^ 3 + 0))) := rfl
    rw [e]
    simp only [undig, Int.pow_succ, Int.pow_zero, Int.mul_add, Int.mul_one, Int.one_mul, Int.mul_zero, Int.add_zero]
    rw [Int.mul_comm b B, Int.mul_comm c (B * B), Int.mul_comm d (B * B * B), Int.mul_assoc B B c, Int.mul_assoc, Int.mul_assoc]
theorem worth_bound {B : Int} (hB : 1 < B) (hB2 : B < 7) : ∀ {fs : List Int}, fs.length = 4 → (∀ d ∈ fs, 0 ≤ d ∧ d < 7) → 0 ≤ worthL B fs ∧ worthL B fs ≤ 40000
  | [a, b, c, d], _, h => by
    have e : worthL B [a, b, c, d] = a * B ^ 0 + (b * B ^ 1 + (c * B ^ 2 + (d * B ^ 3 + 0))) := rfl
    have one : ∀ (x : Int) (i : Nat), i ≤ 4 → 0 ≤ x ∧ x < 7 → 0 ≤ x * B ^ i ∧ x * B ^ i ≤ 7 * 1296 := fun x i hi hx => by
      obtain ⟨p0, p1⟩ := pow_small hB hB2 hi
      exact ⟨Int.mul_nonneg hx.1 (Int.le_of_lt p0), Int.mul_le_mul (Int.le_of_lt hx.2) p1 (Int.le_of_lt p0) (by decide)⟩
    have h0 := one a 0 (by omega) (h a (by simp))
    have h1 := one b 1 (by omega) (h b (by simp))
    have h2 := one c 2 (by omega) (h c (by simp))
    have h3 := one d 3 (by omega) (h d (by simp))
    rw [e]
    omega
/-- a table's code lies off the law's own objects -/
def OffT (a : Addr) (L : Nat) (lw pt : Addr) (tups : List (Addr × Obj)) : Prop := @Ne Nat (L + 1) a ∧ @Ne Nat (L + 3) a ∧ @Ne Nat (L + 4) a ∧ @Ne Nat lw a ∧ @Ne Nat pt a ∧ ∀ q ∈ tups, q.1 ≠ a
abbrev NB (L : Nat) (lw pt : Addr) (o1 o3 o4 : Obj) (lws pts : List Value) (c1 c2 : Nat) (tups : List (Addr × Obj)) : List (Addr × Obj) :=
  (L + 1, o1) :: (L + 3, o3) :: (L + 4, o4) :: (lw, W.listOf lws.toArray c1) :: (pt, W.listOf pts.toArray c2) :: tups
theorem far_facts {L lw pt : Nat} (hL : 94 < L) (hlw : L + 6 < lw) (hpt : lw < pt) : (@Ne Nat (L + 1) 87 ∧ @Ne Nat (L + 3) 87 ∧ @Ne Nat (L + 4) 87 ∧ @Ne Nat lw 87 ∧ @Ne Nat pt 87) ∧ (@Ne Nat (L + 1) 94 ∧ @Ne Nat (L + 3) 94 ∧ @Ne Nat (L + 4) 94 ∧ @Ne Nat lw 94 ∧ @Ne Nat pt 94) ∧ (@Ne Nat (L + 3) (L + 4) ∧ @Ne Nat lw (L + 4) ∧ @Ne Nat pt (L + 4)) ∧ (@Ne Nat (L + 1) lw ∧ @Ne Nat (L + 3) lw ∧ @Ne Nat (L + 4) lw ∧ @Ne Nat pt lw) ∧ @Ne Nat (L + 1) pt ∧ @Ne Nat (L + 3) pt ∧ @Ne Nat (L + 4) pt := by
  refine ⟨⟨?_, ?_, ?_, ?_, ?_⟩, ⟨?_, ?_, ?_, ?_, ?_⟩, ⟨?_, ?_, ?_⟩, ⟨?_, ?_, ?_, ?_⟩, ?_, ?_, ?_⟩ <;> omega
theorem far_new {L lf : Nat} (hL : 94 < L) (h : L + 4 < lf) : @Ne Nat lf 87 ∧ @Ne Nat lf 94 := by constructor <;> omega
set_option maxRecDepth 100000 in
set_option maxHeartbeats 2000000 in
theorem turnOne {w : World} {p : Program} {loose : List Str} {mean : ExcName → Option Value} {mg mb : Str → Option Value} {fa : Addr} {cd : Value}
    {g : Heap} {L : Nat} {m : Str → Option Value} {s : Shared} {Q : Flow → Shared → Prop} {E : Value → Shared → Prop} {B u t : Int} {tB tu tt : Tok} {o1 o3 o4 o7 x7 o9 x9 : Obj} {e7 e9 lw pt : Addr} {v4 : Option Value} {lws pts : List Value} {c1 c2 : Nat} {tups : List (Addr × Obj)}
    (BB : Below callerA g [] g) (X : (Mine.hd.heap_39 w.params).In g) (T : Top p loose mean mg mb g) (C1 : CodeHd g 91 87) (C2 : CodeHd g 98 94)
    (hB : 1 < B) (hB2 : B < 7) (ht : -30 ≤ t ∧ t ≤ 30) (hu : -100000 ≤ u ∧ u ≤ 100000) (hl1 : lws.length < 10) (hl2 : pts.length < 10)
    (F : Fr g L s.heap m) (m1 : m (Str.ofString "upper") = some (.int u tu)) (m2 : m (Str.ofString "turn") = some (.int t tt)) (m3 : m (Str.ofString "lowers") = some (.ref lw))
    (d1 : o1.data = .cell (some (.int B tB))) (d3 : o3.data = .cell (some (.ref pt))) (d4 : o4.data = .cell v4)
    (N : News g L s.heap ((87, o7) :: (e7, x7) :: (94, o9) :: (e9, x9) :: NB L lw pt o1 o3 o4 lws pts c1 c2 tups)) (t7 : TabL 87 59 4 Q87 o7 e7 x7) (t9 : TabL 94 74 4 Q94 o9 e9 x9)
    (hL : 94 < L) (hlw : L + 6 < lw) (hpt : @LT.lt Nat _ lw pt) (k7 : ∀ q ∈ tups, q.1 ≠ 87) (k9 : ∀ q ∈ tups, q.1 ≠ 94) (k4 : ∀ q ∈ tups, q.1 ≠ L + 4) (klw : ∀ q ∈ tups, q.1 ≠ lw) (kpt : ∀ q ∈ tups, q.1 ≠ pt)
    (q7 : OffT e7 L lw pt tups) (q9 : OffT e9 L lw pt tups)
    (hQ : ∀ h' tk' m' tl D ys o4' v4' o7' e7' x7' o9' e9' x9', Fr g L h' m' → (∀ z, z ≠ Str.ofString "here" → z ≠ Str.ofString "worth" → m' z = m z) → ys.length = 5 → (∀ i, i < 5 → ∃ tz, ys[i]? = some (Value.str (pathS ((runF B t 4 u).take i)) tz)) →
      o4'.data = .cell v4' → News g L h' ((87, o7') :: (e7', x7') :: (94, o9') :: (e9', x9') :: NB L lw pt o1 o3 o4' (lws ++ [Value.int (1 + B * t) tl]) (pts ++ [Value.ref D]) (c1 + 1) (c2 + 1) ((D, lst ys) :: tups)) →
      TabL 87 59 4 Q87 o7' e7' x7' → TabL 94 74 4 Q94 o9' e9' x9' → @Ne Nat D 87 → @Ne Nat D 94 → @Ne Nat D (L + 4) → @Ne Nat D lw → @Ne Nat D pt → (∀ q ∈ tups, q.1 ≠ D) → OffT e7' L lw pt ((D, lst ys) :: tups) → OffT e9' L lw pt ((D, lst ys) :: tups) → Q .next { s with heap := h', toks := tk' }) :
    wpAny (model PySem.Challenge.rw_pg0188_01.row.prog w) (callerA.deeper (envW L fa cd)) (execs (sBody for6) (envW L fa cd)) Q E s := by
  k_with "cj" => ((repeat (refine subC (by k_mem) ?_)); (intro q hq; (first | exact absurd hq List.not_mem_nil | (repeat (first | exact hq | apply List.Mem.tail)))))
  k_with "all" => with_reducible assumption
  k_with "ne" => (refine neN ?_; (try dsimp only); first | with_reducible assumption | exact Ne.symm (by with_reducible assumption) | exact Nat.ne_of_lt (by with_reducible assumption) | exact Nat.ne_of_gt (by with_reducible assumption) | omega)
  obtain ⟨⟨n1, n2, n3, n4, n5⟩, ⟨n6, n7, n8, n9, n10⟩, ⟨n11, n12, n13⟩, ⟨n14, n15, n16, n17⟩, n18, n19, n20⟩ := far_facts hL hlw hpt
  obtain ⟨a1, a3, a4, a5, a6, a7⟩ := q7
  obtain ⟨b1, b3, b4, b5, b6, b7⟩ := q9
  have hbd := runH_bound (B := B) (t := t) (by omega) (by omega) ht.1 ht.2 hu.1 hu.2
  have hfb : ∀ d ∈ runF B t 4 u, 0 ≤ d ∧ d < B := runF_bounds (by omega) t 4 u
  have hfl : (runF B t 4 u).length = 4 := runF_length B t u 4
  rw [body6]
  refine wpAny_execs_cons ?_
  refine ts0 (tups := (L + 3, o3) :: (lw, W.listOf lws.toArray c1) :: (pt, W.listOf pts.toArray c2) :: tups) BB X T C1 C2 hB hB2 (by omega) (fun i => by have := hbd i; omega) F m1 m2 d1 d4 (cb_drop N (by kcj_all)) t7 t9 hL (allNe_of (by k_all)) (allNe_of (by k_all)) (allNe_of (by k_all)) (allNe_of (by k_all)) (by k_all) ?_
  intro h1 tk1 mm1 lf fv th c o4a o7a e7a x7a o9a e9a x9a F1 n1 s1 hfv d4a N1 t7a t9a r7 r9 lf7 lf9 hlf hlfs
  obtain ⟨r71, r74, r73, r7w, r7p, r7t⟩ := r7
  obtain ⟨r91, r94, r93, r9w, r9p, r9t⟩ := r9
  have g1 : @LT.lt Nat _ lw lf := hlfs _ (.tail _ (.head _))
  have g2 : @LT.lt Nat _ pt lf := hlfs _ (.tail _ (.tail _ (.head _)))
  obtain ⟨f87, f94⟩ := far_new hL hlf
  dsimp only at r71 r74 r73 r7w r7p r91 r94 r93 r9w r9p
  have r7t' := r7t.at
  have r9t' := r9t.at
  have lft : ∀ q ∈ tups, q.1 ≠ lf := fun q hq => Nat.ne_of_lt (hlfs q (.tail _ (.tail _ (.tail _ hq))))
  clear N F hlfs
  show wpAny _ _ (execs [tst 1, tst 2, tst 3, tst 4, tst 5] (envW L fa cd)) Q E _
  refine wpAny_execs_cons ?_
  refine ts1 (tups := (87, o7a) :: (e7a, x7a) :: (94, o9a) :: (e9a, x9a) :: (L + 3, o3) :: (lw, W.listOf lws.toArray c1) :: (pt, W.listOf pts.toArray c2) :: tups) BB X T hB hB2 hfv hfl F1 d1 d4a (cb_drop N1 (by kcj_all)) ?_
  intro h2 tk2 mm2 tw F2 n2 s2 N2
  clear N1 F1
  show wpAny _ _ (execs [tst 2, tst 3, tst 4, tst 5] (envW L fa cd)) Q E _
  refine wpAny_execs_cons ?_
  refine ts2 (t := t) (tt := tt) (tups := (lf, W.listOf fv.toArray c) :: (87, o7a) :: (e7a, x7a) :: (94, o9a) :: (e9a, x9a) :: (L + 3, o3) :: (L + 4, o4a) :: (pt, W.listOf pts.toArray c2) :: tups) BB X T hB hB2 (by omega) hl1 F2 (by rw [s2 _ (by decide +kernel), s1 _ (by decide +kernel)]; exact m3) (by rw [s2 _ (by decide +kernel), s1 _ (by decide +kernel)]; exact m2) d1 (cb_drop N2 (by kcj_all)) n14 (by k_all) ?_
  intro h3 tk3 tl F3 N3
  clear N2 F2
  show wpAny _ _ (execs [tst 3, tst 4, tst 5] (envW L fa cd)) Q E _
  refine wpAny_execs_cons ?_
  refine ts3 (tups := (lw, W.listOf (lws ++ [Value.int (1 + B * t) tl]).toArray (c1 + 1)) :: (87, o7a) :: (e7a, x7a) :: (94, o9a) :: (e9a, x9a) :: (L + 3, o3) :: (pt, W.listOf pts.toArray c2) :: tups) BB X T hB hB2 hfv hfl hfb F3 d1 d4a (cb_drop N3 (by kcj_all)) ?_
  intro h4 tk4 F4 N4
  clear N3 F3
  show wpAny _ _ (execs [tst 4, tst 5] (envW L fa cd)) Q E _
  refine wpAny_execs_cons ?_
  have hw := worth_eq (B := B) hfl
  have hid := runF_worth (B := B) t 4 u
  rw [← hw] at hid
  have hwb := worth_bound hB hB2 hfl (fun d hd => by have := hfb d hd; omega)
  have hB4 := pow_small hB hB2 (i := 4) (by omega)
  have hx : u - (1 + B * t) * worthL B (runF B t 4 u) = B ^ 4 * runH B t 4 u := by omega
  have hb4 := hbd 4
  have hxb := mul_bound hB4.1 hB4.2 hb4
  refine ts4 (lo := 1 + B * t) (H := runH B t 4 u) (tups := (lf, W.listOf fv.toArray c) :: (L + 3, o3) :: (L + 4, o4a) :: (pt, W.listOf pts.toArray c2) :: tups) BB X T C1 C2 hB hB2 (by omega) (by rw [hx]; omega) (by rw [hx]; omega) (by rw [hx]; exact Int.mul_ediv_cancel_left _ (Int.ne_of_gt hB4.1)) (by rw [hx]; exact Int.mul_emod_right _ _) F4 (by rw [s2 _ (by decide +kernel), s1 _ (by decide +kernel)]; exact m1) n2 (by rw [s2 _ (by decide +kernel)]; exact n1) (by rw [s2 _ (by decide +kernel), s1 _ (by decide +kernel)]; exact m3) d1 (cb_drop N4 (by kcj_all)) t7a t9a (allNe_of (by k_all)) (allNe_of (by k_all)) (allNe_of (by k_all)) (allNe_of (by k_all)) ?_
  intro h5 tk5 o7b e7b x7b o9b e9b x9b F5 N5 t7b t9b y7 y9
  obtain ⟨y71, y7w, y7l, y73, y74, y7p, y7t⟩ := y7
  obtain ⟨y91, y9w, y9l, y93, y94, y9p, y9t⟩ := y9
  have y7t' := y7t.at
  have y9t' := y9t.at
  clear N4 F4
  show wpAny _ _ (execs [tst 5] (envW L fa cd)) Q E _
  refine wpAny_execs_cons ?_
  refine ts5 (tups := (87, o7b) :: (e7b, x7b) :: (94, o9b) :: (e9b, x9b) :: (L + 1, o1) :: (lw, W.listOf (lws ++ [Value.int (1 + B * t) tl]).toArray (c1 + 1)) :: tups) BB X T hfv hfl (fun d hd => by have := hfb d hd; omega) hl2 F5 d3 d4a (cb_drop N5 (by kcj_all)) n19 n20 (Nat.ne_of_gt g2) (by k_all) ?_
  intro h6 tk6 D ys F6 hy5 hY hD N6
  refine wpAny_execs_nil ?_
  refine hQ h6 tk6 mm2 tl D ys o4a _ o7b e7b x7b o9b e9b x9b F6 (fun z z1 z2 => by rw [s2 z z2, s1 z z1]) hy5 hY d4a (cb_drop N6 (by kcj_all)) t7b t9b ?_ ?_ ?_ ?_ ?_ ?_ ?_ ?_
  · exact Ne.symm (hD (87, o7b) (by k_mem))
  · exact Ne.symm (hD (94, o9b) (by k_mem))
  · exact Ne.symm (hD (L + 4, o4a) (by k_mem))
  · exact Ne.symm (hD (lw, W.listOf (lws ++ [Value.int (1 + B * t) tl]).toArray (c1 + 1)) (by k_mem))
  · exact Ne.symm (hD (pt, W.listOf pts.toArray c2) (by k_mem))
  · exact fun q hq => hD q (.tail _ (.tail _ (.tail _ (.tail _ (.tail _ (.tail _ (.tail _ (.tail _ (.tail _ (.tail _ hq))))))))))
  · exact ⟨y71, y73, y74, y7w, y7p, List.forall_mem_cons.mpr ⟨Ne.symm (hD (e7b, x7b) (by k_mem)), y7t'⟩⟩
  · exact ⟨y91, y93, y94, y9w, y9p, List.forall_mem_cons.mpr ⟨Ne.symm (hD (e9b, x9b) (by k_mem)), y9t'⟩⟩
  k_with_none
end Mine
end
section
open PySem PySem.W PyProof.Rows PyProof.Rows.LCg PySem.Calls PySem.Spec
namespace Mine
/-- the law's own objects that the first loop leaves alone -/
abbrev NK (w : World) (L : Nat) (M md pd fr : Addr) (tq : Tok) (cf : Nat) (o2 o5 o6 : Obj) (frs : List Value) (tups : List (Addr × Obj)) : List (Addr × Obj) :=
  (L + 5, o5) :: (L + 6, o6) :: (L + 2, o2) :: (M, instObj 67 md) :: (md, mgrObj w tq pd) :: (fr, W.listOf frs.toArray cf) :: tups
def Apart (L : Nat) (lw pt : Addr) (q : Addr × Obj) : Prop := @Ne Nat q.1 87 ∧ @Ne Nat q.1 94 ∧ @Ne Nat q.1 (L + 4) ∧ @Ne Nat q.1 lw ∧ @Ne Nat q.1 pt
def Off56 (L : Nat) (q : Addr × Obj) : Prop := @Ne Nat q.1 (L + 5) ∧ @Ne Nat q.1 (L + 6)
/-- what the first loop has made behind i fractions -/
inductive JF (w : World) (L : Nat) (M md pd fr lw pt : Addr) (tq : Tok) (cf : Nat) (o1 o2 o3 o5 o6 : Obj) (frs : List Value) (B : Int) (us ts : Nat → Int) (T0 : List (Addr × Obj)) (i : Nat) (m : Str → Option Value) : List (Addr × Obj) → Prop
  | mk (o4 : Obj) (v4 : Option Value) (o7 : Obj) (e7 : Addr) (x7 o9 : Obj) (e9 : Addr) (x9 : Obj) (lws pts : List Value) (T : List (Addr × Obj)) (pa : Nat → Addr) (ps : Nat → List Value) : o4.data = Data.cell v4 → TabL 87 59 4 Q87 o7 e7 x7 → TabL 94 74 4 Q94 o9 e9 x9 →
    m (Str.ofString "lowers") = some (.ref lw) → m (Str.ofString "fractions") = some (.ref fr) → lws.length = i → pts.length = i → (∀ j, j < i → ∃ tk, lws[j]? = some (.int (1 + B * ts j) tk)) →
    (∀ j, j < i → pts[j]? = some (.ref (pa j)) ∧ (pa j, lst (ps j)) ∈ T ∧ (ps j).length = 5 ∧ ∀ k, k < 5 → ∃ tk, (ps j)[k]? = some (.str (pathS ((runF B (ts j) 4 (us j)).take k)) tk)) →
    (∀ q ∈ T0, q ∈ T) → (∀ q ∈ NK w L M md pd fr tq cf o2 o5 o6 frs T, Apart L lw pt q) → (∀ q ∈ T, Off56 L q) → OffT e7 L lw pt (NK w L M md pd fr tq cf o2 o5 o6 frs T) → OffT e9 L lw pt (NK w L M md pd fr tq cf o2 o5 o6 frs T) →
    JF w L M md pd fr lw pt tq cf o1 o2 o3 o5 o6 frs B us ts T0 i m ((87, o7) :: (e7, x7) :: (94, o9) :: (e9, x9) :: NB L lw pt o1 o3 o4 lws pts i i (NK w L M md pd fr tq cf o2 o5 o6 frs T))
set_option maxRecDepth 100000 in
set_option maxHeartbeats 2000000 in
theorem loopFrac {w : World} {p : Program} {loose : List Str} {mean : ExcName → Option Value} {mg mb : Str → Option Value} {fa : Addr} {cd : Value}
    {g : Heap} {L : Nat} {M md pd fr lw pt : Addr} {tq : Tok} {cf : Nat} {m : Str → Option Value} {s : Shared} {Q : Flow → Shared → Prop} {E : Value → Shared → Prop} {B : Int} {tB : Tok} {o1 o2 o3 o4 o5 o6 o7 o9 : Obj} {v4 : Option Value} {frs : List Value} {us ts : Nat → Int} {ft : Nat → Addr} {T0 : List (Addr × Obj)}
    (hE : PassesOwn (model PySem.Challenge.rw_pg0188_01.row.prog w) (callerA.deeper (envW L fa cd)) (envW L fa cd) E) (BB : Below callerA g [] g) (X : (Mine.hd.heap_39 w.params).In g) (T : Top p loose mean mg mb g) (C1 : CodeHd g 91 87) (C2 : CodeHd g 98 94)
    (hB : 1 < B) (hB2 : B < 7) (ht : ∀ j, j < 6 → -30 ≤ ts j ∧ ts j ≤ 30) (hu : ∀ j, j < 6 → -100000 ≤ us j ∧ us j ≤ 100000)
    (F : Fr g L s.heap m) (m1 : m (Str.ofString "fractions") = some (.ref fr)) (m2 : m (Str.ofString "lowers") = some (.ref lw))
    (d1 : o1.data = .cell (some (.int B tB))) (d3 : o3.data = .cell (some (.ref pt))) (d4 : o4.data = .cell v4)
    (N : News g L s.heap ((87, o7) :: (94, o9) :: NB L lw pt o1 o3 o4 [] [] 0 0 (NK w L M md pd fr tq cf o2 o5 o6 frs T0))) (t7 : o7 = tabObj #[]) (t9 : o9 = tabObj #[])
    (hL : 94 < L) (hlw : L + 6 < lw) (hpt : @LT.lt Nat _ lw pt) (hap : ∀ q ∈ NK w L M md pd fr tq cf o2 o5 o6 frs T0, Apart L lw pt q) (h56 : ∀ q ∈ T0, Off56 L q)
    (e1 : frs.length = 6) (hF : ∀ j, j < 6 → ∃ u1 u2, frs[j]? = some (.ref (ft j)) ∧ (ft j, tup2 (.int (us j) u1) (.int (ts j) u2)) ∈ T0)
    (hQ : ∀ h' tk' m' nw, Fr g L h' m' → News g L h' nw → JF w L M md pd fr lw pt tq cf o1 o2 o3 o5 o6 frs B us ts T0 6 m' nw → Q .next { s with heap := h', toks := tk' }) :
    wpAny (model PySem.Challenge.rw_pg0188_01.row.prog w) (callerA.deeper (envW L fa cd)) (exec for6 (envW L fa cd)) Q E s := by
  k_with "cj" => ((repeat (refine subC (by k_mem) ?_)); (intro q hq; (first | exact absurd hq List.not_mem_nil | (repeat (first | exact hq | apply List.Mem.tail)))))
  k_with "pyIter ref" => (refine Mine.Stop.go ?_)
  k_with "execs cons" => (refine Mine.Stop.go ?_)
  k_with "eval Name" => (refine' nameX_L (by k_asm) (by assumption) ?_ rfl rfl; k_whole)
  revert X
  k_fill
  intro X
  have hb : for6 = for6 := rfl
  conv at hb => rhs; whnf
  have hs : sScope st15 = sScope st15 := rfl
  conv at hs => rhs; whnf
  refine (id ?_ : wpAny _ _ _ _ _ _)
  dsimp only [envW] at F N ⊢
  rw [hb, hs]
  clear hb hs
  w_on
  with_unfolding_all refine For_turns F ?_ (hE := hE)
  w_strict k_steps
  unfold Stop
  rename News g L _ _ => N1
  rename Fr g L _ _ => F1
  with_unfolding_all refine forList (its := frs.toArray) (c := cf) (news := (87, o7) :: (87, o7) :: (94, o9) :: (94, o9) :: NB L lw pt o1 o3 o4 [] [] 0 0 (NK w L M md pd fr tq cf o2 o5 o6 frs T0)) (JF w L M md pd fr lw pt tq cf o1 o2 o3 o5 o6 frs B us ts T0) rfl F1 (cb_drop N1 (by kcj_all)) ?_ ?_ ?_ ?_
  · rintro i m' nw ⟨o4', v4', o7', e7', x7', o9', e9', x9', lws, pts, T', pa, ps, _⟩
    k_mem
  · refine ⟨o4, v4, o7, 87, o7, o9, 94, o9, [], [], T0, fun _ => 0, fun _ => [], d4, .inl ⟨t7, rfl, t7⟩, .inl ⟨t9, rfl, t9⟩, m2, m1, rfl, rfl, ?_, ?_, fun q hq => hq, hap, h56, ?_, ?_⟩
    · intro j hj; exact absurd hj (Nat.not_lt_zero _)
    · intro j hj; exact absurd hj (Nat.not_lt_zero _)
    · exact ⟨by omega, by omega, by omega, by omega, by omega, fun q hq => (hap q hq).1⟩
    · exact ⟨by omega, by omega, by omega, by omega, by omega, fun q hq => (hap q hq).2.1⟩
  · rintro I hI i v m₁ news₁ h₁ tk₁ oI hv ⟨o4', v4', o7', e7', x7', o9', e9', x9', lws, pts, T', pa, ps, d4', t7', t9', k1, k2, l1, l2, hlws, hpts, hsub, hap', h56', q7, q9⟩ hoff F2 N2
    have hi : i < 6 := by
      rw [List.getElem?_toArray] at hv
      have := (List.getElem?_eq_some_iff.mp hv).1
      omega
    obtain ⟨u1, u2, f1, f2⟩ := hF i hi
    rw [List.getElem?_toArray, f1] at hv
    obtain rfl := Option.some.inj hv
    have N3 : News g L h₁ ((ft i, tup2 (.int (us i) u1) (.int (ts i) u2)) :: (I, oI) :: (87, o7') :: (e7', x7') :: (94, o9') :: (e9', x9') :: NB L lw pt o1 o3 o4' lws pts i i (NK w L M md pd fr tq cf o2 o5 o6 frs T')) := fun q hq => by
      rcases List.mem_cons.mp hq with rfl | hq
      · have := hsub _ f2
        exact N2 _ (by repeat (first | exact this | apply List.Mem.tail))
      · exact N2 q hq
    clear N2
    refine (id ?_ : wpAny _ _ _ _ _ _)
    w_strict k_steps
    unfold Stop
    rename Fr g L _ _ => F4
    rename News g L _ _ => N4
    obtain ⟨a1, a3, a4, a5, a6, a7⟩ := q7
    obtain ⟨b1, b3, b4, b5, b6, b7⟩ := q9
    refine (id ?_ : wpAny _ _ _ _ _ _)
    with_unfolding_all refine turnOne (u := us i) (t := ts i) (c1 := i) (c2 := i) (lws := lws) (pts := pts) (lw := lw) (pt := pt) (o1 := o1) (o3 := o3) (o4 := o4') (e7 := e7') (e9 := e9') (tups := (I, oI) :: NK w L M md pd fr tq cf o2 o5 o6 frs T') BB X T C1 C2 hB hB2 (ht i hi) (hu i hi) (by omega) (by omega) F4 rfl rfl k1 d1 d3 d4' (cb_drop N4 (by kcj_all)) t7' t9' hL hlw hpt ?_ ?_ ?_ ?_ ?_ ?_ ?_ ?_
    · exact List.forall_mem_cons.mpr ⟨Ne.symm (hoff (87, o7') (by k_mem)), fun q hq => (hap' q hq).1⟩
    · exact List.forall_mem_cons.mpr ⟨Ne.symm (hoff (94, o9') (by k_mem)), fun q hq => (hap' q hq).2.1⟩
    · exact List.forall_mem_cons.mpr ⟨Ne.symm (hoff (L + 4, o4') (by k_mem)), fun q hq => (hap' q hq).2.2.1⟩
    · exact List.forall_mem_cons.mpr ⟨Ne.symm (hoff (lw, W.listOf lws.toArray i) (by k_mem)), fun q hq => (hap' q hq).2.2.2.1⟩
    · exact List.forall_mem_cons.mpr ⟨Ne.symm (hoff (pt, W.listOf pts.toArray i) (by k_mem)), fun q hq => (hap' q hq).2.2.2.2⟩
    · exact ⟨a1, a3, a4, a5, a6, List.forall_mem_cons.mpr ⟨Ne.symm (hoff (e7', x7') (by k_mem)), a7⟩⟩
    · exact ⟨b1, b3, b4, b5, b6, List.forall_mem_cons.mpr ⟨Ne.symm (hoff (e9', x9') (by k_mem)), b7⟩⟩
    · intro h5 tk5 m5 tl D ys o4n v4n o7n e7n x7n o9n e9n x9n F5 sm hy5 hY d4n N5 t7n t9n D7 D9 D4 Dw Dp DI z7 z9
      obtain ⟨z71, z73, z74, z7w, z7p, z7t⟩ := z7
      obtain ⟨z91, z93, z94, z9w, z9p, z9t⟩ := z9
      have sub0 : ∀ q ∈ NK w L M md pd fr tq cf o2 o5 o6 frs ((D, lst ys) :: T'), q ∈ (D, lst ys) :: NK w L M md pd fr tq cf o2 o5 o6 frs T' := by kcj_all
      have sub : ∀ q ∈ NK w L M md pd fr tq cf o2 o5 o6 frs ((D, lst ys) :: T'), q ∈ (D, lst ys) :: (I, oI) :: NK w L M md pd fr tq cf o2 o5 o6 frs T' := by kcj_all
      refine ⟨h5, tk5, m5, (87, o7n) :: (e7n, x7n) :: (94, o9n) :: (e9n, x9n) :: NB L lw pt o1 o3 o4n (lws ++ [Value.int (1 + B * ts i) tl]) (pts ++ [Value.ref D]) (i + 1) (i + 1) (NK w L M md pd fr tq cf o2 o5 o6 frs ((D, lst ys) :: T')), rfl, F5, cb_drop N5 (by kcj_all), ?_, ?_⟩
      · refine List.forall_mem_cons.mpr ⟨hoff (87, o7') (by k_mem), List.forall_mem_cons.mpr ⟨Ne.symm (z7t (I, oI) (by k_mem)), List.forall_mem_cons.mpr ⟨hoff (94, o9') (by k_mem), List.forall_mem_cons.mpr ⟨Ne.symm (z9t (I, oI) (by k_mem)), List.forall_mem_cons.mpr ⟨hoff (L + 1, o1) (by k_mem), List.forall_mem_cons.mpr ⟨hoff (L + 3, o3) (by k_mem), List.forall_mem_cons.mpr ⟨hoff (L + 4, o4') (by k_mem), List.forall_mem_cons.mpr ⟨hoff (lw, W.listOf lws.toArray i) (by k_mem), List.forall_mem_cons.mpr ⟨hoff (pt, W.listOf pts.toArray i) (by k_mem), ?_⟩⟩⟩⟩⟩⟩⟩⟩⟩
        intro q hq
        rcases List.mem_cons.mp (sub0 q hq) with rfl | hq'
        · exact Ne.symm (DI (I, oI) (.head _))
        · exact hoff q (by repeat (first | exact hq' | apply List.Mem.tail))
      · refine ⟨o4n, v4n, o7n, e7n, x7n, o9n, e9n, x9n, _, _, (D, lst ys) :: T', fun j => if j = i then D else pa j, fun j => if j = i then ys else ps j, d4n, t7n, t9n, ?_, ?_, ?_, ?_, ?_, ?_, ?_, ?_, ?_, ?_, ?_⟩
        · rw [sm _ (by decide +kernel) (by decide +kernel)]; exact k1
        · rw [sm _ (by decide +kernel) (by decide +kernel)]; exact k2
        · rw [List.length_append, List.length_singleton, l1]
        · rw [List.length_append, List.length_singleton, l2]
        · intro j hj
          by_cases e : j < i
          · obtain ⟨tk, y⟩ := hlws j e
            exact ⟨tk, by rw [List.getElem?_append_left (by omega)]; exact y⟩
          · obtain rfl : j = i := by omega
            exact ⟨tl, by rw [List.getElem?_append_right (by omega), l1, Nat.sub_self]; rfl⟩
        · intro j hj
          by_cases e : j = i
          · subst e
            rw [if_pos rfl, if_pos rfl]
            exact ⟨by rw [List.getElem?_append_right (by omega), l2, Nat.sub_self]; rfl, .head _, hy5, hY⟩
          · rw [if_neg e, if_neg e]
            obtain ⟨y1, y2, y3, y4⟩ := hpts j (by omega)
            exact ⟨by rw [List.getElem?_append_left (by omega)]; exact y1, .tail _ y2, y3, y4⟩
        · exact fun q hq => .tail _ (hsub q hq)
        · intro q hq
          rcases List.mem_cons.mp (sub0 q hq) with rfl | hq'
          · exact ⟨D7, D9, D4, Dw, Dp⟩
          · exact hap' q hq'
        · intro q hq
          rcases List.mem_cons.mp hq with rfl | hq'
          · exact ⟨Ne.symm (DI (L + 5, o5) (by k_mem)), Ne.symm (DI (L + 6, o6) (by k_mem))⟩
          · exact h56' q hq'
        · exact ⟨z71, z73, z74, z7w, z7p, fun q hq => z7t q (sub q hq)⟩
        · exact ⟨z91, z93, z94, z9w, z9p, fun q hq => z9t q (sub q hq)⟩
  · rintro h' tk m' news' F' N' j
    rw [List.size_toArray, e1] at j
    exact hQ h' tk m' _ F' N' j
  k_with_none
end Mine
end
section
open PySem PySem.W PyProof.Rows PyProof.Rows.LCg PySem.Calls PySem.Spec
namespace Mine
theorem body15 : (sBody st15).drop 6 = [for6, for7, sAt 8 (sBody st15)] := rfl
theorem grown_of {P : Addr} {ln cl : Nat} {q : Str} {o : Obj} {e : Addr} {x : Obj} {h : Heap} (t : TabL P ln cl q o e x) (g : h.get? P = some o) : GrownAt P h := by
  rcases t with ⟨rfl, _⟩ | ⟨rfl, _⟩
  · exact ⟨_, g⟩
  · exact ⟨_, g⟩
def SmallF (u t : Int) : Prop := (-100000 ≤ u ∧ u ≤ 100000) ∧ (-30 ≤ t ∧ t ≤ 30)
set_option maxRecDepth 100000 in
set_option maxHeartbeats 2000000 in
theorem lawRest3 {w : World} {p : Program} {loose : List Str} {mean : ExcName → Option Value} {mg mb : Str → Option Value} {fa : Addr} {cd : Value}
    {g : Heap} {L : Nat} {M md pd fr lw pt dt a0 a1 a2 a3 a4 a5 : Nat} {tq : Tok} {cf : Nat} {m : Str → Option Value} {s : Shared} {Q : Flow → Shared → Prop} {E : Value → Shared → Prop} {B : Int} {tB : Tok} {opd odt o1 o2 o3 o4 o5 o6 o7 o9 : Obj}
    {u0 u1 u2 u3 u4 u5 v0 v1 v2 v3 v4 v5 : Int} {k0 k1 k2 k3 k4 k5 l0 l1 l2 l3 l4 l5 : Tok}
    (hE : PassesOwn (model PySem.Challenge.rw_pg0188_01.row.prog w) (callerA.deeper (envW L fa cd)) (envW L fa cd) E) (BB : Below callerA g [] g) (X : (Mine.hd.heap_39 w.params).In g) (T : Top p loose mean mg mb g) (C1 : CodeHd g 91 87) (C2 : CodeHd g 98 94)
    (F : Fr g L s.heap m) (m1 : m (Str.ofString "fractions") = some (.ref fr)) (m2 : m (Str.ofString "lowers") = some (.ref lw))
    (N : News g L s.heap [(dt, odt), (pt, W.listOf #[] 0), (lw, W.listOf #[] 0), (pd, opd), (M, instObj 67 md), (md, mgrObj w tq pd), (fr, W.listOf [Value.ref a0, Value.ref a1, Value.ref a2, Value.ref a3, Value.ref a4, Value.ref a5].toArray cf),
      (a4, tup2 (.int u4 k4) (.int v4 l4)), (a3, tup2 (.int u3 k3) (.int v3 l3)), (a2, tup2 (.int u2 k2) (.int v2 l2)), (a1, tup2 (.int u1 k1) (.int v1 l1)), (a0, tup2 (.int u0 k0) (.int v0 l0)), (a5, tup2 (.int u5 k5) (.int v5 l5)),
      (L + 1, o1), (L + 2, o2), (L + 3, o3), (L + 4, o4), (L + 5, o5), (L + 6, o6), (87, o7), (94, o9)])
    (d1 : o1.data = .cell (some (.int B tB))) (d2 : o2.data = .cell (some (.ref M))) (d3 : o3.data = .cell (some (.ref pt))) (d4 : o4.data = .cell none) (d5 : o5.data = .cell none) (d6 : o6.data = .cell none) (t7 : o7 = tabObj #[]) (t9 : o9 = tabObj #[])
    (hL : 94 < L) (ord : L + 6 < a0 ∧ L + 6 < a1 ∧ L + 6 < a2 ∧ L + 6 < a3 ∧ L + 6 < a4 ∧ L + 6 < a5 ∧ L + 6 < fr ∧ L + 6 < M ∧ L + 6 < md) (ordw : a0 < lw ∧ a1 < lw ∧ a2 < lw ∧ a3 < lw ∧ a4 < lw ∧ a5 < lw ∧ fr < lw ∧ M < lw ∧ md < lw) (hpt : lw < pt)
    (hB : 1 < B) (hB2 : B < 7) (s0 : SmallF u0 v0) (s1 : SmallF u1 v1) (s2 : SmallF u2 v2) (s3 : SmallF u3 v3) (s4 : SmallF u4 v4) (s5 : SmallF u5 v5)
    (hQ : ∀ h' tk' m', Fr g L h' m' → GrownAt 87 h' → GrownAt 94 h' → Q (.ret (.bool true)) { s with heap := h', toks := tk' }) :
    wpAny (model PySem.Challenge.rw_pg0188_01.row.prog w) (callerA.deeper (envW L fa cd)) (execs ((sBody st15).drop 6) (envW L fa cd)) Q E s := by
  k_with "cj" => ((repeat (refine subC (by k_mem) ?_)); (intro q hq; (first | exact absurd hq List.not_mem_nil | (repeat (first | exact hq | apply List.Mem.tail)))))
  rw [body15]
  refine wpAny_execs_cons ?_
  have hsm : ∀ j, SmallF (sel6 u0 u1 u2 u3 u4 u5 j) (sel6 v0 v1 v2 v3 v4 v5 j) := fun j => match j with
    | 0 => s0
    | 1 => s1
    | 2 => s2
    | 3 => s3
    | 4 => s4
    | _ + 5 => s5
  obtain ⟨oa0, oa1, oa2, oa3, oa4, oa5, ofr, oM, omd⟩ := ord
  obtain ⟨wa0, wa1, wa2, wa3, wa4, wa5, wfr, wM, wmd⟩ := ordw
  have hlw : L + 6 < lw := Nat.lt_trans ofr wfr
  have hlp : L + 6 < pt := Nat.lt_trans hlw hpt
  have ha : ∀ (x : Nat) (o : Obj), L + 6 < x → x < lw → Apart L lw pt (x, o) := fun x o h1 h2 => ⟨by show @Ne Nat x 87; omega, by show @Ne Nat x 94; omega, by show @Ne Nat x (L + 4); omega, by show @Ne Nat x lw; omega, by show @Ne Nat x pt; omega⟩
  have hc : ∀ (x : Nat) (o : Obj), x = L + 2 ∨ x = L + 5 ∨ x = L + 6 → Apart L lw pt (x, o) := fun x o h1 => ⟨by show @Ne Nat x 87; omega, by show @Ne Nat x 94; omega, by show @Ne Nat x (L + 4); omega, by show @Ne Nat x lw; omega, by show @Ne Nat x pt; omega⟩
  have h5 : ∀ (x : Nat) (o : Obj), L + 6 < x → Off56 L (x, o) := fun x o h1 => ⟨by show @Ne Nat x (L + 5); omega, by show @Ne Nat x (L + 6); omega⟩
  refine loopFrac (M := M) (md := md) (pd := pd) (fr := fr) (lw := lw) (pt := pt) (tq := tq) (cf := cf) (B := B) (tB := tB) (o1 := o1) (o2 := o2) (o3 := o3) (o4 := o4) (o5 := o5) (o6 := o6) (o7 := o7) (o9 := o9) (us := sel6 u0 u1 u2 u3 u4 u5) (ts := sel6 v0 v1 v2 v3 v4 v5) (ft := sel6 a0 a1 a2 a3 a4 a5)
    (frs := [Value.ref a0, Value.ref a1, Value.ref a2, Value.ref a3, Value.ref a4, Value.ref a5])
    (T0 := [(a4, tup2 (.int u4 k4) (.int v4 l4)), (a3, tup2 (.int u3 k3) (.int v3 l3)), (a2, tup2 (.int u2 k2) (.int v2 l2)), (a1, tup2 (.int u1 k1) (.int v1 l1)), (a0, tup2 (.int u0 k0) (.int v0 l0)), (a5, tup2 (.int u5 k5) (.int v5 l5))])
    hE BB X T C1 C2 hB hB2 (fun j _ => (hsm j).2) (fun j _ => (hsm j).1) F m1 m2 d1 d3 d4 (cb_drop N (by kcj_all)) t7 t9 hL hlw hpt ?_ ?_ rfl ?_ ?_
  · refine List.forall_mem_cons.mpr ⟨hc _ _ (.inr (.inl rfl)), List.forall_mem_cons.mpr ⟨hc _ _ (.inr (.inr rfl)), List.forall_mem_cons.mpr ⟨hc _ _ (.inl rfl), ?_⟩⟩⟩
    refine List.forall_mem_cons.mpr ⟨ha _ _ oM wM, List.forall_mem_cons.mpr ⟨ha _ _ omd wmd, List.forall_mem_cons.mpr ⟨ha _ _ ofr wfr, ?_⟩⟩⟩
    refine List.forall_mem_cons.mpr ⟨ha _ _ oa4 wa4, List.forall_mem_cons.mpr ⟨ha _ _ oa3 wa3, List.forall_mem_cons.mpr ⟨ha _ _ oa2 wa2, ?_⟩⟩⟩
    exact List.forall_mem_cons.mpr ⟨ha _ _ oa1 wa1, List.forall_mem_cons.mpr ⟨ha _ _ oa0 wa0, List.forall_mem_cons.mpr ⟨ha _ _ oa5 wa5, List.forall_mem_nil _⟩⟩⟩
  · refine List.forall_mem_cons.mpr ⟨h5 _ _ oa4, List.forall_mem_cons.mpr ⟨h5 _ _ oa3, List.forall_mem_cons.mpr ⟨h5 _ _ oa2, ?_⟩⟩⟩
    exact List.forall_mem_cons.mpr ⟨h5 _ _ oa1, List.forall_mem_cons.mpr ⟨h5 _ _ oa0, List.forall_mem_cons.mpr ⟨h5 _ _ oa5, List.forall_mem_nil _⟩⟩⟩
  · intro j hj
    have : j = 0 ∨ j = 1 ∨ j = 2 ∨ j = 3 ∨ j = 4 ∨ j = 5 := by omega
    rcases this with rfl | rfl | rfl | rfl | rfl | rfl
    · exact ⟨k0, l0, rfl, by show (a0, tup2 (.int u0 k0) (.int v0 l0)) ∈ _; k_mem⟩
    · exact ⟨k1, l1, rfl, by show (a1, tup2 (.int u1 k1) (.int v1 l1)) ∈ _; k_mem⟩
    · exact ⟨k2, l2, rfl, by show (a2, tup2 (.int u2 k2) (.int v2 l2)) ∈ _; k_mem⟩
    · exact ⟨k3, l3, rfl, by show (a3, tup2 (.int u3 k3) (.int v3 l3)) ∈ _; k_mem⟩
    · exact ⟨k4, l4, rfl, by show (a4, tup2 (.int u4 k4) (.int v4 l4)) ∈ _; k_mem⟩
    · exact ⟨k5, l5, rfl, by show (a5, tup2 (.int u5 k5) (.int v5 l5)) ∈ _; k_mem⟩
  · rintro h1 tk1 m1' nw F1 N1 ⟨o4', v4', o7', e7', x7', o9', e9', x9', lws, pts, T', pa, ps, d4', t7', t9', n2, n1, l1', l2', hlws, hpts, hsub, hap', h56', q7, q9⟩
    clear N F
    show wpAny _ _ (execs [for7, sAt 8 (sBody st15)] (envW L fa cd)) Q E _
    refine wpAny_execs_cons ?_
    have el : W.listOf lws.toArray 6 = lst lws := by rw [← l1']
    have ep : W.listOf pts.toArray 6 = lst pts := by rw [← l2']
    dsimp only [NB] at N1
    rw [el, ep] at N1
    have h6c : ∀ (x : Nat) (o : Obj), x = L + 1 ∨ x = L + 2 ∨ x = L + 3 → Off56 L (x, o) := fun x o h1 => ⟨by show @Ne Nat x (L + 5); omega, by show @Ne Nat x (L + 6); omega⟩
    have hlo : ∀ (x : Nat) (o : Obj), x < L → Off56 L (x, o) := fun x o h1 => ⟨by show @Ne Nat x (L + 5); omega, by show @Ne Nat x (L + 6); omega⟩
    have hnp : ∀ q ∈ NP w L M md pd fr lw pt tq cf o1 o2 o3 [Value.ref a0, Value.ref a1, Value.ref a2, Value.ref a3, Value.ref a4, Value.ref a5] lws pts ((87, o7') :: (94, o9') :: T'), Off56 L q := by
      refine List.forall_mem_cons.mpr ⟨h6c _ _ (.inl rfl), List.forall_mem_cons.mpr ⟨h6c _ _ (.inr (.inl rfl)), List.forall_mem_cons.mpr ⟨h6c _ _ (.inr (.inr rfl)), ?_⟩⟩⟩
      refine List.forall_mem_cons.mpr ⟨h5 _ _ oM, List.forall_mem_cons.mpr ⟨h5 _ _ omd, List.forall_mem_cons.mpr ⟨h5 _ _ ofr, ?_⟩⟩⟩
      exact List.forall_mem_cons.mpr ⟨h5 _ _ hlw, List.forall_mem_cons.mpr ⟨h5 _ _ hlp, List.forall_mem_cons.mpr ⟨hlo _ _ (Nat.lt_trans (by decide) hL), List.forall_mem_cons.mpr ⟨hlo _ _ hL, h56'⟩⟩⟩⟩
    refine loopPlace (M := M) (md := md) (pd := pd) (fr := fr) (lw := lw) (pt := pt) (tq := tq) (cf := cf) (o1 := o1) (o2 := o2) (o3 := o3) (o5 := o5) (o6 := o6) (us := sel6 u0 u1 u2 u3 u4 u5) (xs := sel6 v0 v1 v2 v3 v4 v5) (lo := fun j => 1 + B * sel6 v0 v1 v2 v3 v4 v5 j) (ft := sel6 a0 a1 a2 a3 a4 a5) (pa := pa) (ps := ps)
      (pth := fun j k => pathS ((runF B (sel6 v0 v1 v2 v3 v4 v5 j) 4 (sel6 u0 u1 u2 u3 u4 u5 j)).take k)) (frs := [Value.ref a0, Value.ref a1, Value.ref a2, Value.ref a3, Value.ref a4, Value.ref a5]) (lws := lws) (pts := pts) (tups := (87, o7') :: (94, o9') :: T')
      hE BB X T hB hB2 F1 n1 n2 d1 d2 d3 d5 d6 (cb_drop N1 (by kcj_all)) (fun q hq => (hnp q hq).1) (fun q hq => (hnp q hq).2) rfl l1' l2' ?_ hlws (fun j hj => ⟨(hpts j hj).1, .tail _ (.tail _ (hpts j hj).2.1), (hpts j hj).2.2⟩) ?_ ?_ (fun j _ k _ => pth_fits (by omega) hB2 k) ?_ ?_
    · intro j hj
      have : j = 0 ∨ j = 1 ∨ j = 2 ∨ j = 3 ∨ j = 4 ∨ j = 5 := by omega
      rcases this with rfl | rfl | rfl | rfl | rfl | rfl
      · exact ⟨k0, l0, rfl, .tail _ (.tail _ (hsub _ (by show (a0, tup2 (.int u0 k0) (.int v0 l0)) ∈ _; k_mem)))⟩
      · exact ⟨k1, l1, rfl, .tail _ (.tail _ (hsub _ (by show (a1, tup2 (.int u1 k1) (.int v1 l1)) ∈ _; k_mem)))⟩
      · exact ⟨k2, l2, rfl, .tail _ (.tail _ (hsub _ (by show (a2, tup2 (.int u2 k2) (.int v2 l2)) ∈ _; k_mem)))⟩
      · exact ⟨k3, l3, rfl, .tail _ (.tail _ (hsub _ (by show (a3, tup2 (.int u3 k3) (.int v3 l3)) ∈ _; k_mem)))⟩
      · exact ⟨k4, l4, rfl, .tail _ (.tail _ (hsub _ (by show (a4, tup2 (.int u4 k4) (.int v4 l4)) ∈ _; k_mem)))⟩
      · exact ⟨k5, l5, rfl, .tail _ (.tail _ (hsub _ (by show (a5, tup2 (.int u5 k5) (.int v5 l5)) ∈ _; k_mem)))⟩
    · intro j hj
      have := (hsm j).1
      omega
    · intro j hj
      have := lo_bound hB hB2 (hsm j).2
      show -(2 ^ 60) < 1 + B * sel6 v0 v1 v2 v3 v4 v5 j ∧ 1 + B * sel6 v0 v1 v2 v3 v4 v5 j < 2 ^ 60
      omega
    · intro pl hpl j hpj hj i hi
      exact law_full hB _ _ pl j i hi
    · intro h2 tk2 m2' F2 N2
      show wpAny _ _ (execs [sAt 8 (sBody st15)] (envW L fa cd)) Q E _
      have hb : sAt 8 (sBody st15) = sAt 8 (sBody st15) := rfl
      conv at hb => rhs; whnf
      rw [hb]
      clear hb
      refine (id ?_ : wpAny _ _ _ _ _ _)
      w_on
      w_strict k_steps
      exact hQ h2 tk2 m2' F2 (grown_of t7' (N2.get (.head _))) (grown_of t9' (N2.get (.tail _ (.head _))))
  k_with_none
end Mine
end
section
open PySem PySem.W PyProof.Rows PyProof.Rows.LCg PySem.Calls PySem.Spec
namespace Mine
set_option maxRecDepth 100000 in
set_option maxHeartbeats 8000000 in
theorem lawRest2 {w : World} {p : Program} {loose : List Str} {mean : ExcName → Option Value} {mg mb : Str → Option Value} {fa : Addr} {cd : Value}
    {g : Heap} {L : Nat} {fr a0 a1 a2 a3 a4 a5 : Nat} {cf : Nat} {m : Str → Option Value} {s : Shared} {Q : Flow → Shared → Prop} {E : Value → Shared → Prop} {B : Int} {tB : Tok} {o1 o2 o3 o4 o5 o6 o7 o9 : Obj}
    {u0 u1 u2 u3 u4 u5 v0 v1 v2 v3 v4 v5 : Int} {k0 k1 k2 k3 k4 k5 l0 l1 l2 l3 l4 l5 : Tok}
    (hE : PassesOwn (model PySem.Challenge.rw_pg0188_01.row.prog w) (callerA.deeper (envW L fa cd)) (envW L fa cd) E) (BB : Below callerA g [] g) (X : (Mine.hd.heap_39 w.params).In g) (T : Top p loose mean mg mb g) (C1 : CodeHd g 91 87) (C2 : CodeHd g 98 94)
    (F : Fr g L s.heap m) (m1 : m (Str.ofString "fractions") = some (.ref fr))
    (N : News g L s.heap [(fr, W.listOf [Value.ref a0, Value.ref a1, Value.ref a2, Value.ref a3, Value.ref a4, Value.ref a5].toArray cf),
      (a4, tup2 (.int u4 k4) (.int v4 l4)), (a3, tup2 (.int u3 k3) (.int v3 l3)), (a2, tup2 (.int u2 k2) (.int v2 l2)), (a1, tup2 (.int u1 k1) (.int v1 l1)), (a0, tup2 (.int u0 k0) (.int v0 l0)), (a5, tup2 (.int u5 k5) (.int v5 l5)),
      (L + 1, o1), (L + 2, o2), (L + 3, o3), (L + 4, o4), (L + 5, o5), (L + 6, o6), (87, o7), (94, o9)])
    (d1 : o1.data = .cell (some (.int B tB))) (d2 : o2.data = .cell none) (d3 : o3.data = .cell none) (d4 : o4.data = .cell none) (d5 : o5.data = .cell none) (d6 : o6.data = .cell none) (t7 : o7 = tabObj #[]) (t9 : o9 = tabObj #[])
    (hL : 94 < L) (ord : L + 6 < a0 ∧ L + 6 < a1 ∧ L + 6 < a2 ∧ L + 6 < a3 ∧ L + 6 < a4 ∧ L + 6 < a5 ∧ L + 6 < fr)
    (hB : 1 < B) (hB2 : B < 7) (s0 : SmallF u0 v0) (s1 : SmallF u1 v1) (s2 : SmallF u2 v2) (s3 : SmallF u3 v3) (s4 : SmallF u4 v4) (s5 : SmallF u5 v5)
    (hQ : ∀ h' tk' m', Fr g L h' m' → GrownAt 87 h' → GrownAt 94 h' → Q (.ret (.bool true)) { s with heap := h', toks := tk' }) :
    wpAny (model PySem.Challenge.rw_pg0188_01.row.prog w) (callerA.deeper (envW L fa cd)) (execs ((sBody st15).drop 4) (envW L fa cd)) Q E s := by
  k_with "execs cons" => ((with_reducible show wpAny _ _ (execs (Stmt.For _ _ _ _ _ :: _) _) _ _ _); refine Mine.Stop.go ?_)
  k_with "ne" => (refine neN ?_; (try dsimp only); first | with_reducible assumption | exact Ne.symm (by with_reducible assumption) | omega)
  revert X
  k_fill
  intro X
  have hb : (sBody st15).drop 4 = (sBody st15).drop 4 := rfl
  conv at hb => rhs; whnf
  have hs : sScope st15 = sScope st15 := rfl
  conv at hs => rhs; whnf
  refine (id ?_ : wpAny _ _ _ _ _ _)
  (try k_fold)
  dsimp only [envW] at F N ⊢
  rw [hb, hs]
  clear hb hs
  w_on
  w_strict k_steps
  unfold Stop
  rename Fr g L _ _ => F3
  rename News g L _ _ => N3


  with_unfolding_all refine lawRest3 hE BB X T C1 C2 F3 m1 rfl N3 (by assumption) (by assumption) (by assumption) (by assumption) (by assumption) (by assumption) t7 t9 hL (by omega) (by omega) (by omega) hB hB2 s0 s1 s2 s3 s4 s5 hQ
  k_with_none
end Mine
end
section
open PySem PySem.W PyProof.Rows PyProof.Rows.LCg PySem.Calls PySem.Spec
namespace Mine
section
variable {prog : Program} {w : World} {A : Around} {E : Value → Shared → Prop} {s : Shared} {a n : Int} {t u : Tok} {Q : Value → Shared → Prop}
theorem powX (ha : 1 < a) (ha2 : a < 7) (hn : 0 ≤ n) (hn2 : n ≤ 4) (h : ∀ z : Int, z = a ^ n.toNat → 0 < z → z ≤ 1296 → Q (.int z s.toks) { s with toks := s.toks + 1 }) : wpAny (model prog w) A (binaryOp .Pow (.int a t) (.int n u)) Q E s :=
  pow_int_small hn (by omega) (by omega) (h _ rfl (pow_small ha ha2 (by omega)).1 (pow_small ha ha2 (by omega)).2)
end
theorem drop3 {h₀ h : Heap} {L : Addr} {p1 p2 p3 p4 p5 p6 p7 x y q1 q2 q3 q4 q5 q6 z r1 r2 : Addr × Obj} (N : News h₀ L h [p1, p2, p3, p4, p5, p6, p7, x, y, q1, q2, q3, q4, q5, q6, z, r1, r2]) : News h₀ L h [p1, p2, p3, p4, p5, p6, p7, q1, q2, q3, q4, q5, q6, r1, r2] :=
  cb_drop N (by
    refine subC (by k_mem) (subC (by k_mem) (subC (by k_mem) (subC (by k_mem) (subC (by k_mem) (subC (by k_mem) (subC (by k_mem) (subC (by k_mem) (subC (by k_mem) (subC (by k_mem) (subC (by k_mem) (subC (by k_mem) (subC (by k_mem) (subC (by k_mem) (subC (by k_mem) ?_))))))))))))))
    exact fun q hq => absurd hq List.not_mem_nil)
theorem mulB {z b : Int} (h0 : 0 < z) (h1 : z ≤ 1296) (b0 : 0 ≤ b) (b1 : b ≤ 9) : 0 ≤ z * b ∧ z * b ≤ 11664 :=
  ⟨Int.mul_nonneg (Int.le_of_lt h0) b0, by
    have : z * b ≤ 1296 * 9 := Int.mul_le_mul h1 b1 b0 (by decide)
    omega⟩
theorem mulN {x b : Int} (x0 : -200 ≤ x) (x1 : x ≤ 200) (b0 : 0 ≤ b) (b1 : b ≤ 9) : -1800 ≤ x * b ∧ x * b ≤ 1800 := by
  have h1 : x * b ≤ 200 * 9 := by
    rcases Int.le_total 0 x with h | h
    · exact Int.mul_le_mul x1 b1 b0 (by decide)
    · have := Int.mul_nonneg (show 0 ≤ -x by omega) b0
      rw [Int.neg_mul] at this
      omega
  have h2 : -x * b ≤ 200 * 9 := by
    rcases Int.le_total 0 x with h | h
    · have := Int.mul_nonneg h b0
      rw [Int.neg_mul]
      omega
    · exact Int.mul_le_mul (by omega) b1 b0 (by decide)
  rw [Int.neg_mul] at h2
  omega
theorem mulT {b t : Int} (b0 : 1 < b) (b1 : b < 7) (t0 : -3 ≤ t) (t1 : t ≤ 3) : -18 ≤ b * t ∧ b * t ≤ 18 := by
  have : b = 2 ∨ b = 3 ∨ b = 4 ∨ b = 5 ∨ b = 6 := by omega
  rcases this with rfl | rfl | rfl | rfl | rfl <;> omega
theorem fold {M : Model} {A : Around} {α : Type} {t : Sem α} {Q : α → Shared → Prop} {E : Value → Shared → Prop} {s0 : Shared} {h : Heap} {tk : Nat} (H : ∀ tk', wpAny M A t Q E { s0 with heap := h, toks := tk' }) : wpAny M A t Q E { s0 with heap := h, toks := tk } := H tk
theorem newTup2I {M : Model} {A : Around} {E : Value → Shared → Prop} {s : Shared} {h₀ : Heap} {L : Addr} {m : Str → Option Value} {news : List (Addr × Obj)} {a b : Int} {t1 t2 : Tok} {Q : Value → Shared → Prop} (F : Fr h₀ L s.heap m) (N : News h₀ L s.heap news)
    (h : ∀ D h' t1' t2', Fr h₀ L h' m → News h₀ L h' ((D, tup2 (.int a t1') (.int b t2')) :: news) → (∀ p ∈ news, p.1 < D) → @LT.lt Nat _ L D → Q (.ref D) { s with heap := h' }) : wpAny M A (newTuple [.int a t1, .int b t2]) Q E s :=
  newTupleL F N (Nat.le_of_ble_eq_true rfl) fun D h' F' N' l1 l2 => h D h' t1 t2 F' N' l1 l2
set_option maxRecDepth 100000 in
set_option maxHeartbeats 8000000 in
theorem lawRest {w : World} {p : Program} {loose : List Str} {mean : ExcName → Option Value} {mg mb : Str → Option Value} {fa : Addr} {cd : Value}
    {g : Heap} {L nu c : Nat} {m : Str → Option Value} {s : Shared} {Q : Flow → Shared → Prop} {E : Value → Shared → Prop} {n0 n1 n2 : Int} {t0 t1 t2 : Tok} {o1 o2 o3 o4 o5 o6 o7 o9 : Obj}
    (hE : PassesOwn (model PySem.Challenge.rw_pg0188_01.row.prog w) (callerA.deeper (envW L fa cd)) (envW L fa cd) E) (BB : Below callerA g [] g) (X : (Mine.hd.heap_39 w.params).In g) (T : Top p loose mean mg mb g) (C1 : CodeHd g 91 87) (C2 : CodeHd g 98 94)
    (F : Fr g L s.heap m) (hm : m (Str.ofString "numbers") = some (.ref nu)) (d1 : o1.data = .cell none) (d2 : o2.data = .cell none) (d3 : o3.data = .cell none) (d4 : o4.data = .cell none) (d5 : o5.data = .cell none) (d6 : o6.data = .cell none)
    (hne : L + 6 < nu) (hL : 94 < L)
    (N : News g L s.heap [(L + 1, o1), (L + 2, o2), (L + 3, o3), (L + 4, o4), (L + 5, o5), (L + 6, o6), (nu, W.listOf [.int n0 t0, .int n1 t1, .int n2 t2].toArray c), (87, o7), (94, o9)]) (t7 : o7 = tabObj #[]) (t9 : o9 = tabObj #[])
    (hQ : ∀ h' tk' m', Fr g L h' m' → GrownAt 87 h' → GrownAt 94 h' → Q (.ret (.bool true)) { s with heap := h', toks := tk' }) :
    wpAny (model PySem.Challenge.rw_pg0188_01.row.prog w) (callerA.deeper (envW L fa cd)) (execs ((sBody st15).drop 2) (envW L fa cd)) Q E s := by
  k_with "newTuple" => ((rename Shared => sS9); (k_dflt (refine Mine.fold (s0 := sS9) ?_)); intro _; refine' Mine.newTup2I (by k_asm) (by k_asm) ?_; k_whole; (intro _ _ _ _ _ _); walk_at "my lt2")
  k_with "eval Name" => (refine' nameX_L (by k_asm) (by assumption) ?_ rfl rfl; k_whole)
  k_with "binaryOp Pow int int" => (refine Mine.powX (by omega) (by omega) (by omega) (by omega) ?_; k_whole; intro _ _ _ _)
  k_with "binaryOp Mult int int" => (refine Mine.mulS (by omega) ?_; k_whole)
  k_with "execs cons" => ((with_reducible show wpAny _ _ (execs (Stmt.Assign [PySem.Expr.Name (Str.ofString "manager") _] _ _ :: _) _) _ _ _); refine Mine.Stop.go ?_)
  k_with "subscriptTail Name Constant ref int" => ((with_reducible show wpAny _ _ (subscriptTail _ _ (Value.ref _) (Value.int _ _)) _ _ _); with_unfolding_all refine' Mine.subNth (by k_dflt k_asm) (by k_dflt k_mem) (by decide) (by decide) (by exact rfl) ?_ (by with_unfolding_all rfl); k_whole)
  revert X
  k_fill
  intro X
  have hb : (sBody st15).drop 2 = (sBody st15).drop 2 := rfl
  conv at hb => rhs; whnf
  have hs : sScope st15 = sScope st15 := rfl
  conv at hs => rhs; whnf
  have f1 : (n1.fdiv 2807).fmod 5 = n1 / 2807 % 5 := by rw [Int.fmod_eq_emod_of_nonneg _ (by decide), Int.fdiv_eq_ediv_of_nonneg _ (by decide)]
  have f2 : (n1.fdiv 14035).fmod 9 = n1 / 14035 % 9 := by rw [Int.fmod_eq_emod_of_nonneg _ (by decide), Int.fdiv_eq_ediv_of_nonneg _ (by decide)]
  have f3 : (n1.fdiv 7).fmod 401 = n1 / 7 % 401 := by rw [Int.fmod_eq_emod_of_nonneg _ (by decide), Int.fdiv_eq_ediv_of_nonneg _ (by decide)]
  have f4 : (n2.fdiv 7).fmod 401 = n2 / 7 % 401 := by rw [Int.fmod_eq_emod_of_nonneg _ (by decide), Int.fdiv_eq_ediv_of_nonneg _ (by decide)]
  have f5 : n1.fmod 7 = n1 % 7 := Int.fmod_eq_emod_of_nonneg _ (by decide)
  have f6 : n2.fmod 7 = n2 % 7 := Int.fmod_eq_emod_of_nonneg _ (by decide)
  have f0 : n0.fmod 5 = n0 % 5 := Int.fmod_eq_emod_of_nonneg _ (by decide)
  refine (id ?_ : wpAny _ _ _ _ _ _)
  (try k_fold)
  dsimp only [envW] at F N ⊢
  rw [hb, hs]
  clear hb hs
  w_on
  w_strict k_steps
  unfold Stop
  rename Fr g L _ _ => F1
  rename News g L _ _ => N1
  rename _ = Data.cell (some (Value.int (2 + n0.fmod 5) _)) => d1n
  rename (0 : Int) < _ => hz0
  rename _ ≤ (1296 : Int) => hz1
  have b1 := mulB (b := 1 + (n1.fdiv 14035).fmod 9) hz0 hz1 (by omega) (by omega)
  have b2 := mulN (x := (n2.fdiv 7).fmod 401 - 200) (b := 1 + (2 + n0.fmod 5)) (by omega) (by omega) (by omega) (by omega)
  have b3 := mulT (b := 2 + n0.fmod 5) (t := n2.fmod 7 - 3) (by omega) (by omega) (by omega) (by omega)
  with_unfolding_all refine lawRest2 hE BB X T C1 C2 F1 rfl (drop3 N1) d1n d2 d3 d4 d5 d6 t7 t9 hL (by omega) (by omega) (by omega) ?_ ?_ ?_ ?_ ?_ ?_ hQ
  all_goals (constructor <;> omega)
  k_with_none
end Mine
end
section
open PySem PySem.W PyProof.Rows PyProof.Rows.LCg PySem.Calls PySem.Spec
namespace Mine
theorem three {f : Int → Int} : ∀ ns : List Int, ∃ n0 n1 n2, (ns.take 3).map f ++ [(1 : Int), 7054, 1430].drop ((((ns.take 3).map f).length : Nat) : Int).toNat = [n0, n1, n2]
  | [] => ⟨_, _, _, rfl⟩
  | [a] => ⟨_, _, _, rfl⟩
  | [a, b] => ⟨_, _, _, rfl⟩
  | a :: b :: c :: r => ⟨f a, f b, f c, rfl⟩
theorem ints3 {ws : List Value} {a b c : Int} (h : IntsAre ws [a, b, c]) : ∃ t0 t1 t2, ws = [Value.int a t0, Value.int b t1, Value.int c t2] := by
  cases h with | cons _ t0 h => cases h with | cons _ t1 h => cases h with | cons _ t2 h => cases h; exact ⟨t0, t1, t2, rfl⟩
set_option maxRecDepth 100000 in
set_option maxHeartbeats 8000000 in
theorem lawTop {w : World} {p : Program} {loose : List Str} {mean : ExcName → Option Value} {mg mb : Str → Option Value} {fa : Addr} {cd : Value}
    {g : Heap} {L ax : Nat} {vs : List Value} {ns : List Int} {m : Str → Option Value} {s : Shared} {Q : Flow → Shared → Prop} {E : Value → Shared → Prop} {o1 o2 o3 o4 o5 o6 o7 o9 : Obj}
    (hE : PassesOwn (model PySem.Challenge.rw_pg0188_01.row.prog w) (callerA.deeper (envW L fa cd)) (envW L fa cd) E) (BB : Below callerA g [] g) (X : (Mine.hd.heap_39 w.params).In g) (T : Top p loose mean mg mb g) (C1 : CodeHd g 91 87) (C2 : CodeHd g 98 94)
    (F : Fr g L s.heap m) (hm : m (Str.ofString "script") = some (.ref ax)) (hl : g.IsList ax vs.toArray) (hI : IntsAre vs ns) (hlen : ns.length ≤ 63)
    (d1 : o1.data = .cell none) (d2 : o2.data = .cell none) (d3 : o3.data = .cell none) (d4 : o4.data = .cell none) (d5 : o5.data = .cell none) (d6 : o6.data = .cell none)
    (t7 : o7 = tabObj #[]) (t9 : o9 = tabObj #[]) (hL : 94 < L)
    (N : News g L s.heap [(L + 1, o1), (L + 2, o2), (L + 3, o3), (L + 4, o4), (L + 5, o5), (L + 6, o6), (87, o7), (94, o9)])
    (hQ : ∀ h' tk' m', Fr g L h' m' → GrownAt 87 h' → GrownAt 94 h' → Q (.ret (.bool true)) { s with heap := h', toks := tk' }) :
    wpAny (model PySem.Challenge.rw_pg0188_01.row.prog w) (callerA.deeper (envW L fa cd)) (execs (sBody st15) (envW L fa cd)) Q E s := by
  k_with "eval Name" => (refine' nameX_L (by k_asm) (by assumption) ?_ rfl rfl; k_whole)
  k_with "execs cons" => ((with_reducible show wpAny _ _ (execs (Stmt.Assign [PySem.Expr.Name (Str.ofString "base") _] _ _ :: _) _) _ _ _); refine Mine.Stop.go ?_)
  k_with "subscriptTail Name Slice ref ref" => ((with_reducible show wpAny _ _ (subscriptTail _ (PySem.Expr.Slice none (some _) none _) (Value.ref _) (Value.ref _)) _ _ _); (k_dflt (refine' kmk_slice_ints (by k_asm) (by k_asm) (by kmk_list) (by kmk_part) (by kmk_part) (by first | assumption | l_ints) (by exact kmk_upto (by first | assumption | l_ints) (by first | decide | omega)) (by exact rfl) ?_ (by with_unfolding_all rfl) (by kmk_pure) (by kmk_size))); (intro _ _ _ _ _ l9 _ _ _); (try k_lt l9))
  k_with "subscriptTail Name Slice ref ref" => ((with_reducible show wpAny _ _ (subscriptTail _ (PySem.Expr.Slice (some _) none none _) (Value.ref _) (Value.ref _)) _ _ _); (k_dflt (refine' kmk_slice_ints (by k_asm) (by k_asm) (by kmk_list) (by kmk_part) (by kmk_part) (by l_ints) (by exact kmk_from (by l_ints) (by omega)) (by exact rfl) ?_ (by with_unfolding_all rfl) (by kmk_pure) (by kmk_size))); (intro _ _ _ _ _ l9 _ _ _); (try k_lt l9))
  revert X
  k_fill
  intro X
  have hb : sBody st15 = sBody st15 := rfl
  conv at hb => rhs; whnf
  have hs : sScope st15 = sScope st15 := rfl
  conv at hs => rhs; whnf
  refine (id ?_ : wpAny _ _ _ _ _ _)
  (try k_fold)
  dsimp only [envW] at F N ⊢
  rw [hb, hs]
  clear hb hs
  w_on
  w_strict k_steps
  unfold Stop
  rename Fr g L _ _ => F1
  rename News g L _ _ => N1
  rename List Value => ws
  rename IntsAre ws _ => hws
  obtain ⟨n0, n1, n2, e3⟩ := three (f := fun k' => k'.fmod (10 ^ Int.toNat 6)) ns
  have hws' : IntsAre ws [n0, n1, n2] := by rw [← e3]; exact hws
  obtain ⟨t0, t1, t2, rfl⟩ := ints3 hws'
  clear hws hws' e3
  with_unfolding_all refine lawRest (c := 0) (n0 := n0) (n1 := n1) (n2 := n2) (t0 := t0) (t1 := t1) (t2 := t2) hE BB X T C1 C2 F1 rfl d1 d2 d3 d4 d5 d6 (by omega) hL (cb_drop N1 ?_) t7 t9 hQ
  refine subC (by k_mem) (subC (by k_mem) (subC (by k_mem) (subC (by k_mem) (subC (by k_mem) (subC (by k_mem) (subC (by k_mem) (subC (by k_mem) (subC (by k_mem) ?_))))))))
  exact fun q hq => absurd hq List.not_mem_nil
  k_with_none
end Mine
end
open PySem PySem.W PyProof.Rows PyProof.Rows.LCg PySem.Calls PySem.Spec
namespace Mine
theorem reord {h₀ h : Heap} {L : Addr} {p1 p2 p3 p4 p5 p6 p7 p8 : Addr × Obj} (N : News h₀ L h [p6, p5, p4, p3, p2, p1, p8, p7]) : News h₀ L h [p1, p2, p3, p4, p5, p6, p7, p8] :=
  cb_drop N (by
    refine subC (by k_mem) (subC (by k_mem) (subC (by k_mem) (subC (by k_mem) (subC (by k_mem) (subC (by k_mem) (subC (by k_mem) (subC (by k_mem) ?_)))))))
    exact fun q hq => absurd hq List.not_mem_nil)
end Mine
set_option maxRecDepth 100000 in
set_option maxHeartbeats 8000000 in
theorem PySem.Challenge.cw_pg0188_01_holds : PySem.Challenge.rw_pg0188_01.Holds := by
  k_with "execs cons" => ((with_reducible show wpAny _ _ (execs (Stmt.Assign [PySem.Expr.Name (Str.ofString "drawn") _] _ _ :: _) _) _ _ _); refine Mine.Stop.go ?_)
  exact Mine.hd (by
  w_strict (k_go0; (all_goals try k_fold); k_steps)
  unfold Mine.Stop
  dsimp only
  rename Fr _ _ _ _ => F1
  rename News _ _ _ _ => N1
  with_unfolding_all refine' Mine.lawTop ?hE ?B ?X ?T ?C1 ?C2 ?F ?hm ?hl ?hI ?hn ?d1 ?d2 ?d3 ?d4 ?d5 ?d6 ?t7 ?t9 ?hL ?N ?hQ
  case F => exact F1
  case N => exact Mine.reord N1
  case hm => exact rfl
  case t7 => exact rfl
  case t9 => exact rfl
  case hE => passes_own
  case B => assumption
  case X => assumption
  case T => assumption
  case C1 => assumption
  case C2 => assumption
  case hl => assumption
  case hI => assumption
  case hn => omega
  case hL => omega
  case d1 => assumption
  case d2 => assumption
  case d3 => assumption
  case d4 => assumption
  case d5 => assumption
  case d6 => assumption
  case hQ =>
    intro h' tk' m' F2 g7 g9
    refine ⟨?_, g9, g7, trivial⟩
    clear N1 F1
    dsimp only
    w_strict k_steps)
  k_with_none
