import PyProof.Rows.All
import Wide.All
import OpenK.AllK
import Wide.FinOn
import PySem.Challenge.RW_we0025_01
open PySem PySem.W PyProof.Rows
set_option Elab.async false
set_option maxRecDepth 100000
set_option maxHeartbeats 8000000
namespace Mine
section
local macro_rules | `(tactic| o_head $_) => `(tactic| skip)
theorem pre : False → PySem.Challenge.rw_we0025_01.row.Holds := by
  intro h
  k_head
  exact h.elim
end
end Mine

section
open PySem
namespace Mine
def digsN (b : Nat) : Nat → Nat → List Nat
  | 0, _ => []
  | k + 1, x => x % 2 ^ b :: digsN b k (x / 2 ^ b)
theorem digs_len (b : Nat) : ∀ k x, (digsN b k x).length = k
  | 0, _ => rfl
  | k + 1, x => by rw [digsN, List.length_cons, digs_len b k]
theorem digs_split (b : Nat) : ∀ k₁ k₂ x, digsN b (k₁ + k₂) x = digsN b k₁ (x % 2 ^ (k₁ * b)) ++ digsN b k₂ (x / 2 ^ (k₁ * b))
  | 0, k₂, x => by simp [digsN]
  | k₁ + 1, k₂, x => by
    rw [show k₁ + 1 + k₂ = (k₁ + k₂) + 1 from by omega, digsN, digs_split b k₁ k₂, digsN]
    have e : 2 ^ ((k₁ + 1) * b) = 2 ^ b * 2 ^ (k₁ * b) := by rw [← Nat.pow_add]; congr 1; rw [Nat.succ_mul]; omega
    rw [e, Nat.mod_mul_right_mod, Nat.mod_mul_right_div_self, List.cons_append, Nat.div_div_eq_div_mul]
/-- the digits' value -/
def valN (b : Nat) : List Nat → Nat
  | [] => 0
  | d :: r => d + 2 ^ b * valN b r
theorem val_digs (b : Nat) : ∀ k x, x < 2 ^ (k * b) → valN b (digsN b k x) = x
  | 0, x, h => by simp at h; subst h; rfl
  | k + 1, x, h => by
    have e : 2 ^ ((k + 1) * b) = 2 ^ b * 2 ^ (k * b) := by rw [← Nat.pow_add]; congr 1; rw [Nat.succ_mul]; omega
    rw [e] at h
    rw [digsN, valN, val_digs b k _ (Nat.div_lt_of_lt_mul h)]
    exact Nat.mod_add_div x (2 ^ b)
theorem digs_lt (b : Nat) : ∀ k x, ∀ d ∈ digsN b k x, d < 2 ^ b
  | 0, _, _, h => nomatch h
  | k + 1, x, d, h => by
    rcases List.mem_cons.mp h with rfl | h
    · exact Nat.mod_lt _ (Nat.two_pow_pos b)
    · exact digs_lt b k _ d h
def fill (ns : List Int) (b lo k x : Nat) : List Int := ns.take lo ++ (digsN b k x).map Int.ofNat ++ ns.drop (lo + k)
theorem fill_len {ns : List Int} {b lo k x : Nat} (h : lo + k ≤ ns.length) : (fill ns b lo k x).length = ns.length := by
  unfold fill
  simp only [List.length_append, List.length_take, List.length_map, digs_len, List.length_drop]
  omega
theorem fill_one {ns : List Int} {b lo x : Nat} (h : lo + 1 ≤ ns.length) (hx : x < 2 ^ b) : ns.set lo (x : Int) = fill ns b lo 1 x := by
  unfold fill
  simp only [digsN, List.map_cons, List.map_nil, Nat.mod_eq_of_lt hx]
  rw [List.set_eq_take_append_cons_drop, if_pos (by omega)]
  simp
theorem fill_two {ns : List Int} {b lo k₁ k₂ x : Nat} (h : lo + (k₁ + k₂) ≤ ns.length) :
    fill (fill ns b lo k₁ (x % 2 ^ (k₁ * b))) b (lo + k₁) k₂ (x / 2 ^ (k₁ * b)) = fill ns b lo (k₁ + k₂) x := by
  unfold fill
  rw [digs_split]
  have hA : (List.take lo ns ++ List.map Int.ofNat (digsN b k₁ (x % 2 ^ (k₁ * b)))).length = lo + k₁ := by
    simp only [List.length_append, List.length_take, List.length_map, digs_len]; omega
  rw [List.take_append_of_le_length (by omega), List.take_of_length_le (by omega)]
  have e : lo + k₁ + k₂ - (lo + k₁) = k₂ := by omega
  have e2 : lo + (k₁ + k₂) = lo + k₁ + k₂ := by omega
  rw [List.drop_append, List.drop_of_length_le (by omega), hA, List.nil_append, e, List.drop_drop, List.map_append, e2]
  simp only [List.append_assoc]
theorem and_nat (x S : Nat) : x &&& (x / 2 ^ S * 2 ^ S) = x / 2 ^ S * 2 ^ S := by
  apply Nat.eq_of_testBit_eq
  intro i
  rw [Nat.testBit_and, Nat.mul_comm, Nat.testBit_two_pow_mul, Nat.testBit_div_two_pow]
  by_cases h : S ≤ i
  · have e : i - S + S = i := by omega
    simp [h, e]
  · simp [h]
theorem xor_int_eq (x S : Nat) : Builtin.bitXor (x : Int) ((x / 2 ^ S * 2 ^ S : Nat) : Int) = ((x % 2 ^ S : Nat) : Int) := by
  rw [PyProof.Rows.bitXor_and]
  have e : Builtin.bitAnd (x : Int) ((x / 2 ^ S * 2 ^ S : Nat) : Int) = ((x &&& (x / 2 ^ S * 2 ^ S) : Nat) : Int) := by
    unfold Builtin.bitAnd
    rw [decide_eq_true (Int.natCast_nonneg _), decide_eq_true (Int.natCast_nonneg _)]
    rfl
  rw [e, and_nat]
  have h := Nat.mod_add_div x (2 ^ S)
  rw [Nat.mul_comm] at h
  generalize x / 2 ^ S * 2 ^ S = y at *
  generalize x % 2 ^ S = z at *
  omega
theorem val_append (b : Nat) : ∀ (l r : List Nat), valN b (l ++ r) = valN b l + 2 ^ (l.length * b) * valN b r
  | [], r => by simp [valN]
  | d :: l, r => by
    have e : 2 ^ ((l.length + 1) * b) = 2 ^ b * 2 ^ (l.length * b) := by rw [← Nat.pow_add]; congr 1; rw [Nat.succ_mul]; omega
    rw [List.cons_append, valN, valN, val_append b l r, List.length_cons, e, Nat.mul_add, Nat.mul_assoc, Nat.add_assoc]
theorem val_lt (b : Nat) : ∀ (l : List Nat), (∀ d ∈ l, d < 2 ^ b) → valN b l < 2 ^ (l.length * b)
  | [], _ => by simp [valN]
  | d :: l, h => by
    have e : 2 ^ ((l.length + 1) * b) = 2 ^ b * 2 ^ (l.length * b) := by rw [← Nat.pow_add]; congr 1; rw [Nat.succ_mul]; omega
    have h1 := h d (.head _)
    have h2 := val_lt b l fun x hx => h x (.tail _ hx)
    rw [valN, List.length_cons, e]
    have h3 : 2 ^ b * (valN b l + 1) ≤ 2 ^ b * 2 ^ (l.length * b) := Nat.mul_le_mul_left _ h2
    rw [Nat.mul_add, Nat.mul_one] at h3
    omega
def cut (ds : List Nat) (lo k : Nat) : List Nat := (ds.drop lo).take k
theorem cut_len {ds : List Nat} {lo k : Nat} (h : lo + k ≤ ds.length) : (cut ds lo k).length = k := by
  unfold cut
  simp only [List.length_take, List.length_drop]
  omega
theorem cut_two (ds : List Nat) (lo k₁ k₂ : Nat) : cut ds lo (k₁ + k₂) = cut ds lo k₁ ++ cut ds (lo + k₁) k₂ := by
  unfold cut
  rw [List.take_add, List.drop_drop]
theorem cut_one {ds : List Nat} {lo : Nat} (b : Nat) (h : lo + 1 ≤ ds.length) : valN b (cut ds lo 1) = ds.getD lo 0 := by
  unfold cut
  have h' : lo < ds.length := h
  rw [List.drop_eq_getElem_cons h', List.take_succ_cons, List.take_zero, valN, valN, List.getD_eq_getElem?_getD, List.getElem?_eq_getElem h']
  rfl
theorem cut_mem {ds : List Nat} {lo k : Nat} : ∀ d ∈ cut ds lo k, d ∈ ds := fun d h => List.mem_of_mem_drop (List.mem_of_mem_take h)
theorem cut_all (ds : List Nat) : cut ds 0 ds.length = ds := by
  unfold cut
  rw [List.drop_zero, List.take_length]
theorem getD_cast (ds : List Nat) (i : Nat) : (ds.map Int.ofNat).getD i 0 = ((ds.getD i 0 : Nat) : Int) := by
  rw [List.getD_eq_getElem?_getD, List.getD_eq_getElem?_getD, List.getElem?_map]
  cases ds[i]? <;> rfl
end Mine
end
section
open PySem PySem.W PyProof.Rows
set_option Elab.async false
set_option maxRecDepth 100000
set_option maxHeartbeats 8000000
namespace Mine
/-- what a call promises: to a value that R allows, with the new objects of tl ahead of the ledger -/
def Con (w : World) (f : Addr) (news : List (Addr × Obj)) (vs : List Value) (d u : Nat) (R : Value → List (Addr × Obj) → Prop) : Prop :=
  ∀ (dp un : Nat) (gd : Option (List Code)) (cn : Str) (cs : Scope) (a : Addr) (ccd : Value) (cl : List (Str × Addr)) (outer : List Env) (A₀ : Around) (base h₀ : Heap) (L : Addr) (m : Str → Option Value) (s : Shared) (Q E : Value → Shared → Prop)
    (p : Program) (loose : List Str) (mean : ExcName → Option Value) (mg mb : Str → Option Value),
    Below A₀ base outer h₀ → Fr h₀ L s.heap m → (pre.heap_1 w.params).In h₀ → News h₀ L s.heap news → Top p loose mean mg mb h₀ → cs.kind = .function → dp + d < recursionLimit → un + u < cLine →
    (∀ v tl h' tk', R v tl → Fr h₀ L h' m → News h₀ L h' (tl ++ news) → (∀ q ∈ news, ∀ p ∈ tl, q.1 < p.1) → Q v { s with heap := h', toks := tk' }) →
    wpAny (model PySem.Challenge.rw_we0025_01.row.prog w) (ktrTop dp un gd cn cs L a ccd cl outer) (call (.ref f) vs) Q E s

def portOf (n : Int) : Int := Int.fmod (Int.fdiv n 6) 41 - 20
def IsInt (i : Int) : Value → List (Addr × Obj) → Prop := fun v tl => (∃ t, v = .int i t) ∧ tl = []

theorem port_con (w : World) (news : List (Addr × Obj)) (n : Int) (t : Tok) : Con w 124 news [.int n t] 1 8 (IsInt (portOf n)) := by
  intro dp un gd cn cs a ccd cl outer A₀ base h₀ L m s Q E p loose mean mg mb B F X N T hk hd hu hret
  revert X
  k_fill
  intro X
  refine wpAny_call ?_
  k_dflt (refine' code_def (binds := [(Str.ofString "number", .int n t)]) ?k1 ?k2 ?k3 ?k4 ?k5 ?kA ?kF ?kK ?k6 ?k7 ?k8 ?k9 ?kB ?_ ?c2 ?c3 ?c4 ?c5; (case kA => exact rfl); (case kF => exact rfl); (case kK => assumption); (case k1 => k_asm); (case k2 => k_asm); (case k3 => k_asm); (case k4 => k_asm); (case k5 => k_asm); (case k6 => k_is); (case k7 => k_is); (case k8 => ktr_room); (case k9 => exact BindsTo.of_eq rfl); (case c5 => decide); (case kB => exact locs rfl); (case c2 => exact rfl); (case c3 => exact rfl); (case c4 => exact rfl); k_whole; intro g' L' h' FG' F' N' B' X' T'; (try dsimp only); (try k_fold))
  k_steps
  exact hret _ [] _ _ ⟨⟨_, rfl⟩, rfl⟩ (by assumption) (by assumption) (fun _ _ _ h9 => nomatch h9)

/-- a while by an invariant over a state of our own and a measure -/
def Back {σ : Type} (I : σ → Shared → Prop) (μ : σ → Nat) (c : σ) (s : Shared) : Prop := ∃ c', μ c' < μ c ∧ I c' s
def WPost {σ : Type} (I : σ → Shared → Prop) (μ : σ → Nat) (c : σ) (Q : Flow → Shared → Prop) (f : Flow) (s : Shared) : Prop :=
  match f with
  | .next => Back I μ c s
  | .cont => Back I μ c s
  | .brk => Q .next s
  | .ret v => Q (.ret v) s
theorem while_inv {σ : Type} {prog : Program} {w : World} {A : Around} {E : Value → Shared → Prop} {s : Shared} {env : Env} {test : PySem.Expr} {body orelse : List Stmt} {Q : Flow → Shared → Prop} {pos : Pos}
    (I : σ → Shared → Prop) (μ : σ → Nat) (c : σ) (hI : I c s) (hE : PassesOwn (model prog w) A env E)
    (turn : ∀ c s, I c s → wpAny (model prog w) A (isTrue test env (eval test env)) (fun b s₂ => WhlIf b (wpAny (model prog w) A (execs body env) (WPost I μ c Q) E s₂) (wpAny (model prog w) A (execs orelse env) Q E s₂)) E s) :
    wpAny (model prog w) A (exec (.While test body orelse pos) env) Q E s := by
  refine whl_start 0 ?_
  have all : ∀ n c s, μ c < n → I c s → WhlRest prog w A E env test body orelse Q 0 s := by
    intro n
    induction n with
    | zero => intro c s h; exact absurd h (Nat.not_lt_zero _)
    | succ n ih =>
      intro c s h hI
      have T : WhlRest prog w A E env test body orelse Q (0 + 1) s := by
        refine whl_turn hE (wpAny_mono (turn c s hI) (fun b s₂ hb => ?_) fun _ _ x => x)
        unfold WhlIf at hb ⊢
        split
        · rename_i e
          rw [if_pos e] at hb
          refine wpAny_mono hb (fun f s₃ hf => ?_) fun _ _ x => x
          cases f with
          | next => obtain ⟨c', h1, h2⟩ := hf; exact ih c' s₃ (by omega) h2
          | cont => obtain ⟨c', h1, h2⟩ := hf; exact ih c' s₃ (by omega) h2
          | brk => exact hf
          | ret v => exact hf
        · rename_i e
          rw [if_neg e] at hb
          exact hb
      exact T
  exact all _ c s (Nat.lt_succ_self _) hI

/-- where the walk is to wait for us -/
def Stop (P : Prop) : Prop := P
theorem stop_while {M : Model} {A : Around} {E : Value → Shared → Prop} {s : Shared} {env : Env} {test : PySem.Expr} {body orelse : List Stmt} {Q : Flow → Shared → Prop} {pos : Pos}
    (h : Stop (wpAny M A (exec (.While test body orelse pos) env) Q E s)) : wpAny M A (exec (.While test body orelse pos) env) Q E s := h
theorem fr_as {h₀ h : Heap} {L : Addr} {m m' : Str → Option Value} (F : Fr h₀ L h m) (e : ∀ y, m y = m' y) : Fr h₀ L h m' := (funext e : m = m') ▸ F
theorem drop_news {h₀ h : Heap} {L : Addr} {news news' : List (Addr × Obj)} (N : News h₀ L h news') (hs : ∀ p ∈ news, p ∈ news') : News h₀ L h news := fun p hp => N p (hs p hp)
theorem whl_split {p : Prop} {d : Decidable p} {T F : Prop} (hT : p → T) (hF : ¬ p → F) : WhlIf (@decide p d) T F := by
  unfold WhlIf
  split
  · exact hT (of_decide_eq_true (by assumption))
  · exact hF (fun h => absurd (decide_eq_true h) (by assumption))
theorem con_call {w : World} {f : Addr} {news : List (Addr × Obj)} {vs : List Value} {d u : Nat} {R : Value → List (Addr × Obj) → Prop} {dp un : Nat} {gd : Option (List Code)} {cn : Str} {cs : Scope} {a : Addr} {ccd : Value} {cl : List (Str × Addr)} {outer : List Env} {A₀ : Around} {base h₀ : Heap} {L : Addr} {m : Str → Option Value} {s : Shared} {Q E : Value → Shared → Prop}
    {p : Program} {loose : List Str} {mean : ExcName → Option Value} {mg mb : Str → Option Value} (C : Con w f news vs d u R)
    (B : Below A₀ base outer h₀) (F : Fr h₀ L s.heap m) (X : (pre.heap_1 w.params).In h₀) (N : News h₀ L s.heap news) (T : Top p loose mean mg mb h₀) (hk : cs.kind = .function) (hd : dp + d < recursionLimit) (hu : un + u < cLine)
    (ret : ∀ v tl h' tk', R v tl → Fr h₀ L h' m → News h₀ L h' (tl ++ news) → (∀ q ∈ news, ∀ p ∈ tl, q.1 < p.1) → Q v { s with heap := h', toks := tk' }) :
    wpAny (model PySem.Challenge.rw_we0025_01.row.prog w) (ktrTop dp un gd cn cs L a ccd cl outer) (call (.ref f) vs) Q E s := C _ _ _ _ _ _ _ _ _ _ _ _ _ _ _ _ _ _ _ _ _ _ B F X N T hk hd hu ret
theorem nil_news {h₀ h : Heap} {L : Addr} {news : List (Addr × Obj)} (N : News h₀ L h ([] ++ news)) : News h₀ L h news := N
theorem one_news {h₀ h : Heap} {L : Addr} {x : Addr × Obj} {news : List (Addr × Obj)} (N : News h₀ L h ([x] ++ news)) : News h₀ L h (x :: news) := N
theorem one_lt {l : Addr} {o : Obj} {news : List (Addr × Obj)} (h : ∀ q ∈ news, ∀ p ∈ [(l, o)], q.1 < p.1) : ∀ q ∈ news, q.1 < l := fun q hq => h q hq _ (.head _)
/-- a contract whose call changes the ledger: R tells the whole ledger behind it -/
def ConG (w : World) (f : Addr) (news : List (Addr × Obj)) (vs : List Value) (d u : Nat) (R : Value → List (Addr × Obj) → Prop) : Prop :=
  ∀ (dp un : Nat) (gd : Option (List Code)) (cn : Str) (cs : Scope) (a : Addr) (ccd : Value) (cl : List (Str × Addr)) (outer : List Env) (A₀ : Around) (base h₀ : Heap) (L : Addr) (m : Str → Option Value) (s : Shared) (Q E : Value → Shared → Prop)
    (p : Program) (loose : List Str) (mean : ExcName → Option Value) (mg mb : Str → Option Value),
    Below A₀ base outer h₀ → Fr h₀ L s.heap m → (pre.heap_1 w.params).In h₀ → News h₀ L s.heap news → Top p loose mean mg mb h₀ → cs.kind = .function → dp + d < recursionLimit → un + u < cLine →
    (∀ v led h' tk', R v led → Fr h₀ L h' m → News h₀ L h' led → Q v { s with heap := h', toks := tk' }) →
    wpAny (model PySem.Challenge.rw_we0025_01.row.prog w) (ktrTop dp un gd cn cs L a ccd cl outer) (call (.ref f) vs) Q E s
theorem codeHd_of {K : Frag} {h : Heap} {c P : Addr} {d : Option Addr} {vs : Array Value} {sl : Array (Option Value)} {file : Str} {tf : Tok} {flags : Int} {tg : Tok} {inF : Bool} {text : Int} {tt : Tok} (X : K.In h) (e : K.lookup c = some ⟨.type "code", d, .fields vs, sl⟩)
    (h1 : vs[11]? = some (.ref P)) (h2 : vs.getD 11 .none = .ref P) (h3 : vs.getD 18 .none = .str file tf) (h4 : vs.getD 7 .none = .int flags tg) (h5 : vs.getD 9 .none = .bool inF) (h6 : vs.getD 10 .none = .int text tt) (h7 : c ≠ P) : CodeHd h c P :=
  ⟨_, _, file, tf, flags, tg, inF, text, tt, X _ _ e, rfl, rfl, h1, h2, h3, h4, h5, h6, h7⟩
theorem con_callG {w : World} {f : Addr} {news : List (Addr × Obj)} {vs : List Value} {d u : Nat} {R : Value → List (Addr × Obj) → Prop} {dp un : Nat} {gd : Option (List Code)} {cn : Str} {cs : Scope} {a : Addr} {ccd : Value} {cl : List (Str × Addr)} {outer : List Env} {A₀ : Around} {base h₀ : Heap} {L : Addr} {m : Str → Option Value} {s : Shared} {Q E : Value → Shared → Prop}
    {p : Program} {loose : List Str} {mean : ExcName → Option Value} {mg mb : Str → Option Value} (C : ConG w f news vs d u R)
    (B : Below A₀ base outer h₀) (F : Fr h₀ L s.heap m) (X : (pre.heap_1 w.params).In h₀) (N : News h₀ L s.heap news) (T : Top p loose mean mg mb h₀) (hk : cs.kind = .function) (hd : dp + d < recursionLimit) (hu : un + u < cLine)
    (ret : ∀ v led h' tk', R v led → Fr h₀ L h' m → News h₀ L h' led → Q v { s with heap := h', toks := tk' }) :
    wpAny (model PySem.Challenge.rw_we0025_01.row.prog w) (ktrTop dp un gd cn cs L a ccd cl outer) (call (.ref f) vs) Q E s := C _ _ _ _ _ _ _ _ _ _ _ _ _ _ _ _ _ _ _ _ _ _ B F X N T hk hd hu ret
theorem stop_call {M : Model} {A : Around} {E : Value → Shared → Prop} {s : Shared} {f : Value} {vs : List Value} {Q : Value → Shared → Prop} (h : Stop (wpAny M A (call f vs) Q E s)) : wpAny M A (call f vs) Q E s := h
def innOf (i : Nat) (o : Option Obj) : Option (Str × Arguments × List Stmt × Scope) := match o with
  | some ⟨_, _, .func fd, _⟩ => match fd.body with
    | .stmts b => match b[i]? with
      | some (.FunctionDef name params body _ _ _ scope _ _ _) => some (name, params, body, scope)
      | _ => none
    | _ => none
  | _ => none
theorem inn_open {K : Frag} {a : Addr} {o : Obj} {i : Nat} {r : Option (Str × Arguments × List Stmt × Scope)} (e : K.lookup a = some o) (h : innOf i (K.lookup a) = r) : innOf i (some o) = r := by rw [← e]; exact h
section
variable {prog : Program} {w : World} {A : Around} {E : Value → Shared → Prop} {s : Shared} {a b n r : Int} {t u : Tok} {Q : Value → Shared → Prop}
theorem rs_is (hn : 0 ≤ n) (e : a.fdiv (2 ^ n.toNat) = r) (h : Q (.int r s.toks) { s with toks := s.toks + 1 }) : wpAny (model prog w) A (binaryOp .RShift (.int a t) (.int n u)) Q E s := rshift_int hn (by rw [e]; exact h)
theorem ls_is (hn : 0 ≤ n) (hsz : (Builtin.Int.intBits a : Int) + n ≤ 2 ^ 27) (e : a * 2 ^ n.toNat = r) (h : Q (.int r s.toks) { s with toks := s.toks + 1 }) : wpAny (model prog w) A (binaryOp .LShift (.int a t) (.int n u)) Q E s := lshift_int hn hsz (by rw [e]; exact h)
theorem mul_is (hm : IntMulOk a b) (e : a * b = r) (h : Q (.int r s.toks) { s with toks := s.toks + 1 }) : wpAny (model prog w) A (binaryOp .Mult (.int a t) (.int b u)) Q E s := PyProof.Rows.mul_int (by rw [e]; exact h) hm
theorem xor_is (e : Builtin.bitXor a b = r) (h : Q (.int r s.toks) { s with toks := s.toks + 1 }) : wpAny (model prog w) A (binaryOp .BitXor (.int a t) (.int b u)) Q E s := xor_int (by rw [e]; exact h)
end
theorem intBits_nat {a m : Nat} (h : a < 2 ^ m) : Builtin.Int.intBits (a : Int) ≤ m := by
  unfold Builtin.Int.intBits
  split
  · exact Nat.zero_le _
  · rename_i h0
    have h1 : (a : Int).natAbs ≠ 0 := by
      intro q
      exact h0 (by rw [Int.natAbs_eq_zero.mp q]; rfl)
    exact (Nat.log2_lt h1).mpr (by rw [Int.natAbs_natCast]; exact h)
theorem six_of {k : Nat} (h : k < 6) : k = 0 ∨ k = 1 ∨ k = 2 ∨ k = 3 ∨ k = 4 ∨ k = 5 := by omega
theorem five_of {k : Nat} (h : k < 5) : k = 0 ∨ k = 1 ∨ k = 2 ∨ k = 3 ∨ k = 4 := by omega
theorem abs_neg (V : Int) : (-V).natAbs ≤ V.natAbs + 1 := by omega
theorem abs_not (V : Int) : (Builtin.bitNot V).natAbs ≤ V.natAbs + 1 := by unfold Builtin.bitNot; omega
theorem abs_add {V p : Int} (h0 : -20 ≤ p) (h1 : p ≤ 20) : (V + p).natAbs ≤ V.natAbs + 21 := by omega
theorem abs_nadd {V p : Int} (h0 : -20 ≤ p) (h1 : p ≤ 20) : (-V + p).natAbs ≤ V.natAbs + 21 := by omega
theorem abs_nsub {V p : Int} (h0 : -20 ≤ p) (h1 : p ≤ 20) : (Builtin.bitNot V - p).natAbs ≤ V.natAbs + 21 := by unfold Builtin.bitNot; omega
theorem bd_step {x y n d B : Nat} (h : x ≤ y + d) (hd : d ≤ 40) (h3 : y + 40 * (n + 1) ≤ B) : x + 40 * n ≤ B := by omega
theorem bd_two {z x y n B : Nat} (hz : z ≤ x) (h : x ≤ y + 1) (h3 : y + 40 * (n + 1) ≤ B) : z + 40 * n ≤ B := by omega
theorem bd_idm {X : Int} {y n : Nat} (h : X.natAbs ≤ y + 1) (h3 : y + 40 * (n + 1) ≤ 2 ^ 90) : X < 2 ^ 100 ∧ -X < 2 ^ 100 := by omega
theorem bd_port {p : Int} (h0 : -20 ≤ p) (h1 : p ≤ 20) : p < 2 ^ 29 ∧ -p < 2 ^ 29 := by omega
end Mine
end
section
open PySem PySem.W PyProof.Rows PySem.Calls PySem.Spec PyProof.Rows.LCg
set_option Elab.async false
set_option maxRecDepth 100000
set_option maxHeartbeats 2000000
namespace Mine
section
variable {prog : Program} {w : World} {A : Around} {E : Value → Shared → Prop} {s : Shared} {h₀ : Heap} {L : Addr} {m : Str → Option Value} {env : Env}
def EnumEnd (h₀ : Heap) (L : Addr) (m : Str → Option Value) (s : Shared) (P : Value → Prop) (news : List (Addr × Obj)) (y : Value) (s' : Shared) : Prop :=
  ∃ h' tk', s' = { s with heap := h', toks := tk' } ∧ P y ∧ Fr h₀ L h' m ∧ News h₀ L h' news
theorem EnumEnd.intro {h₀ : Heap} {L : Addr} {m : Str → Option Value} {s : Shared} {P : Value → Prop} {news news' : List (Addr × Obj)} {y : Value} {h' : Heap} {tk' : Nat} (F : Fr h₀ L h' m) (N : News h₀ L h' news') (hs : ∀ p ∈ news, p ∈ news') (hP : P y) :
    EnumEnd h₀ L m s P news y { s with heap := h', toks := tk' } := ⟨_, _, rfl, hP, F, drop_news N hs⟩
/-- what one turn of a list comprehension over enumerate owes: the element, and the ledger as it was -/
def EnumTurn (prog : Program) (w : World) (A : Around) (h₀ : Heap) (L : Addr) (m : Str → Option Value) (env : Env) (elt : PySem.Expr) (a b : Str) (scope : Scope) (cl : List (Str × Addr)) (s : Shared) (Y : Nat → Value → Prop) (news : List (Addr × Obj)) (i : Nat) (v : Value) : Prop :=
  ∀ (oC : Obj) (C e it D : Addr) (oe oi oD : Obj) (m₂ : Str → Option Value) (h : Heap) (tk : Nat) (t : Tok) (E' : Value → Shared → Prop), NsObj oC m₂ → m₂ a = some (.int (i : Int) t) → m₂ b = some v → Fr h₀ L h m → News h₀ L h ((e, oe) :: (it, oi) :: (C, oC) :: (D, oD) :: news) →
    wpAny (model prog w) A (eval elt (compEnvC scope cl C env)) (EnumEnd h₀ L m s (Y i) ((e, oe) :: (it, oi) :: (C, oC) :: (D, oD) :: news)) E' { s with heap := h, toks := tk }

theorem enum_block {elt iter : PySem.Expr} {a b : Str} {pa pb tp : Pos} {kk : Nat} {scope : Scope} {cl : List (Str × Addr)} {pos : Pos} {s₂ : Shared} {e it l : Addr} {vs : List Value} {kl : Nat} {news : List (Addr × Obj)} {Y : Nat → Value → Prop}
    {RR : Value → Addr → Result → Shared → Prop}
    (hh : A.handled = none) (hsz : vs.length ≤ sizeLine) (hei : e ≠ it) (he : IsEnum s₂.heap e it 0 .none) (hit : s₂.heap.IsListIter it l 0) (hl : (l, W.listOf vs.toArray kl) ∈ news)
    (hcell : ∀ y ∈ scope.names, y.2 ≠ .cell) (hkind : scope.kind = .function) (hxa : scope.names.lookup a = some .local) (hxb : scope.names.lookup b = some .local) (hab : ¬ a = b)
    (F : Fr h₀ L s₂.heap m) (N : News h₀ L s₂.heap news) (hLe : L ≠ e) (hLi : L ≠ it) (he₀ : h₀.get? e = none) (hi₀ : h₀.get? it = none) (offe : ∀ p ∈ news, p.1 ≠ e) (offi : ∀ p ∈ news, p.1 ≠ it)
    (R : ∀ i v, vs[i]? = some v → EnumTurn prog w A h₀ L m env elt a b scope cl s₂ Y news i v)
    (hRR : ∀ D C h tk m' ys, Fr h₀ L h m → News h₀ L h ((D, lst ys) :: news) → (∀ p ∈ news, p.1 ≠ D) → h.Ns C m' → h₀.get? C = none → h₀.get? D = none → C ≠ L → D ≠ L → C ≠ D → (∀ p ∈ news, p.1 ≠ C) → ys.length = vs.length → (∀ i y, ys[i]? = some y → Y i y) → RR (.ref D) C (.ok .next) { s₂ with heap := h, toks := tk }) :
    wpAny (model prog w) A (newList []) (fun acc s₃ => wpAny (model prog w) A (newFunctionEnv scope env.globals cl [] env.qual none .none (some env)) (fun cenv s₄ =>
      codeAny (model prog w) A (.compStart (.ListComp elt [⟨.Tuple [.Name a pa, .Name b pb] kk tp, iter, [], 0⟩] scope pos) 0 (.ref e) acc { cenv with scope := relabel scope env }) (RR acc cenv.locals) s₄) E s₃) E s₂ := by
  refine wpAny_newObj_type (wpAny_newFunctionEnv hcell (by intro y hy; simp at hy) (fun h₁ hns₁ hsb₁ => ?_) hkind)
  dsimp only at hns₁ hsb₁ ⊢
  generalize hH2 : s₂.heap.push { cls := .type "list", dict := none, data := .seq ([] : List Value).toArray } = H2 at hns₁ hsb₁ ⊢
  have hC : H2.objs.size = s₂.heap.objs.size + 1 := by rw [← hH2, Heap.size_push]
  have hDC : s₂.heap.objs.size ≠ H2.objs.size := by rw [hC]; exact Nat.ne_of_lt (Nat.lt_succ_self _)
  have below : ∀ b, b < s₂.heap.objs.size → b ≠ H2.objs.size ∧ b ≠ s₂.heap.objs.size := fun b hb => ⟨by rw [hC]; exact Nat.ne_of_lt (Nat.lt_succ_of_lt hb), Nat.ne_of_lt hb⟩
  have helt : e < s₂.heap.objs.size := Heap.lt_size he
  have hilt : it < s₂.heap.objs.size := by obtain ⟨_, x, _⟩ := hit; exact Heap.lt_size x
  have old : ∀ b o, s₂.heap.get? b = some o → h₁.get? b = some o := fun b o e => hsb₁.extBut b o (below b (Heap.lt_size e)).1 (Heap.get?_push_of_some _ (hH2 ▸ Heap.get?_push_of_some _ e))
  have hacc : h₁.get? s₂.heap.objs.size = some (lst []) := hsb₁.extBut _ _ hDC (Heap.get?_push_of_some _ (hH2 ▸ Heap.get?_push_size _ rfl))
  have fresh : ∀ a, s₂.heap.objs.size ≤ a → s₂.heap.get? a = none := fun a ha => by
    cases e : s₂.heap.get? a with
    | none => rfl
    | some o' => exact absurd (Heap.lt_size e) (Nat.not_lt.mpr ha)
  have fresh₀ : ∀ a, s₂.heap.objs.size ≤ a → h₀.get? a = none := fun a ha => by
    cases e : h₀.get? a with
    | none => rfl
    | some o' => have := F.keep a o' e; rw [fresh a ha] at this; cases this
  have hD₀ : h₀.get? s₂.heap.objs.size = none := fresh₀ _ (Nat.le_refl _)
  have hC₀ : h₀.get? H2.objs.size = none := fresh₀ _ (by rw [hC]; exact Nat.le_succ _)
  have hLlt : L < s₂.heap.objs.size := F.ns.lt
  have hDL : s₂.heap.objs.size ≠ L := Ne.symm (below L hLlt).2
  have hCL : H2.objs.size ≠ L := Ne.symm (below L hLlt).1
  have hCe : e ≠ H2.objs.size := (below e helt).1
  have hDe : e ≠ s₂.heap.objs.size := (below e helt).2
  have hCi : it ≠ H2.objs.size := (below it hilt).1
  have hDi : it ≠ s₂.heap.objs.size := (below it hilt).2
  have offC : ∀ p ∈ news, p.1 ≠ H2.objs.size := fun p hp => (below _ (Heap.lt_size (N p hp).1)).1
  have offD : ∀ p ∈ news, p.1 ≠ s₂.heap.objs.size := fun p hp => (below _ (Heap.lt_size (N p hp).1)).2
  have W := WalksT.enumerate (prog := prog) (w := w) hh e it l hei (offe _ hl) (offi _ hl) vs.toArray
  have listAt : ∀ h : Heap, News h₀ L h news → h.IsList l vs.toArray := fun h N => ⟨_, (N _ hl).1, rfl, _, rfl⟩
  have loop : ∀ s₃ : Shared, s₃ = { s₂ with heap := h₁, toks := s₂.toks + ([] : List (Str × Value)).length } →
      codeAny (model prog w) A (.compLoop (.ListComp elt [⟨.Tuple [.Name a pa, .Name b pb] kk tp, iter, [], 0⟩] scope pos) 0 (.ref e) (.ref s₂.heap.objs.size) (compEnvC scope cl H2.objs.size env))
        (RR (.ref s₂.heap.objs.size) H2.objs.size) s₃ := by
    rintro s₃ rfl
    refine kcp_loop
      (fun k s' => ∃ h' tk i ys m', s' = { s₂ with heap := h', toks := tk } ∧ i ≤ vs.length ∧ k = vs.length + 1 - i ∧ ys.length = i ∧ (∃ o, IsEnum h' e it i o) ∧ h'.IsListIter it l i ∧ Fr h₀ L h' m ∧ h'.Ns H2.objs.size m' ∧
        News h₀ L h' ((s₂.heap.objs.size, lst ys) :: news) ∧ (∀ i y, ys[i]? = some y → Y i y)) ?_ (vs.length + 1)
      ⟨h₁, _, 0, [], _, rfl, Nat.zero_le _, rfl, rfl, ⟨_, old _ _ he⟩, hit.at fun o e => old _ o e, F.keeps old, hns₁, fun p hp => ?_, fun i y hy => by simp at hy⟩
    · rintro k s' ⟨h', tk, i, ys, m', rfl, hi, rfl, hyl, ⟨oe', he'⟩, hit', F', hn', N', Y'⟩
      have Nn : News h₀ L h' news := fun p hp => N' p (.tail _ hp)
      by_cases hlt : i < vs.length
      · refine W.item i _ _ _ (by simpa using hlt) ⟨⟨_, he'⟩, hit', listAt _ Nn⟩ fun T vals h₂ tk₂ hP _ hT hMd hk₂ => ?_
        refine W.go _ _ _ i T _ _ _ hMd fun h₃ hst₃ hk₃ => ?_
        obtain ⟨t, x, hx, rfl⟩ := hP
        have hTw := W.apart _ _ _ hMd
        have hT₃ : h₃.IsTuple T #[.int (i : Int) t, x] := hT.at fun o e => hk₃ _ _ hTw e
        have up₃ : ∀ c o, c ≠ e → c ≠ it → h'.get? c = some o → h₃.get? c = some o := fun c o h1 h2 e => hk₃ c o (by simp [h1, h2]) (hk₂ c o (by simp [h1, h2]) e)
        refine kcp_assign (env := compEnvC scope cl H2.objs.size env) hh hT₃ (lookup_relabel_local hxa) (lookup_relabel_local hxb) (by simp [compEnvC, relabel, hkind]) (hn'.at' fun o e => up₃ _ o (Ne.symm hCe) (Ne.symm hCi) e) fun h₄ tk₄ hn₄ hs₄ => ?_
        have up : ∀ c o, c ≠ e → c ≠ it → c ≠ H2.objs.size → h'.get? c = some o → h₄.get? c = some o := fun c o h1 h2 h3 e => hs₄ c o h3 (up₃ c o h1 h2 e)
        obtain ⟨⟨oe, he₃⟩, hit₃, -⟩ := hst₃
        have he₄ : IsEnum h₄ e it ((i + 1 : Nat) : Int) oe := hs₄ e _ hCe he₃
        have hit₄ : h₄.IsListIter it l (i + 1) := hit₃.at fun o q => hs₄ it _ hCi q
        obtain ⟨oE, heE, hoE⟩ : ∃ oE : Obj, h₄.get? e = some oE ∧ ∀ h : Heap, h.get? e = some oE → ∃ o, IsEnum h e it ((i + 1 : Nat) : Int) o := ⟨_, he₄, fun _ q => ⟨_, q⟩⟩
        obtain ⟨oI, heI, hoI⟩ : ∃ oI : Obj, h₄.get? it = some oI ∧ ∀ h : Heap, h.get? it = some oI → h.IsListIter it l (i + 1) := by
          obtain ⟨o, q, r⟩ := hit₄
          exact ⟨o, q, fun _ q => ⟨o, q, r⟩⟩
        obtain ⟨oC, heC, hoC⟩ := ns_obj hn₄
        have F₄ : Fr h₀ L h₄ m := ⟨F'.ns.at' fun o q => up _ o hLe hLi (Ne.symm hCL) q, fun c o q => up c o (fun z => by rw [z, he₀] at q; cases q) (fun z => by rw [z, hi₀] at q; cases q) (fun z => by rw [z, hC₀] at q; cases q) (F'.keep c o q), F'.above⟩
        have N₄ : News h₀ L h₄ ((e, oE) :: (it, oI) :: (H2.objs.size, oC) :: (s₂.heap.objs.size, lst ys) :: news) := fun q hq => by
          rcases List.mem_cons.mp hq with rfl | hq
          · exact ⟨heE, Ne.symm hLe, he₀⟩
          rcases List.mem_cons.mp hq with rfl | hq
          · exact ⟨heI, Ne.symm hLi, hi₀⟩
          rcases List.mem_cons.mp hq with rfl | hq
          · exact ⟨heC, hCL, hC₀⟩
          have z := N' q hq
          refine ⟨up _ _ ?_ ?_ ?_ z.1, z.2⟩
          · rcases List.mem_cons.mp hq with rfl | hq
            · exact Ne.symm hDe
            · exact offe q hq
          · rcases List.mem_cons.mp hq with rfl | hq
            · exact Ne.symm hDi
            · exact offi q hq
          · rcases List.mem_cons.mp hq with rfl | hq
            · exact hDC
            · exact offC q hq
        have hx' : vs[i]? = some x := by simpa using hx
        refine wpAny_mono (R i x hx' oC H2.objs.size e it s₂.heap.objs.size oE oI (lst ys) _ h₄ _ t _ hoC (by simp [hab]) (by simp) F₄ N₄) (fun y s₅ h₅ => ?_) fun _ _ e => e
        obtain ⟨h₅, tk₅, rfl, Yi, F₅, N₅⟩ := h₅
        have zE := (N₅ (e, oE) (.head _)).1
        have zI := (N₅ (it, oI) (.tail _ (.head _))).1
        have zC := (N₅ (H2.objs.size, oC) (.tail _ (.tail _ (.head _)))).1
        have zD := (N₅ (s₂.heap.objs.size, lst ys) (.tail _ (.tail _ (.tail _ (.head _))))).1
        have N₅' : News h₀ L h₅ news := fun q hq => N₅ q (.tail _ (.tail _ (.tail _ (.tail _ hq))))
        refine append_at (hsz := by show ys.toArray.size ≤ sizeLine; rw [List.size_toArray, hyl]; exact Nat.le_trans hi hsz) zD fun h₆ hs₆ hD₆ => ?_
        refine ⟨vs.length + 1 - (i + 1), by omega, h₆, tk₅, i + 1, ys ++ [y], _, rfl, hlt, rfl, by rw [List.length_append, List.length_singleton, hyl], hoE h₆ (hs₆.extBut e oE hDe zE), hoI h₆ (hs₆.extBut it oI hDi zI), F₅.change hs₆ hDL hD₀,
          (hoC.ns zC).sameBut hs₆ (Ne.symm hDC), fun q hq => ?_, fun j z hz => ?_⟩
        · rcases List.mem_cons.mp hq with rfl | hq
          · exact ⟨hD₆.trans (congrArg some (lst_snoc ys y)), hDL, hD₀⟩
          · exact ⟨hs₆.extBut _ _ (offD q hq) (N₅' q hq).1, (N₅' q hq).2⟩
        · by_cases hj : j < ys.length
          · rw [List.getElem?_append_left hj] at hz
            exact Y' j z hz
          · have hj' : j = ys.length := by
              have := List.getElem?_eq_some_iff.mp hz
              obtain ⟨h, -⟩ := this
              rw [List.length_append, List.length_singleton] at h
              omega
            subst hj'
            rw [List.getElem?_append_right (Nat.le_refl _), Nat.sub_self] at hz
            cases hz
            rw [hyl]
            exact Yi
      · have hin : i = vs.length := Nat.le_antisymm hi (Nat.not_lt.mp hlt)
        subst hin
        refine W.done _ _ _ ⟨⟨_, by simpa using he'⟩, by simpa using hit', listAt _ Nn⟩ fun h₂ tk₂ hk₂ => ?_
        have up : ∀ c o, c ≠ e → c ≠ it → h'.get? c = some o → h₂.get? c = some o := fun c o h1 h2 e => hk₂ c o (by simp [h1, h2]) e
        refine hRR _ _ h₂ tk₂ _ ys ⟨F'.ns.at' fun o q => up _ o hLe hLi q, fun c o q => up c o (fun z => by rw [z, he₀] at q; cases q) (fun z => by rw [z, hi₀] at q; cases q) (F'.keep c o q), F'.above⟩ (fun q hq => ?_) offD (hn'.at' fun o e => up _ o (Ne.symm hCe) (Ne.symm hCi) e) hC₀ hD₀ hCL hDL (Ne.symm hDC) offC hyl Y'
        have z := N' q hq
        refine ⟨up _ _ ?_ ?_ z.1, z.2⟩
        · rcases List.mem_cons.mp hq with rfl | hq
          · exact Ne.symm hDe
          · exact offe q hq
        · rcases List.mem_cons.mp hq with rfl | hq
          · exact Ne.symm hDi
          · exact offi q hq
    · rcases List.mem_cons.mp hp with rfl | hp
      · exact ⟨hacc, hDL, hD₀⟩
      · exact ⟨old _ _ (N p hp).1, (N p hp).2⟩
  exact codeAny_compStart_list (loop _ rfl) (W.self 0 _ _ _ ⟨⟨_, old _ _ he⟩, hit.at fun o e => old _ o e, listAt _ fun p hp => ⟨old _ _ (N p hp).1, (N p hp).2⟩⟩ (loop _ rfl))

def EnumSrc (prog : Program) (w : World) (A : Around) (h₀ : Heap) (L : Addr) (m : Str → Option Value) (env : Env) (elt : PySem.Expr) (a b : Str) (scope : Scope) (cl : List (Str × Addr)) (Q : Value → Shared → Prop) (xv : Value) (s₁ : Shared) : Prop :=
  ∃ (e it l : Addr) (vs : List Value) (kl : Nat) (news : List (Addr × Obj)) (Y : Nat → Value → Prop), xv = .ref e ∧ A.handled = none ∧ vs.length ≤ sizeLine ∧ e ≠ it ∧ IsEnum s₁.heap e it 0 .none ∧ s₁.heap.IsListIter it l 0 ∧ (l, W.listOf vs.toArray kl) ∈ news ∧
    Fr h₀ L s₁.heap m ∧ News h₀ L s₁.heap news ∧ L ≠ e ∧ L ≠ it ∧ h₀.get? e = none ∧ h₀.get? it = none ∧ (∀ p ∈ news, p.1 ≠ e) ∧ (∀ p ∈ news, p.1 ≠ it) ∧
    (∀ i v, vs[i]? = some v → EnumTurn prog w A h₀ L m env elt a b scope cl s₁ Y news i v) ∧
    (∀ D h tk ys, Fr h₀ L h m → News h₀ L h ((D, lst ys) :: news) → (∀ p ∈ news, p.1 ≠ D) → ys.length = vs.length → (∀ i y, ys[i]? = some y → Y i y) → Q (.ref D) { s₁ with heap := h, toks := tk })
theorem enum_comp {elt iter : PySem.Expr} {a b : Str} {pa pb tp : Pos} {kk : Nat} {scope : Scope} {cl : List (Str × Addr)} {pos : Pos} {Q : Value → Shared → Prop} (_F₀ : Fr h₀ L s.heap m)
    (hclos : closureFor scope env = pure cl) (hcell : ∀ y ∈ scope.names, y.2 ≠ .cell) (hkind : scope.kind = .function)
    (hnames : ∀ y ∈ scope.names, y.2 = .local → scope.names.lookup y.1 = some .local) (hxa : scope.names.lookup a = some .local) (hxb : scope.names.lookup b = some .local) (hab : ¬ a = b)
    (h : wpAny (model prog w) A (eval iter env) (EnumSrc prog w A h₀ L m env elt a b scope cl Q) E s)
    (hs : ∀ x, foldedSetIterable iter env x = pure x := by intro _; rfl) :
    wpAny (model prog w) A (eval (.ListComp elt [⟨.Tuple [.Name a pa, .Name b pb] kk tp, iter, [], 0⟩] scope pos) env) Q E s := by
  rw [eval_ListComp]
  refine wpAny_comprehension_free (use := none) rfl hs hclos hkind hnames (wpAny_mono h (fun xv s₁ h₁ => ?_) fun _ _ e => e)
  obtain ⟨e, it, l, vs, kl, news, Y, rfl, hh, hsz, hei, he, hit, hl, F, N, hLe, hLi, he₀, hi₀, offe, offi, R, fin⟩ := h₁
  refine wpAny_pyIter_enum he ?_
  refine enum_block hh hsz hei he hit hl hcell hkind hxa hxb hab F N hLe hLi he₀ hi₀ offe offi R ?_
  intro D C h tk m' ys F' N' o1 hn hC₀ hD₀ hCL hDL hCD offC hlen hY
  refine ⟨m', hn, fun h'' hs'' => fin D h'' tk ys (F'.change hs'' hCL hC₀) (fun p hp => ?_) o1 hlen hY⟩
  refine ⟨hs''.extBut _ _ ?_ (N' p hp).1, (N' p hp).2⟩
  rcases List.mem_cons.mp hp with rfl | hp
  · exact Ne.symm hCD
  · exact offC p hp
theorem EnumSrc.made {elt : PySem.Expr} {a b : Str} {scope : Scope} {cl : List (Str × Addr)} {Q : Value → Shared → Prop} {l : Addr} {vs : List Value} {kl : Nat} {news : List (Addr × Obj)} (Y : Nat → Value → Prop)
    (hh : A.handled = none) (hsz : vs.length ≤ sizeLine) (F : Fr h₀ L s.heap m) (N : News h₀ L s.heap news) (hl : (l, W.listOf vs.toArray kl) ∈ news)
    (R : ∀ h i v, vs[i]? = some v → EnumTurn prog w A h₀ L m env elt a b scope cl { s with heap := h } Y news i v)
    (fin : ∀ D h tk ys, Fr h₀ L h m → News h₀ L h ((D, lst ys) :: news) → (∀ p ∈ news, p.1 ≠ D) → ys.length = vs.length → (∀ i y, ys[i]? = some y → Y i y) → Q (.ref D) { s with heap := h, toks := tk }) :
    wpAny (model prog w) A (call (.type "enumerate") [.ref l]) (EnumSrc prog w A h₀ L m env elt a b scope cl Q) E s := by
  have hax := N _ hl
  have hL : s.heap.IsList l vs.toArray := ⟨_, hax.1, rfl, _, rfl⟩
  refine call_enumerate_list hL fun h' hE hI hz hk => ?_
  have fresh₀ : ∀ a, s.heap.objs.size ≤ a → h₀.get? a = none := fun a ha => by
    cases e : h₀.get? a with
    | none => rfl
    | some o' => exact absurd (Heap.lt_size (F.keep a o' e)) (Nat.not_lt.mpr ha)
  have lt : ∀ p ∈ news, p.1 < s.heap.objs.size := fun p hp => Heap.lt_size (N p hp).1
  have hLlt : L < s.heap.objs.size := F.ns.lt
  exact ⟨_, _, l, vs, kl, news, Y, rfl, hh, hsz, Nat.succ_ne_self _, hE, hI, hl, F.keeps hk, N.grown hk, Nat.ne_of_lt (Nat.lt_succ_of_lt hLlt), Nat.ne_of_lt hLlt, fresh₀ _ (Nat.le_succ _), fresh₀ _ (Nat.le_refl _),
    fun p hp => Nat.ne_of_lt (Nat.lt_succ_of_lt (lt p hp)), fun p hp => Nat.ne_of_lt (lt p hp), R h', fun D h tk ys => fin D h tk ys⟩
end
theorem stop_exec {M : Model} {A : Around} {E : Value → Shared → Prop} {s : Shared} {st : Stmt} {env : Env} {Q : Flow → Shared → Prop} (h : Stop (wpAny M A (exec st env) Q E s)) : wpAny M A (exec st env) Q E s := h
end Mine
end
section
open PySem PySem.W PyProof.Rows
set_option Elab.async false
set_option maxRecDepth 100000
set_option maxHeartbeats 2000000
namespace Mine
local macro_rules | `(tactic| walk_at "exec While Compare cons nil") => `(tactic| refine stop_while ?_)
local macro_rules | `(tactic| walk_at "WPost") => `(tactic| dsimp only [WPost])
local macro_rules | `(tactic| walk_at "WhlIf") => `(tactic| refine whl_split (fun hW => ?_) (fun hW => ?_))
local macro_rules | `(tactic| walk_at "eval Name") => `(tactic| (k_here; k_dflt (refine' ld ?k1 ?k2 ?_; (case k1 => k_asm); (case k2 => first | exact rfl | assumption); k_whole)))
abbrev deedObj (k : Nat) (t u : Tok) : Obj := match k with
  | 0 => W.listOf #[.str (Str.ofString "//") t] 0
  | 1 => W.listOf #[.str (Str.ofString "\"") t, .str (Str.ofString "//") u] 0
  | 2 => W.listOf #[.str (Str.ofString "~") t, .str (Str.ofString "//") u] 0
  | 3 => W.listOf #[.str (Str.ofString "+") t] 0
  | 4 => W.listOf #[.str (Str.ofString "~") t, .str (Str.ofString "-") u] 0
  | _ => W.listOf #[.str (Str.ofString "\"") t, .str (Str.ofString "+") u] 0
theorem mem_skip {α : Type} {p q : α} {l : List α} (h : p ∈ l) : p ∈ q :: l := List.mem_cons_of_mem _ h
theorem one_sub {x : Addr × Obj} {news all : List (Addr × Obj)} (h1 : x ∈ all) (h2 : ∀ p ∈ news, p ∈ all) : ∀ p ∈ [x] ++ news, p ∈ all := fun p hp => (List.mem_append.mp hp).elim (fun h => by rw [List.mem_singleton.mp h]; exact h1) (h2 p)
theorem one_ord {x : Addr × Obj} {news : List (Addr × Obj)} (h : AllLt x.1 news) : ∀ q ∈ news, ∀ p ∈ [x], q.1 < p.1 := fun q hq p hp => by
  rw [List.mem_singleton.mp hp]
  exact ktn_ltOf h q hq
theorem one_ord0 {x : Addr × Obj} {news : List (Addr × Obj)} (h : ∀ p ∈ news, p.1 < x.1) : ∀ q ∈ news, ∀ p ∈ [x], q.1 < p.1 := fun q hq p hp => by
  rw [List.mem_singleton.mp hp]
  exact h q hq
theorem deeds_con (w : World) (news : List (Addr × Obj)) (n : Int) (t : Tok) (k : Nat) (hk6 : k < 6) (hn : n.fmod 6 = k) : Con w 117 news [.int n t] 1 8 (fun v tl => ∃ l t u, v = .ref l ∧ tl = [(l, deedObj k t u)]) := by
  intro dp un gd cn cs a ccd cl outer A₀ base h₀ L m s Q E p loose mean mg mb B F X N T hk hd hu hret
  revert X
  k_fill
  intro X
  refine wpAny_call ?_
  k_dflt (refine' code_def (binds := [(Str.ofString "number", .int n t)]) ?k1 ?k2 ?k3 ?k4 ?k5 ?kA ?kF ?kK ?k6 ?k7 ?k8 ?k9 ?kB ?_ ?c2 ?c3 ?c4 ?c5; (case kA => exact rfl); (case kF => exact rfl); (case kK => assumption); (case k1 => k_asm); (case k2 => k_asm); (case k3 => k_asm); (case k4 => k_asm); (case k5 => k_asm); (case k6 => k_is); (case k7 => k_is); (case k8 => ktr_room); (case k9 => exact BindsTo.of_eq rfl); (case c5 => decide); (case kB => exact locs rfl); (case c2 => exact rfl); (case c3 => exact rfl); (case c4 => exact rfl); k_whole; intro g' L' h' FG' F' N' B' X' T'; (try dsimp only); (try k_fold))
  k_steps
  rw [hn]
  obtain rfl | rfl | rfl | rfl | rfl | rfl := six_of hk6
  all_goals k_steps
  · (rename Fr h₀ L _ _ => F₃); (rename News h₀ L _ _ => N₃)
    exact hret _ [(_, _)] _ _ ⟨_, _, 0, rfl, rfl⟩ F₃ (drop_news N₃ (one_sub (by k_mem) fun p hp => mem_skip (mem_skip (mem_skip (mem_skip (mem_skip (mem_skip (mem_skip hp)))))))) (one_ord0 (by assumption))
  · (rename Fr h₀ L _ _ => F₃); (rename News h₀ L _ _ => N₃)
    exact hret _ [(_, _)] _ _ ⟨_, _, _, rfl, rfl⟩ F₃ (drop_news N₃ (one_sub (by k_mem) fun p hp => mem_skip (mem_skip (mem_skip (mem_skip (mem_skip (mem_skip (mem_skip hp)))))))) (one_ord (by simp only [*]))
  · (rename Fr h₀ L _ _ => F₃); (rename News h₀ L _ _ => N₃)
    exact hret _ [(_, _)] _ _ ⟨_, _, _, rfl, rfl⟩ F₃ (drop_news N₃ (one_sub (by k_mem) fun p hp => mem_skip (mem_skip (mem_skip (mem_skip (mem_skip (mem_skip (mem_skip hp)))))))) (one_ord (by simp only [*]))
  · (rename Fr h₀ L _ _ => F₃); (rename News h₀ L _ _ => N₃)
    exact hret _ [(_, _)] _ _ ⟨_, _, 0, rfl, rfl⟩ F₃ (drop_news N₃ (one_sub (by k_mem) fun p hp => mem_skip (mem_skip (mem_skip (mem_skip (mem_skip (mem_skip (mem_skip hp)))))))) (one_ord (by simp only [*]))
  · (rename Fr h₀ L _ _ => F₃); (rename News h₀ L _ _ => N₃)
    exact hret _ [(_, _)] _ _ ⟨_, _, _, rfl, rfl⟩ F₃ (drop_news N₃ (one_sub (by k_mem) fun p hp => mem_skip (mem_skip (mem_skip (mem_skip (mem_skip (mem_skip (mem_skip hp)))))))) (one_ord (by simp only [*]))
  · (rename Fr h₀ L _ _ => F₃); (rename News h₀ L _ _ => N₃)
    exact hret _ [(_, _)] _ _ ⟨_, _, _, rfl, rfl⟩ F₃ (drop_news N₃ (one_sub (by k_mem) fun p hp => mem_skip (mem_skip (mem_skip (mem_skip (mem_skip (mem_skip (mem_skip hp)))))))) (one_ord (by simp only [*]))
end Mine
end
section
open PySem PySem.W PyProof.Rows
set_option Elab.async false
set_option maxRecDepth 100000
set_option maxHeartbeats 2000000
namespace Mine
section
variable {prog : Program} {w : World} {A : Around} {E : Value → Shared → Prop} {s : Shared} {x a b : Str} {t u v : Tok} {Q : Value → Shared → Prop} {D : Addr}
theorem join_one (hl : s.heap.IsList D #[.str a u]) (hok : JoinOk x [a] = true) (hq : Q (.str a u) s) : wpAny (model prog w) A (call (.builtin "str.join") [.str x t, .ref D]) Q E s := by
  unfold JoinOk at hok
  rw [Bool.not_eq_true'] at hok
  exact call_meets F.slot_str_join (typeIs_str _ _ _) F.entry_str_join (F.args_str_join_2 _ _) (meets_str_join_list x t D [(a, u)] hok) ⟨hl, hq⟩
theorem join_two (hl : s.heap.IsList D #[.str a u, .str b v]) (hok : JoinOk x [a, b] = true) (hq : Q (.str (Txt.join x [a, b]) s.toks) { s with toks := s.toks + 1 }) : wpAny (model prog w) A (call (.builtin "str.join") [.str x t, .ref D]) Q E s := by
  unfold JoinOk at hok
  rw [Bool.not_eq_true'] at hok
  exact call_meets F.slot_str_join (typeIs_str _ _ _) F.entry_str_join (F.args_str_join_2 _ _) (meets_str_join_list x t D [(a, u), (b, v)] hok) ⟨hl, joinFit_length hok, hq⟩
theorem replace_none {y z : Str} (ho : (Builtin.Str.occurrences x y 0 x.length (x.length + 1)).isEmpty = true) (hq : Q (.str x t) s) : wpAny (model prog w) A (call (.builtin "str.replace") [.str x t, .str y u, .str z v]) Q E s := by
  refine call_gives F.slot_str_replace (typeIs_str _ _ _) F.entry_str_replace (F.args_str_replace_3 _ _ _)
    (gives_str_replace x y z t u v fun h => absurd h (by rw [ho]; simp)) ?_
  rw [ho]
  exact hq
theorem mul_int_str {n : Int} (hok : MulOk x n) (h : ∀ t' k, Q (.str (Txt.mul x n) t') { s with toks := k }) : wpAny (model prog w) A (binaryOp .Mult (.int n u) (.str x t)) Q E s := by
  refine lm_binaryOp_repeat_right (T := "str") (U := "int") (by decide) (fun s' => typeIs_int s' n u) (typeIs_str s x t) F.fills_int_mul noFill_str_mul F.slot_int_mul lm_noRepeat_int repeat_str F.slot_int_index.lookup
    (call_gives F.slot_int_mul (typeIs_int s n u) F.entry_int_mul (F.args_int_mul_2 _ _) (AutoIntG3.int___mul___int_str_0 n u x t)
      ⟨rfl, typeIs_str s x t, call_gives F.slot_str_mul (typeIs_str s x t) F.entry_str_mul (F.args_str_mul_2 _ _) (gives_str_mul x n t u hok.1 hok.2.1 hok.2.2) ?_⟩)
  unfold Txt.mul at h
  by_cases h1 : n < 1
  · rw [if_pos h1]; have h' := h s.toks (s.toks + 1); rw [if_pos h1] at h'; exact ⟨by decide, h'⟩
  · rw [if_neg h1]; refine post_val_or_made (fun hc => fits_reps (hok.2.2 h1 (by simpa using hc))) fun t' k => ?_
    have h' := h t' k; rw [if_neg h1] at h'; exact h'
theorem mul3_str (hx : x.length = 1) (h : ∀ t' k, (x ++ x ++ x).length = 3 → Q (.str (x ++ x ++ x) t') { s with toks := k }) : wpAny (model prog w) A (binaryOp .Mult (.int 3 u) (.str x t)) Q E s := by
  refine mul_int_str (mulOk_of 16 16 (by omega) (by omega) (by omega) (by decide) (by decide)) fun t' k => ?_
  have e : Txt.mul x 3 = x ++ x ++ x := by
    unfold Txt.mul
    rw [if_neg (by decide), if_neg (by rw [hx]; decide)]
    show Str.mk _ = Str.mk _
    rw [show Int.toNat 3 = 3 from rfl]
    simp [List.replicate]
    show _ = (x.cps ++ x.cps) ++ x.cps
    rw [Array.append_assoc]
  rw [e]
  exact h t' k (by rw [Str.length_append, Str.length_append, hx])
end
theorem port_range (n : Int) : -20 ≤ portOf n ∧ portOf n ≤ 20 := by
  unfold portOf
  have h1 := Int.fmod_nonneg_of_pos (Int.fdiv n 6) (b := 41) (by decide)
  have h2 := Int.fmod_lt_of_pos (Int.fdiv n 6) (b := 41) (by decide)
  omega
local macro_rules | `(tactic| walk_at "exec While Compare cons nil") => `(tactic| refine stop_while ?_)
local macro_rules | `(tactic| walk_at "WPost") => `(tactic| dsimp only [WPost])
local macro_rules | `(tactic| walk_at "WhlIf") => `(tactic| refine whl_split (fun hW => ?_) (fun hW => ?_))
local macro_rules | `(tactic| walk_at "eval Name") => `(tactic| (k_here; k_dflt (refine' ld ?k1 ?k2 ?_; (case k1 => k_asm); (case k2 => first | exact rfl | assumption); k_whole)))
local macro_rules | `(tactic| walk_at "call ref") => `(tactic| (k_here; (with_reducible show wpAny _ _ (call (Value.ref 117) [Value.int _ _]) _ _ _); k_dflt (refine' con_call (deeds_con _ _ _ _ _ (by assumption) (by assumption)) ?k1 ?k2 ?k3 ?k4 ?k5 ?kK ?kd ?ku ?_; (case k1 => k_asm); (case k2 => k_asm); (case k3 => k_asm); (case k4 => k_asm); (case k5 => k_asm); (case kK => first | exact rfl | assumption); (case kd => ktr_room); (case ku => ktr_units)); (intro v9 tl9 h9 tk9 R9 F9 N9 o9); (obtain ⟨l9, t9, u9, e1, e2⟩ := R9); subst e1; subst e2; (replace N9 := one_news N9); (have l1 := one_lt o9); clear o9; (try k_lt l1); (try dsimp only [deedObj] at N9); (try dsimp only); (try k_fold)))
local macro_rules | `(tactic| walk_at "call ref") => `(tactic| (k_here; (with_reducible show wpAny _ _ (call (Value.ref 124) [Value.int _ _]) _ _ _); k_dflt (refine' con_call (port_con _ _ _ _) ?k1 ?k2 ?k3 ?k4 ?k5 ?kK ?kd ?ku ?_; (case k1 => k_asm); (case k2 => k_asm); (case k3 => k_asm); (case k4 => k_asm); (case k5 => k_asm); (case kK => first | exact rfl | assumption); (case kd => ktr_room); (case ku => ktr_units)); (intro v9 tl9 h9 tk9 R9 F9 N9 o9); (obtain ⟨⟨t9, e1⟩, e2⟩ := R9); subst e1; subst e2; (replace N9 := nil_news N9); clear o9; (try dsimp only); (try k_fold)))
local macro_rules | `(tactic| walk_at "call builtin:str.join") => `(tactic| ((with_reducible rename News _ _ _ _ => kN); (with_unfolding_all first | refine join_two (News.isList kN (.head _)) (by decide +kernel) ?_ | refine join_one (News.isList kN (.head _)) (by decide +kernel) ?_)))
local macro_rules | `(tactic| walk_at "binaryOp Mult int str") => `(tactic| (refine mul3_str (by assumption) ?_; intro _ _ _))
local macro_rules | `(tactic| walk_at "call builtin:str.replace") => `(tactic| (refine replace_none (by decide +kernel) ?_))
local macro_rules | `(tactic| walk_at "call builtin:str.replace") => `(tactic| (refine SC.replaceW (by (show @Ne Nat _ _); omega) (by (show @Ne Nat _ _); omega) (by (show @Ne Nat _ _); omega) (by decide +kernel) (by decide +kernel) (by decide +kernel) ?_; intro _ _))
def quoted : Nat → Str
  | 0 => Str.ofString "//"
  | 1 => Str.ofString "\"\"//"
  | 2 => Str.ofString "~//"
  | 3 => Str.ofString "+"
  | 4 => Str.ofString "~-"
  | _ => Str.ofString "\"\"+"
def replyT (k : Nat) (p : Int) (mk : Str) : Str := Str.ofString "257 \"" ++ quoted k ++ Str.ofString "\" at (" ++ (mk ++ mk ++ mk) ++ Str.ofString (toString p) ++ mk ++ Str.ofString ")"
def IsStr (x : Str) : Value → List (Addr × Obj) → Prop := fun v tl => (∃ t, v = .str x t) ∧ tl = []
theorem quoted_len (k : Nat) : (quoted k).length ≤ 4 := by
  unfold quoted
  split <;> decide +kernel
local macro_rules | `(tactic| walk_at "exec Assign") => `(tactic| refine stop_exec ?_)
theorem reply_con (w : World) (news : List (Addr × Obj)) (n : Int) (mk : Str) (t u : Tok) (k : Nat) (hk6 : k < 6) (hn : n.fmod 6 = k) (hm : mk.length = 1) :
    Con w 131 news [.int n t, .str mk u] 2 16 (IsStr (replyT k (portOf n) mk)) := by
  have hp := port_range n
  intro dp un gd cn cs a ccd cl outer A₀ base h₀ L m s Q E p loose mean mg mb B F X N T hk hd hu hret
  revert X
  k_fill
  intro X
  refine wpAny_call ?_
  k_dflt (refine' code_def (binds := [(Str.ofString "number", .int n t), (Str.ofString "mark", .str mk u)]) ?k1 ?k2 ?k3 ?k4 ?k5 ?kA ?kF ?kK ?k6 ?k7 ?k8 ?k9 ?kB ?_ ?c2 ?c3 ?c4 ?c5; (case kA => exact rfl); (case kF => exact rfl); (case kK => assumption); (case k1 => k_asm); (case k2 => k_asm); (case k3 => k_asm); (case k4 => k_asm); (case k5 => k_asm); (case k6 => k_is); (case k7 => k_is); (case k8 => ktr_room); (case k9 => exact BindsTo.of_eq rfl); (case c5 => decide); (case kB => exact locs rfl); (case c2 => exact rfl); (case c3 => exact rfl); (case c4 => exact rfl); k_whole; intro g' L' h' FG' F' N' B' X' T'; (try dsimp only); (try k_fold))
  obtain ⟨m₁, F₁, e1, e2⟩ : ∃ m₁, Fr g' L' _ m₁ ∧ m₁ (Str.ofString "number") = some (.int n t) ∧ m₁ (Str.ofString "mark") = some (.str mk u) := ⟨_, F', rfl, rfl⟩
  clear F'
  k_steps
  unfold Stop
  refine wpAny_Assign_Name ?_
  refine wpAny_mono (show wpAny _ _ _ (EnumEnd g' L' m₁ s (fun v => ∃ t, v = .str (quoted k) t) news) _ _ from ?_) (fun v s' hv => ?_) (fun _ _ x => x)
  · obtain rfl | rfl | rfl | rfl | rfl | rfl := six_of hk6
    all_goals k_steps
    all_goals ((rename Fr g' L' _ _ => F₃); (rename News g' L' _ _ => N₃); refine EnumEnd.intro F₃ N₃ (fun p hp => mem_skip hp) ?_; first | exact ⟨_, rfl⟩ | exact ⟨_, congrArg (fun x => Value.str x _) (by decide +kernel)⟩)
  · obtain ⟨h5, tk5, rfl, ⟨t5, rfl⟩, F₅, N₅⟩ := hv
    have hq := quoted_len k
    clear F₁
    k_steps
    (rename Fr h₀ L _ _ => F₃); (rename News h₀ L _ _ => N₃)
    exact hret _ [] _ _ ⟨⟨_, rfl⟩, rfl⟩ F₃ N₃ (fun _ _ _ h9 => nomatch h9)
end Mine
end
section
open PySem PySem.W PyProof.Rows
set_option Elab.async false
set_option maxRecDepth 100000
set_option maxHeartbeats 2000000
namespace Mine
local macro_rules | `(tactic| walk_at "exec While Compare cons nil") => `(tactic| refine stop_while ?_)
local macro_rules | `(tactic| walk_at "WPost") => `(tactic| dsimp only [WPost])
local macro_rules | `(tactic| walk_at "WhlIf") => `(tactic| refine whl_split (fun hW => ?_) (fun hW => ?_))
local macro_rules | `(tactic| walk_at "eval Name") => `(tactic| (k_here; k_dflt (refine' ld ?k1 ?k2 ?_; (case k1 => k_asm); (case k2 => first | exact rfl | assumption); k_whole)))
def scanL : List Nat → List Nat
  | [] => []
  | [c] => if c = 34 then [] else [c]
  | c :: e :: r => if c = 34 then (if e = 34 then 34 :: scanL r else []) else c :: scanL (e :: r)
def p257 (x : Str) : Str := ⟨(scanL (x.cps.toList.drop 5)).toArray⟩
theorem len_list (x : Str) : x.cps.toList.length = x.length := by simp [Str.length]
theorem item_at {x : Str} {i : Nat} (h : i < x.length) : ∃ c, Txt.item x (i : Int) = ⟨#[c]⟩ ∧ x.cps.toList.drop i = c :: x.cps.toList.drop (i + 1) := by
  have h' : i < x.cps.size := h
  refine ⟨x.cps[i], ?_, ?_⟩
  · have e : seqIndex? (i : Int) x.length = some i := by
      unfold seqIndex?
      have h1 : ¬ ((i : Int) < 0) := by omega
      simp [h1, h]
    unfold Txt.item Txt.charAt
    rw [e]
    simp [h']
  · have h2 : i < x.cps.toList.length := by simpa using h'
    rw [List.drop_eq_getElem_cons h2]
    simp
theorem item_eq {x : Str} {c : Nat} (e : Txt.item x i = ⟨#[c]⟩) : (Txt.item x i == Str.ofString "\"") = decide (c = 34) := by
  rw [e]
  have q : Str.ofString "\"" = ⟨#[34]⟩ := by decide +kernel
  rw [q]
  by_cases h : c = 34
  · subst h; rfl
  · simp [h]
theorem p257_eq {x d : Str} {i : Nat} (hs : d.cps.toList ++ scanL (x.cps.toList.drop i) = scanL (x.cps.toList.drop 5)) (h0 : scanL (x.cps.toList.drop i) = []) : d = p257 x := by
  unfold p257
  rw [← hs, h0, List.append_nil]
theorem scan_end {x : Str} {i : Nat} (h : ¬ ((i : Int) < (x.length : Int))) : scanL (x.cps.toList.drop i) = [] := by
  have : x.cps.toList.drop i = [] := List.drop_eq_nil_of_le (by rw [len_list]; omega)
  rw [this]; rfl
theorem scan_last {x : Str} {i : Nat} (hi : i < x.length) (hq : (Txt.item x (i : Int) == Str.ofString "\"") = true) (h : (x.length : Int) ≤ (i : Int) + 1) : scanL (x.cps.toList.drop i) = [] := by
  obtain ⟨c, e1, e2⟩ := item_at hi
  have e3 : x.cps.toList.drop (i + 1) = [] := List.drop_eq_nil_of_le (by rw [len_list]; omega)
  rw [item_eq e1] at hq
  rw [e2, e3]
  simp only [scanL, of_decide_eq_true hq, if_true]
theorem scan_quote {x : Str} {i : Nat} (hi : i < x.length) (hq : (Txt.item x (i : Int) == Str.ofString "\"") = true) (h : i + 1 < x.length) (hr : (Txt.item x ((i : Int) + 1) != Str.ofString "\"") = true) : scanL (x.cps.toList.drop i) = [] := by
  obtain ⟨c, e1, e2⟩ := item_at hi
  obtain ⟨c', f1, f2⟩ := item_at h
  have f1' : Txt.item x ((i : Int) + 1) = ⟨#[c']⟩ := f1
  rw [item_eq e1] at hq
  rw [bne, item_eq f1'] at hr
  rw [e2, f2]
  have : ¬ c' = 34 := by simpa using hr
  simp only [scanL, of_decide_eq_true hq, if_true, if_neg this]
theorem scan_two {x d : Str} {i : Nat} {l : List Nat} (hi : i < x.length) (hq : (Txt.item x (i : Int) == Str.ofString "\"") = true) (h : i + 1 < x.length) (hr : (Txt.item x ((i : Int) + 1) != Str.ofString "\"") = false)
    (hs : d.cps.toList ++ scanL (x.cps.toList.drop i) = l) : (d ++ Txt.item x (i : Int)).cps.toList ++ scanL (x.cps.toList.drop (i + 2)) = l := by
  obtain ⟨c, e1, e2⟩ := item_at hi
  obtain ⟨c', f1, f2⟩ := item_at h
  have f1' : Txt.item x ((i : Int) + 1) = ⟨#[c']⟩ := f1
  rw [item_eq e1] at hq
  rw [bne, item_eq f1'] at hr
  rw [e2, f2] at hs
  have h34 : c' = 34 := by simpa using hr
  have c34 : c = 34 := of_decide_eq_true hq
  simp only [scanL, c34, h34, if_true] at hs
  rw [e1, c34, ← hs]
  show (d.cps ++ #[34]).toList ++ _ = _
  simp
theorem scan_one {x d : Str} {i : Nat} {l : List Nat} (hi : i < x.length) (hq : (Txt.item x (i : Int) == Str.ofString "\"") = false)
    (hs : d.cps.toList ++ scanL (x.cps.toList.drop i) = l) : (d ++ Txt.item x (i : Int)).cps.toList ++ scanL (x.cps.toList.drop (i + 1)) = l := by
  obtain ⟨c, e1, e2⟩ := item_at hi
  rw [item_eq e1] at hq
  have c34 : ¬ c = 34 := of_decide_eq_false hq
  rw [e2] at hs
  have q : scanL (c :: x.cps.toList.drop (i + 1)) = c :: scanL (x.cps.toList.drop (i + 1)) := by
    cases x.cps.toList.drop (i + 1) with
    | nil => simp only [scanL, if_neg c34]
    | cons e r => simp only [scanL, if_neg c34]
  rw [q] at hs
  rw [e1, ← hs]
  show (d.cps ++ #[c]).toList ++ _ = _
  simp
theorem p257_con (w : World) (news : List (Addr × Obj)) (x : Str) (t : Tok) (hx : x.length ≤ 1000) (h3 : Txt.slice x none (some 3) = Str.ofString "257") (h5 : Txt.slice x (some 3) (some 5) = Str.ofString " \"") (hl : 5 ≤ x.length) :
    Con w 65 news [.str x t] 1 8 (fun v tl => (∃ t, v = .str (p257 x) t) ∧ tl = []) := by
  intro dp un gd cn cs a ccd cl outer A₀ base h₀ L m s Q E p loose mean mg mb B F X N T hk hd hu hret
  revert X
  k_fill
  intro X
  refine wpAny_call ?_
  k_dflt (refine' code_def (binds := [(Str.ofString "resp", .str x t)]) ?k1 ?k2 ?k3 ?k4 ?k5 ?kA ?kF ?kK ?k6 ?k7 ?k8 ?k9 ?kB ?_ ?c2 ?c3 ?c4 ?c5; (case kA => exact rfl); (case kF => exact rfl); (case kK => assumption); (case k1 => k_asm); (case k2 => k_asm); (case k3 => k_asm); (case k4 => k_asm); (case k5 => k_asm); (case k6 => k_is); (case k7 => k_is); (case k8 => ktr_room); (case k9 => exact BindsTo.of_eq rfl); (case c5 => decide); (case kB => exact locs rfl); (case c2 => exact rfl); (case c3 => exact rfl); (case c4 => exact rfl); k_whole; intro g' L' h' FG' F' N' B' X' T'; (try dsimp only); (try k_fold))
  k_steps
  · exact absurd h3 (bne_iff_ne.mp (by assumption))
  · exact absurd h5 (bne_iff_ne.mp (by assumption))
  · unfold Stop
    rename_i F₁ N₁
    refine while_inv (σ := Str × Nat) (fun c s' => ∃ h tk mm tn ti td, s' = { s with heap := h, toks := tk } ∧ Fr g' L' h mm ∧ News g' L' h news ∧
      mm (Str.ofString "dirname") = some (.str c.1 td) ∧ mm (Str.ofString "i") = some (.int (c.2 : Nat) ti) ∧ mm (Str.ofString "n") = some (.int (x.length : Nat) tn) ∧ mm (Str.ofString "resp") = some (.str x t) ∧ 5 ≤ c.2 ∧ c.2 ≤ x.length ∧ c.1.length ≤ c.2 ∧
      c.1.cps.toList ++ scanL (x.cps.toList.drop c.2) = scanL (x.cps.toList.drop 5)) (fun c => x.length - c.2) (Str.ofString "", 5) ?_ ?_ ?_
    · exact ⟨_, _, _, _, _, _, rfl, F₁, N₁, rfl, rfl, rfl, rfl, Nat.le_refl _, hl, by decide, rfl⟩
    · k_steps
    · rintro ⟨d, i⟩ s' ⟨h, tk, mm, tn, ti, td, rfl, F₂, N₂, md, mi, mn, mr, i5, il, dl, hs⟩
      dsimp only at *
      clear F₁ N₁
      k_steps
      · exact hret _ [] _ _ ⟨⟨_, congrArg (Value.str · _) (p257_eq hs (scan_last (by omega) (by assumption) (by assumption)))⟩, rfl⟩ (by assumption) (by assumption) (fun _ _ _ h9 => nomatch h9)
      · exact hret _ [] _ _ ⟨⟨_, congrArg (Value.str · _) (p257_eq hs (scan_quote (by omega) (by assumption) (by omega) (by assumption)))⟩, rfl⟩ (by assumption) (by assumption) (fun _ _ _ h9 => nomatch h9)
      · (rename Fr _ _ _ _ => F₃); (rename News _ _ _ _ => N₃)
        exact ⟨(_, i + 2), by dsimp only; omega, _, _, _, _, _, _, rfl, F₃, N₃, rfl, rfl, mn, mr, by dsimp only; omega, by dsimp only; omega, by dsimp only; omega, scan_two (by omega) (by assumption) (by omega) (by assumption) hs⟩
      · (rename Fr _ _ _ _ => F₃); (rename News _ _ _ _ => N₃)
        exact ⟨(_, i + 1), by dsimp only; omega, _, _, _, _, _, _, rfl, F₃, N₃, rfl, rfl, mn, mr, by dsimp only; omega, by dsimp only; omega, by dsimp only; omega, scan_one (by omega) (by assumption) hs⟩
      · exact hret _ [] _ _ ⟨⟨_, congrArg (Value.str · _) (p257_eq hs (scan_end (by assumption)))⟩, rfl⟩ (by assumption) (by assumption) (fun _ _ _ h9 => nomatch h9)
end Mine
end
section
open PySem PySem.W PyProof.Rows
set_option Elab.async false
set_option maxRecDepth 100000
set_option maxHeartbeats 1000000
namespace Mine
local macro_rules | `(tactic| walk_at "eval Name") => `(tactic| (k_here; (with_reducible show wpAny _ _ (eval (PySem.Expr.Name _ _) _) _ _ _); k_dflt (refine' nameX_F ?N ?c ?m ?d ?_ ?a ?b; (case a => rfl); (case b => rfl); (case N => with_reducible assumption); (case c => rfl); (case m => exact List.mem_cons_of_mem _ (by with_reducible assumption)); (case d => with_reducible assumption); k_whole)))
local macro_rules | `(tactic| k_all) => `(tactic| assumption)
local macro_rules | `(tactic| walk_at "call ref") => `(tactic| refine stop_call ?_)
local macro_rules | `(tactic| walk_at "binaryOp RShift int int") => `(tactic| refine rs_is (by omega) (by with_reducible assumption) ?_)
local macro_rules | `(tactic| walk_at "binaryOp LShift int int") => `(tactic| refine ls_is (by omega) (by with_reducible assumption) (by with_reducible assumption) ?_)
local macro_rules | `(tactic| walk_at "binaryOp Mult int int") => `(tactic| refine mul_is (by with_reducible assumption) (by with_reducible assumption) ?_)
local macro_rules | `(tactic| walk_at "binaryOp BitXor int int") => `(tactic| refine xor_is (by with_reducible assumption) ?_)
local macro_rules | `(tactic| walk_at "FnAt") => `(tactic| (k_dflt (exact FnAt.of (by with_reducible assumption) (List.mem_cons_of_mem _ (by assumption)))))
local macro_rules | `(tactic| walk_at "callWith ref") => `(tactic| (k_here; k_dflt (refine' callWith_F ?k1 ?_; (case k1 => exact FnAt.of (by with_reducible assumption) (List.mem_cons_of_mem _ (by assumption))); k_whole)))
theorem mid_eq (lo hi k : Nat) (h : hi = lo + k) : ((lo : Int) + (hi : Int)).fdiv (2 ^ Int.toNat 1) = ((lo + k / 2 : Nat) : Int) := by
  show ((lo : Int) + (hi : Int)).fdiv 2 = _
  rw [Int.fdiv_eq_ediv_of_nonneg _ (by decide)]
  omega
theorem sh_eq (lo k₁ nn : Nat) : (((lo + k₁ : Nat) : Int) - (lo : Int)) * (nn : Int) = ((k₁ * nn : Nat) : Int) := by
  rw [show ((lo + k₁ : Nat) : Int) - (lo : Int) = (k₁ : Int) by omega, Int.natCast_mul]
theorem up_eq (x S : Nat) : (x : Int).fdiv (2 ^ (S : Int).toNat) = ((x / 2 ^ S : Nat) : Int) := by
  rw [Int.toNat_natCast, Int.fdiv_eq_ediv_of_nonneg _ (by exact Int.le_of_lt (Int.pow_pos (by decide))), Int.natCast_ediv, Int.natCast_pow]
  rfl
theorem ls_eq (x S : Nat) : (x : Int) * 2 ^ (S : Int).toNat = ((x * 2 ^ S : Nat) : Int) := by
  rw [Int.toNat_natCast, Int.natCast_mul, Int.natCast_pow]
  rfl
theorem inner_con (w : World) {name : Str} {params : Arguments} {body : List Stmt} {scope : Scope} (hi : innOf 1 ((pre.heap_1 w.params).lookup 86) = some (name, params, body, scope))
    {qual : Str} {doc pm ctv : Value} {f c1 c2 c3 c' D : Addr} {o1 o2 o3 oc : Obj} {R : List (Addr × Obj)} {nn : Nat} {u tq : Tok} {vc : Array Value}
    (hf : (f, fnMade name qual params body scope [(Str.ofString "n", c3), (Str.ofString "inner", c1), (Str.ofString "a_digits", c2)] doc pm c' ctv) ∈ R)
    (m1 : (c1, o1) ∈ R) (d1 : o1.data = .cell (some (.ref f))) (m2 : (c2, o2) ∈ R) (d2 : o2.data = .cell (some (.ref D))) (m3 : (c3, o3) ∈ R) (d3 : o3.data = .cell (some (.int (nn : Int) u)))
    (mc : (c', oc) ∈ R) (dc : oc.data = .fields vc) (dv : vc[1]? = some (.str qual tq)) (hD : ∀ p ∈ R, p.1 ≠ D) (hn : 1 ≤ nn) (hn' : nn ≤ 64) :
    ∀ (k lo hi x : Nat) (vs : List Value) (ns : List Int) (e : Nat) (t tl th : Tok), hi = lo + k → 1 ≤ k → hi ≤ ns.length → ns.length ≤ 100 → x < 2 ^ (k * nn) → IntsAre vs ns →
      ConG w f ((D, W.listOf vs.toArray e) :: R) [.int x t, .int lo tl, .int hi th] (k + 1) (8 * (k + 1)) (fun v led => v = .none ∧ ∃ vs', IntsAre vs' (fill ns nn lo k x) ∧ led = (D, W.listOf vs'.toArray e) :: R) := by
  revert hf
  refine (fun hz => hz ⟨rfl, rfl⟩ : ((PySem.Challenge.rw_we0025_01 = PySem.Challenge.rw_we0025_01 ∧ pre.heap_1 w.params = pre.heap_1 w.params) → _) → _) ?_
  k_fill
  intro _
  intro hf
  have hi2 := inn_open (by k_is) hi
  clear hi
  revert hf
  cases hi2
  intro hf
  intro k
  induction k using Nat.strongRecOn with
  | ind k ih =>
  intro lo hi x vs ns e t tl th hk k1 hh hl hx hI
  have hk6 : k * nn ≤ 6400 := Nat.le_trans (Nat.mul_le_mul (show k ≤ 100 by omega) hn') (by decide)
  have q1 : k / 2 + (k - k / 2) = k := by omega
  have e1 := mid_eq lo hi k hk
  have e2 := sh_eq lo (k / 2) nn
  have e3 := up_eq x (k / 2 * nn)
  have e4 := ls_eq (x / 2 ^ (k / 2 * nn)) (k / 2 * nn)
  have e5 := xor_int_eq x (k / 2 * nn)
  have hm : IntMulOk (((lo + k / 2 : Nat) : Int) - (lo : Int)) (nn : Int) := IntMulOk.of_right (intBits_le_64 (by omega) (by omega))
  have hS : k / 2 * nn ≤ k * nn := Nat.mul_le_mul_right _ (by omega)
  have hup : x / 2 ^ (k / 2 * nn) < 2 ^ (k * nn) := Nat.lt_of_le_of_lt (Nat.div_le_self _ _) hx
  have hb : (Builtin.Int.intBits ((x / 2 ^ (k / 2 * nn) : Nat) : Int) : Int) + ((k / 2 * nn : Nat) : Int) ≤ 2 ^ 27 := by
    have h := intBits_nat hup
    omega
  have hlow : x % 2 ^ (k / 2 * nn) < 2 ^ (k / 2 * nn) := Nat.mod_lt _ (Nat.two_pow_pos _)
  have hup2 : x / 2 ^ (k / 2 * nn) < 2 ^ ((k - k / 2) * nn) := by
    refine Nat.div_lt_of_lt_mul ?_
    rw [← Nat.pow_add, ← Nat.add_mul, q1]
    exact hx
  have q2 : lo + (k / 2) + (k - k / 2) = lo + k := by omega
  have hfill := fill_two (ns := ns) (b := nn) (lo := lo) (k₁ := k / 2) (k₂ := k - k / 2) (x := x) (by omega)
  rw [q1] at hfill
  generalize hmid : lo + k / 2 = mid at *
  generalize hSS : k / 2 * nn = S at *
  generalize hupe : x / 2 ^ S = up at *
  generalize hlowe : x % 2 ^ S = low at *
  generalize hy : up * 2 ^ S = y at *
  intro dp un gd cn cs a' ccd cl outer A₀ base h₀ L m s Q E p' loose mean mg mb B F X N₀ T hkf hd hu hret
  refine wpAny_call ?_
  k_dflt (refine' code_nest (binds := [(Str.ofString "x", .int x t), (Str.ofString "L", .int lo tl), (Str.ofString "R", .int hi th)]) ?k1 ?k2 ?k3 ?k4 ?k5 ?kA ?kF ?kK ?k6 ?k7 ?k8 ?k9 ?kB ?_ ?c2 ?c3 ?c4 ?c5; (case kA => exact rfl); (case kF => exact rfl); (case kK => assumption); (case k1 => k_asm); (case k2 => k_asm); (case k3 => k_asm); (case k4 => k_asm); (case k5 => k_asm); (case k6 => exact List.mem_cons_of_mem _ hf); (case k7 => exact codeRec_news (by k_asm) (List.mem_cons_of_mem _ mc) dc dv); (case k8 => ktr_room); (case k9 => exact BindsTo.of_eq rfl); (case c5 => decide); (case kB => exact locs rfl); (case c2 => exact rfl); (case c3 => exact rfl); (case c4 => exact rfl); k_whole; intro g' L' h' FG' F' N' B' X' T'; (try dsimp only); (try k_fold))
  have C' : CodeHd g' 85 81 := by
    k_dflt (refine' codeHd_of X' ?e ?h1 ?h2 ?h3 ?h4 ?h5 ?h6 ?h7; (case e => k_is); (case h1 => exact rfl); (case h2 => exact rfl); (case h3 => exact rfl); (case h4 => exact rfl); (case h5 => exact rfl); (case h6 => exact rfl); (case h7 => decide))
  k_steps
  all_goals (try k_data)
  · (rename Fr h₀ L _ _ => F₃); (rename News h₀ L _ _ => N₃); (rename IntsAre (List.set _ _ _) _ => hI₃)
    have hk1 : k = 1 := by omega
    subst hk1
    have e9 := fill_one (ns := ns) (b := nn) (lo := lo) (x := x) (by omega) (by simpa using hx)
    rw [Int.toNat_natCast, e9] at hI₃
    exact hret .none _ _ _ ⟨rfl, _, hI₃, rfl⟩ F₃ N₃
  · unfold Stop
    k_dflt (refine' con_callG (ih (k / 2) (by omega) lo mid low vs ns e _ _ _ hmid.symm (by omega) (by omega) hl (by rw [hSS]; exact hlow) hI) ?k1 ?k2 ?k3 ?k4 ?k5 ?kK ?kd ?ku ?_; (case k1 => k_asm); (case k2 => k_asm); (case k3 => k_asm); (case k4 => k_asm); (case k5 => k_asm); (case kK => first | exact rfl | assumption); (case kd => ktr_room); (case ku => ktr_units))
    intro v9 led9 h9 tk9 R9 F9 N9
    obtain ⟨rfl, vs1, hI1, rfl⟩ := R9
    (try dsimp only)
    (try k_fold)
    k_steps
    unfold Stop
    k_dflt (refine' con_callG (ih (k - k / 2) (by omega) mid hi up vs1 _ e _ _ _ (by omega) (by omega) (by rw [fill_len (by omega)]; omega) (by rw [fill_len (by omega)]; omega) hup2 hI1) ?k1 ?k2 ?k3 ?k4 ?k5 ?kK ?kd ?ku ?_; (case k1 => k_asm); (case k2 => k_asm); (case k3 => k_asm); (case k4 => k_asm); (case k5 => k_asm); (case kK => first | exact rfl | assumption); (case kd => ktr_room); (case ku => ktr_units))
    intro v9 led9 h9 tk9 R9 F9 N9
    obtain ⟨rfl, vs2, hI2, rfl⟩ := R9
    (try dsimp only)
    (try k_fold)
    k_steps
    (rename Fr h₀ L _ _ => F₃); (rename News h₀ L _ _ => N₃)
    rw [hfill] at hI2
    exact hret .none _ _ _ ⟨rfl, _, hI2, rfl⟩ F₃ N₃
end Mine
end
section
open PySem PySem.W PyProof.Rows
set_option Elab.async false
set_option maxRecDepth 100000
set_option maxHeartbeats 2000000
namespace Mine
section
variable {prog : Program} {w : World} {A : Around} {E : Value → Shared → Prop} {s : Shared} {h₀ : Heap} {L : Addr} {m : Str → Option Value} {news : List (Addr × Obj)} {l : Addr} {t u : Tok} {Q : Value → Shared → Prop} {a b k : Int}
theorem fd_is (hb : b ≠ 0) (hs : b.natAbs < 1073741824) (e : a.fdiv b = k) (h : Q (.int k s.toks) { s with toks := s.toks + 1 }) : wpAny (model prog w) A (binaryOp .FloorDiv (.int a t) (.int b u)) Q E s :=
  floordiv_int hb (by rw [e]; exact h) (Or.inl (PyProof.noPylong_small hs))
theorem zeros {N : Nat} (Fm : Fr h₀ L s.heap m) (M : News h₀ L s.heap ((l, W.listOf #[.int 0 t] 0) :: news)) (hN : N ≤ 256)
    (h : ∀ D h', Fr h₀ L h' m → News h₀ L h' ((D, W.listOf (List.replicate N (.int 0 t)).toArray 0) :: (l, W.listOf #[.int 0 t] 0) :: news) → (∀ p ∈ (l, W.listOf #[.int 0 t] 0) :: news, p.1 < D) → Q (.ref D) { s with heap := h' }) :
    wpAny (model prog w) A (binaryOp .Mult (.ref l) (.int (N : Int) u)) Q E s := by
  have e : (List.replicate ((N : Int)).toNat [Value.int 0 t]).flatten = List.replicate N (.int 0 t) := by
    rw [Int.toNat_natCast]
    clear h hN
    induction N with
    | zero => rfl
    | succ N ih => rw [List.replicate_succ, List.flatten_cons, ih, List.replicate_succ]; rfl
  exact KMa.mul Fm M (News.isList M (.head _)) (by omega) (by omega) (by rw [Int.toNat_natCast]; show (0 + 1) * N ≤ 256; omega) e h
theorem ne_of_ltA {R : List (Addr × Obj)} {d c : Nat} (h : ∀ p ∈ R, @LT.lt Nat _ p.1 d) (e : d ≤ c) : ∀ p ∈ R, p.1 ≠ c := fun p hp q => by
  have h1 := h p hp
  rw [q] at h1
  omega
end
theorem len_is {v : List Value} {D : Addr} {e N : Nat} (M : News h₀ L s.heap news) (hm : (D, W.listOf v.toArray e) ∈ news) (hv : v.length = N) (hN : N ≤ 256) (h : ∀ tk k, Q (.int (N : Int) tk) { s with toks := k }) : wpAny (model prog w) A (call (.builtin "len") [.ref D]) Q E s := by
  subst hv
  have q : v.toArray.size = v.length := by simp
  refine PyProof.Rows.len_list (News.isList M hm) (by omega) ?_
  rw [q]
  exact h _ _
theorem inn_mk {K : Frag} {a : Addr} {o : Obj} {i : Nat} {r : Option (Str × Arguments × List Stmt × Scope)} (e : K.lookup a = some o) (h : innOf i (some o) = r) : innOf i (K.lookup a) = r := by rw [e]; exact h
theorem move3 {h : Heap} {x1 x2 d : Addr × Obj} {r : List (Addr × Obj)} (N : News h₀ L h (x1 :: x2 :: d :: r)) : News h₀ L h (d :: x1 :: x2 :: r) := fun p hp => N p (by
  simp only [List.mem_cons] at hp ⊢
  rcases hp with h | h | h | h <;> simp [h])
theorem move2 {h : Heap} {x1 d : Addr × Obj} {r : List (Addr × Obj)} (N : News h₀ L h (x1 :: d :: r)) : News h₀ L h (d :: x1 :: r) := fun p hp => N p (by
  simp only [List.mem_cons] at hp ⊢
  rcases hp with h | h | h <;> simp [h])
theorem zeros_digs (N b : Nat) : (digsN b N 0).map Int.ofNat = List.replicate N 0 := by
  induction N with
  | zero => rfl
  | succ N ih => rw [digsN, List.map_cons, Nat.zero_div, ih, Nat.zero_mod]; rfl
theorem sub_cons {x : Addr × Obj} {r all : List (Addr × Obj)} (h : x ∈ all) (t : ∀ p ∈ r, p ∈ all) : ∀ p ∈ x :: r, p ∈ all := fun p hp => (List.mem_cons.mp hp).elim (fun e => by rw [e]; exact h) (t p)
inductive TabOk (P : Addr) (ln cl : Nat) (qual : Str) : List (Addr × Obj) → Prop
  | fresh : TabOk P ln cl qual [(P, tabObj #[])]
  | used {c' : Addr} {oc : Obj} {vc : Array Value} {tq : Tok} : @LT.lt Nat _ 88 c' → oc.data = .fields vc → vc[1]? = some (.str qual tq) → TabOk P ln cl qual [(c', oc), (P, tabObj (#[] ++ #[rawInt ((ln : Nat) : Int), rawInt ((cl : Nat) : Int), .ref c']))]
theorem tab_mem {P : Addr} {ln cl : Nat} {q : Str} {t : List (Addr × Obj)} (h : TabOk P ln cl q t) : ∃ o, (P, o) ∈ t := by
  cases h with
  | fresh => exact ⟨_, .head _⟩
  | used _ _ _ => exact ⟨_, .tail _ (.head _)⟩
theorem tab_ne {P : Addr} {ln cl c : Nat} {q : Str} {t : List (Addr × Obj)} (h : TabOk P ln cl q t) (hc : c ≤ 88) (hP : ¬ (P = c)) : ∀ p ∈ t, p.1 ≠ c := by
  cases h with
  | fresh => intro p hp; rw [List.mem_singleton.mp hp]; exact hP
  | used h1 _ _ =>
    intro p hp
    rcases List.mem_cons.mp hp with rfl | hp
    · exact Nat.ne_of_gt (Nat.lt_of_le_of_lt hc h1)
    · rw [List.mem_singleton.mp hp]; exact hP
/-- what is new in t' lies above all of rest -/
def Fresh (t t' rest : List (Addr × Obj)) : Prop := ∀ p ∈ t', (∃ q ∈ t, q.1 = p.1) ∨ ∀ q ∈ rest, @LT.lt Nat _ q.1 p.1
theorem fresh_new {c P : Addr} {o o' o'' : Obj} {rest : List (Addr × Obj)} (h : ∀ q ∈ rest, @LT.lt Nat _ q.1 c) : Fresh [(P, o)] [(c, o'), (P, o'')] rest := fun p hp => by
  rcases List.mem_cons.mp hp with rfl | hp
  · exact .inr h
  · rw [List.mem_singleton.mp hp]; exact .inl ⟨_, .head _, rfl⟩
theorem fresh_old {c P : Addr} {o1 o2 o3 o4 : Obj} {rest : List (Addr × Obj)} : Fresh [(c, o1), (P, o2)] [(c, o3), (P, o4)] rest := fun p hp => by
  rcases List.mem_cons.mp hp with rfl | hp
  · exact .inl ⟨_, .head _, rfl⟩
  · rw [List.mem_singleton.mp hp]; exact .inl ⟨_, .tail _ (.head _), rfl⟩
theorem Fresh.sub {t t' r r' : List (Addr × Obj)} (h : Fresh t t' r) (s : ∀ p ∈ r', p ∈ r) : Fresh t t' r' := fun p hp => (h p hp).imp id fun k q hq => k q (s q hq)
theorem Fresh.off {t t' r : List (Addr × Obj)} {a : Addr} {o : Obj} (h : Fresh t t' r) (hm : (a, o) ∈ r) (ht : ∀ p ∈ t, p.1 ≠ a) : ∀ p ∈ t', p.1 ≠ a := fun p hp => by
  rcases h p hp with ⟨q, hq, e⟩ | k
  · rw [← e]; exact ht q hq
  · exact Nat.ne_of_gt (k _ hm)
abbrev Q81 : Str := (Str.ofString "_int2digits" ++ Str.ofString ".<locals>.") ++ Str.ofString "inner"
theorem ints_zeros (N : Nat) (t : Tok) : IntsAre (List.replicate N (.int 0 t)) (List.replicate N 0) := by
  induction N with
  | zero => exact .nil
  | succ N ih => exact .cons 0 t ih
theorem fill_all (N b x : Nat) : fill (List.replicate N 0) b 0 N x = (digsN b N x).map Int.ofNat := by
  unfold fill
  simp
local macro_rules | `(tactic| k_all) => `(tactic| first | assumption | exact ne_of_ltA (by assumption) (by omega) | fail "k_all")
local macro_rules | `(tactic| walk_at "binaryOp FloorDiv int int") => `(tactic| refine fd_is (by omega) (by omega) (by with_reducible assumption) ?_)
local macro_rules | `(tactic| walk_at "binaryOp Mult ref int") => `(tactic| (k_here; (refine zeros (by k_asm) (by k_asm) (by omega) ?_); intro D' h' F' N' l1; (try k_lt l1)))
local macro_rules | `(tactic| walk_at "call builtin:len") => `(tactic| (k_here; (refine len_is (by k_asm) (by k_mem) (List.length_replicate ..) (by omega) ?_); intro _ _))
local macro_rules | `(tactic| walk_at "call ref") => `(tactic| refine stop_call ?_)
theorem i2d_con (w : World) (tb rest : List (Addr × Obj)) (a nn N : Nat) (t u : Tok) (hT : TabOk 81 73 4 Q81 tb) (hn : 1 ≤ nn) (hn' : nn ≤ 64) (hN : N ≤ 100) (hNe : ((Builtin.Int.intBits (a : Int) : Int) + (nn : Int) - 1).fdiv (nn : Int) = N)
    (haN : a < 2 ^ (N * nn)) (hr : ∀ p ∈ rest, p.1 ≠ 81) (h88 : ∃ o, (88, o) ∈ rest) :
    ConG w 86 (tb ++ rest) [.int (a : Int) t, .int (nn : Int) u] 110 1000 (fun v led => ∃ D vs tb', v = .ref D ∧ TabOk 81 73 4 Q81 tb' ∧ led = (D, W.listOf vs.toArray 0) :: (tb' ++ rest) ∧ IntsAre vs ((digsN nn N a).map Int.ofNat) ∧ (∀ q ∈ rest, q.1 < D) ∧ Fresh tb tb' rest) := by
  intro dp un gd cn cs a' ccd cl outer A₀ base h₀ L m s Q E p' loose mean mg mb B F X N₀ T hk hd hu hret
  revert X
  k_fill
  intro X
  cases hT with
  | fresh =>
    simp only [List.cons_append, List.nil_append] at N₀
    refine wpAny_call ?_
    k_dflt (refine' code_defC (binds := [(Str.ofString "a", .int (a : Int) t), (Str.ofString "n", .int (nn : Int) u)]) ?k1 ?k2 ?k3 ?k4 ?k5 ?kA ?kF ?kK ?k6 ?k7 ?k8 ?k9 ?kB ?kD ?_ ?c2 ?c3 ?c4; (case kA => exact rfl); (case kF => exact rfl); (case kK => assumption); (case k1 => k_asm); (case k2 => k_asm); (case k3 => k_asm); (case k4 => k_asm); (case k5 => k_asm); (case k6 => k_is); (case k7 => k_is); (case k8 => ktr_room); (case k9 => exact BindsTo.of_eq rfl); (case kB => exact rfl); (case kD => decide +kernel); (case c2 => exact rfl); (case c3 => exact rfl); (case c4 => exact rfl); k_whole; intro g' L' h' tk' cells' FG' F' N' Y' B' X' T' l1; (have hY := CellsAre.three Y'); obtain ⟨o1, o2, o3, hE, d1, d2, d3⟩ := hY; subst hE; clear Y'; (try simp only [List.cons_append, List.nil_append] at N'); (try dsimp only); (try k_fold))
    have e1 : o1.data = .cell none := d1
    have e2 : o2.data = .cell none := d2
    have e3 : o3.data = .cell (some (.int (nn : Int) u)) := d3
    clear d1 d2 d3
    have l81 : @LT.lt Nat _ 81 L' := l1 (81, tabObj #[]) (.head _)
    have lr : ∀ p ∈ rest, @LT.lt Nat _ p.1 L' := fun p hp => l1 p (.tail _ hp)
    clear l1
    have C' : CodeHd g' 85 81 := by
      k_dflt (refine' codeHd_of X' ?e ?h1 ?h2 ?h3 ?h4 ?h5 ?h6 ?h7; (case e => k_is); (case h1 => exact rfl); (case h2 => exact rfl); (case h3 => exact rfl); (case h4 => exact rfl); (case h5 => exact rfl); (case h6 => exact rfl); (case h7 => decide))
    k_steps
    all_goals (try k_data)
    · (rename News g' L' _ _ => N₁)
      obtain ⟨o88, m88⟩ := h88
      rename (_ ∧ _ ∧ _ ∧ _ ∧ _ ∧ _ ∧ AllLt _ rest) => lc
      have hc88 := ktn_ltOf lc.2.2.2.2.2.2 _ m88
      have N₂ := move3 N₁
      have hN1 : 1 ≤ N := by
        rcases Nat.eq_zero_or_pos N with h0 | h0
        · rw [h0] at haN; simp at haN; omega
        · exact h0
      unfold Stop
      k_dflt (refine' con_callG (inner_con w (inn_mk ?hK ?hI) ?hf ?m1 ?d1 ?m2 ?d2 ?m3 ?d3 ?mc ?dc ?dv ?hD hn hn' N 0 N a _ _ 0 _ _ _ ?e0 hN1 ?e1 ?e2 haN (ints_zeros N _)) ?k1 ?k2 ?k3 ?k4 ?k5 ?kK ?kd ?ku ?_; (case k4 => exact N₂); (case hf => k_mem); (case m1 => k_mem); (case d1 => assumption); (case m2 => k_mem); (case d2 => assumption); (case m3 => k_mem); (case d3 => assumption); (case mc => k_mem); (case dc => assumption); (case dv => assumption); (case hK => k_is); (case hI => exact rfl); (case hD => k_all); (case e0 => omega); (case e1 => rw [List.length_replicate]; omega); (case e2 => rw [List.length_replicate]; omega); (case k1 => k_asm); (case k2 => k_asm); (case k3 => k_asm); (case k5 => k_asm); (case kK => first | exact rfl | assumption); (case kd => ktr_room); (case ku => ktr_units))
      intro v9 led9 h9 tk9 R9 F9 N9
      obtain ⟨rfl, vs1, hI1, rfl⟩ := R9
      rw [fill_all] at hI1
      clear N₁ N₂
      (try dsimp only)
      (try k_fold)
      k_steps
      (rename Fr h₀ L _ _ => F₃); (rename News h₀ L _ _ => N₃)
      exact hret _ _ _ _ ⟨_, _, _, rfl, .used hc88 (by assumption) (by assumption), rfl, hI1, fun q hq => Nat.lt_of_lt_of_le (lr q hq) (by omega), fresh_new (ktn_ltOf lc.2.2.2.2.2.2)⟩ F₃ (drop_news N₃ (sub_cons (by k_mem) (sub_cons (by k_mem) (sub_cons (by k_mem) fun p hp => by repeat (first | exact hp | apply List.mem_cons_of_mem)))))
    · (rename Fr h₀ L _ _ => F₃); (rename News h₀ L _ _ => N₃)
      obtain ⟨o88, m88⟩ := h88
      rename (_ ∧ _ ∧ _ ∧ _ ∧ _ ∧ _ ∧ AllLt _ rest) => lc
      have hc88 := ktn_ltOf lc.2.2.2.2.2.2 _ m88
      have ha0 : a = 0 := by omega
      have hI1 := ints_zeros N tk'
      rw [← zeros_digs N nn, ← ha0] at hI1
      exact hret _ _ _ _ ⟨_, _, _, rfl, .used hc88 (by assumption) (by assumption), rfl, hI1, fun q hq => Nat.lt_of_lt_of_le (lr q hq) (by omega), fresh_new (ktn_ltOf lc.2.2.2.2.2.2)⟩ F₃ (drop_news N₃ (sub_cons (by k_mem) (sub_cons (by k_mem) (sub_cons (by k_mem) fun p hp => by repeat (first | exact hp | apply List.mem_cons_of_mem)))))
  | @used c' oc vc tq hc88 hoc hvc =>
    simp only [List.cons_append, List.nil_append] at N₀
    refine wpAny_call ?_
    k_dflt (refine' code_defC (binds := [(Str.ofString "a", .int (a : Int) t), (Str.ofString "n", .int (nn : Int) u)]) ?k1 ?k2 ?k3 ?k4 ?k5 ?kA ?kF ?kK ?k6 ?k7 ?k8 ?k9 ?kB ?kD ?_ ?c2 ?c3 ?c4; (case kA => exact rfl); (case kF => exact rfl); (case kK => assumption); (case k1 => k_asm); (case k2 => k_asm); (case k3 => k_asm); (case k4 => k_asm); (case k5 => k_asm); (case k6 => k_is); (case k7 => k_is); (case k8 => ktr_room); (case k9 => exact BindsTo.of_eq rfl); (case kB => exact rfl); (case kD => decide +kernel); (case c2 => exact rfl); (case c3 => exact rfl); (case c4 => exact rfl); k_whole; intro g' L' h' tk' cells' FG' F' N' Y' B' X' T' l1; (have hY := CellsAre.three Y'); obtain ⟨o1, o2, o3, hE, d1, d2, d3⟩ := hY; subst hE; clear Y'; (try simp only [List.cons_append, List.nil_append] at N'); (try dsimp only); (try k_fold))
    have e1 : o1.data = .cell none := d1
    have e2 : o2.data = .cell none := d2
    have e3 : o3.data = .cell (some (.int (nn : Int) u)) := d3
    clear d1 d2 d3
    have lc : @LT.lt Nat _ c' L' := l1 _ (.head _)
    have l81 : @LT.lt Nat _ 81 L' := l1 _ (.tail _ (.head _))
    have lr : ∀ p ∈ rest, @LT.lt Nat _ p.1 L' := fun p hp => l1 p (.tail _ (.tail _ hp))
    clear l1
    have C' : CodeHd g' 85 81 := by
      k_dflt (refine' codeHd_of X' ?e ?h1 ?h2 ?h3 ?h4 ?h5 ?h6 ?h7; (case e => k_is); (case h1 => exact rfl); (case h2 => exact rfl); (case h3 => exact rfl); (case h4 => exact rfl); (case h5 => exact rfl); (case h6 => exact rfl); (case h7 => decide))
    k_steps
    all_goals (try k_data)
    · (rename News g' L' _ _ => N₁)
      have N₂ := move2 N₁
      have hN1 : 1 ≤ N := by
        rcases Nat.eq_zero_or_pos N with h0 | h0
        · rw [h0] at haN; simp at haN; omega
        · exact h0
      unfold Stop
      k_dflt (refine' con_callG (inner_con w (inn_mk ?hK ?hI) ?hf ?m1 ?d1 ?m2 ?d2 ?m3 ?d3 ?mc ?dc ?dv ?hD hn hn' N 0 N a _ _ 0 _ _ _ ?e0 hN1 ?e1 ?e2 haN (ints_zeros N _)) ?k1 ?k2 ?k3 ?k4 ?k5 ?kK ?kd ?ku ?_; (case k4 => exact N₂); (case hf => k_mem); (case m1 => k_mem); (case d1 => assumption); (case m2 => k_mem); (case d2 => assumption); (case m3 => k_mem); (case d3 => assumption); (case mc => k_mem); (case dc => assumption); (case dv => assumption); (case hK => k_is); (case hI => exact rfl); (case hD => k_all); (case e0 => omega); (case e1 => rw [List.length_replicate]; omega); (case e2 => rw [List.length_replicate]; omega); (case k1 => k_asm); (case k2 => k_asm); (case k3 => k_asm); (case k5 => k_asm); (case kK => first | exact rfl | assumption); (case kd => ktr_room); (case ku => ktr_units))
      intro v9 led9 h9 tk9 R9 F9 N9
      obtain ⟨rfl, vs1, hI1, rfl⟩ := R9
      rw [fill_all] at hI1
      clear N₁ N₂
      (try dsimp only)
      (try k_fold)
      k_steps
      (rename Fr h₀ L _ _ => F₃); (rename News h₀ L _ _ => N₃)
      exact hret _ _ _ _ ⟨_, _, _, rfl, .used hc88 (by assumption) (by assumption), rfl, hI1, fun q hq => Nat.lt_of_lt_of_le (lr q hq) (by omega), fresh_old⟩ F₃ (drop_news N₃ (sub_cons (by k_mem) (sub_cons (by k_mem) (sub_cons (by k_mem) fun p hp => by repeat (first | exact hp | apply List.mem_cons_of_mem)))))
    · (rename Fr h₀ L _ _ => F₃); (rename News h₀ L _ _ => N₃)
      have ha0 : a = 0 := by omega
      have hI1 := ints_zeros N tk'
      rw [← zeros_digs N nn, ← ha0] at hI1
      exact hret _ _ _ _ ⟨_, _, _, rfl, .used hc88 (by assumption) (by assumption), rfl, hI1, fun q hq => Nat.lt_of_lt_of_le (lr q hq) (by omega), fresh_old⟩ F₃ (drop_news N₃ (sub_cons (by k_mem) (sub_cons (by k_mem) (sub_cons (by k_mem) fun p hp => by repeat (first | exact hp | apply List.mem_cons_of_mem)))))
end Mine
end
section
open PySem PySem.W PyProof.Rows
set_option Elab.async false
set_option maxRecDepth 100000
set_option maxHeartbeats 1000000
namespace Mine
local macro_rules | `(tactic| walk_at "eval Name") => `(tactic| (k_here; (with_reducible show wpAny _ _ (eval (PySem.Expr.Name _ _) _) _ _ _); k_dflt (refine' nameX_F ?N ?c ?m ?d ?_ ?a ?b; (case a => rfl); (case b => rfl); (case N => with_reducible assumption); (case c => rfl); (case m => with_reducible assumption); (case d => with_reducible assumption); k_whole)))
local macro_rules | `(tactic| walk_at "call ref") => `(tactic| refine stop_call ?_)
local macro_rules | `(tactic| walk_at "binaryOp RShift int int") => `(tactic| refine rs_is (by omega) (by with_reducible assumption) ?_)
local macro_rules | `(tactic| walk_at "binaryOp LShift int int") => `(tactic| refine ls_is (by omega) (by with_reducible assumption) (by with_reducible assumption) ?_)
local macro_rules | `(tactic| walk_at "binaryOp Mult int int") => `(tactic| refine mul_is (by with_reducible assumption) (by with_reducible assumption) ?_)
local macro_rules | `(tactic| walk_at "FnAt") => `(tactic| (k_dflt (exact FnAt.of (by with_reducible assumption) (by assumption))))
local macro_rules | `(tactic| walk_at "callWith ref") => `(tactic| (k_here; k_dflt (refine' callWith_F ?k1 ?_; (case k1 => exact FnAt.of (by with_reducible assumption) (by assumption)); k_whole)))
theorem inner2_con (w : World) {name : Str} {params : Arguments} {body : List Stmt} {scope : Scope} (hi : innOf 0 ((pre.heap_1 w.params).lookup 93) = some (name, params, body, scope))
    {qual : Str} {doc pm ctv : Value} {f c1 c2 c3 c' D : Addr} {o1 o2 o3 oc : Obj} {R : List (Addr × Obj)} {nn e : Nat} {u tq : Tok} {vc : Array Value} {vs : List Value} {ds : List Nat}
    (hf : (f, fnMade name qual params body scope [(Str.ofString "n", c3), (Str.ofString "inner", c1), (Str.ofString "digits", c2)] doc pm c' ctv) ∈ R)
    (m1 : (c1, o1) ∈ R) (d1 : o1.data = .cell (some (.ref f))) (m2 : (c2, o2) ∈ R) (d2 : o2.data = .cell (some (.ref D))) (m3 : (c3, o3) ∈ R) (d3 : o3.data = .cell (some (.int (nn : Int) u)))
    (mc : (c', oc) ∈ R) (dc : oc.data = .fields vc) (dv : vc[1]? = some (.str qual tq)) (mD : (D, W.listOf vs.toArray e) ∈ R) (hI : IntsAre vs (ds.map Int.ofNat)) (hds : ∀ d ∈ ds, d < 2 ^ nn) (hn : 1 ≤ nn) (hn' : nn ≤ 64) (hl : ds.length ≤ 100) :
    ∀ (k lo hi : Nat) (tl th : Tok), hi = lo + k → 1 ≤ k → hi ≤ ds.length →
      ConG w f R [.int lo tl, .int hi th] (k + 1) (8 * (k + 1)) (fun v led => (∃ t, v = .int (valN nn (cut ds lo k) : Nat) t) ∧ led = R) := by
  revert hf
  refine (fun hz => hz ⟨rfl, rfl⟩ : ((PySem.Challenge.rw_we0025_01 = PySem.Challenge.rw_we0025_01 ∧ pre.heap_1 w.params = pre.heap_1 w.params) → _) → _) ?_
  k_fill
  intro _
  intro hf
  have hi2 := inn_open (by k_is) hi
  clear hi
  revert hf
  cases hi2
  intro hf k
  have hlen : (ds.map Int.ofNat).length = ds.length := List.length_map ..
  induction k using Nat.strongRecOn with
  | ind k ih =>
  intro lo hi tl th hk k1 hh
  have hk6 : k * nn ≤ 6400 := Nat.le_trans (Nat.mul_le_mul (show k ≤ 100 by omega) hn') (by decide)
  have q1 : k / 2 + (k - k / 2) = k := by omega
  have e1 := mid_eq lo hi k hk
  have e2 := sh_eq lo (k / 2) nn
  have e4 := ls_eq (valN nn (cut ds (lo + k / 2) (k - k / 2))) (k / 2 * nn)
  have hm : IntMulOk (((lo + k / 2 : Nat) : Int) - (lo : Int)) (nn : Int) := IntMulOk.of_right (intBits_le_64 (by omega) (by omega))
  have hS : k / 2 * nn ≤ k * nn := Nat.mul_le_mul_right _ (by omega)
  have hS2 : (k - k / 2) * nn ≤ k * nn := Nat.mul_le_mul_right _ (by omega)
  have hb : (Builtin.Int.intBits ((valN nn (cut ds (lo + k / 2) (k - k / 2)) : Nat) : Int) : Int) + ((k / 2 * nn : Nat) : Int) ≤ 2 ^ 27 := by
    have h := intBits_nat (val_lt nn (cut ds (lo + k / 2) (k - k / 2)) fun d hd => hds d (cut_mem d hd))
    rw [cut_len (by omega)] at h
    omega
  have hcut := congrArg (valN nn) (cut_two ds lo (k / 2) (k - k / 2))
  rw [q1, val_append, cut_len (by omega)] at hcut
  generalize hmid : lo + k / 2 = mid at *
  generalize hSS : k / 2 * nn = S at *
  generalize hy : valN nn (cut ds mid (k - k / 2)) * 2 ^ S = y at *
  intro dp un gd cn cs a' ccd cl outer A₀ base h₀ L m s Q E p' loose mean mg mb B F X N₀ T hkf hd hu hret
  refine wpAny_call ?_
  k_dflt (refine' code_nest (binds := [(Str.ofString "L", .int lo tl), (Str.ofString "R", .int hi th)]) ?k1 ?k2 ?k3 ?k4 ?k5 ?kA ?kF ?kK ?k6 ?k7 ?k8 ?k9 ?kB ?_ ?c2 ?c3 ?c4 ?c5; (case kA => exact rfl); (case kF => exact rfl); (case kK => assumption); (case k1 => k_asm); (case k2 => k_asm); (case k3 => k_asm); (case k4 => k_asm); (case k5 => k_asm); (case k6 => exact hf); (case k7 => exact codeRec_news (by k_asm) mc dc dv); (case k8 => ktr_room); (case k9 => exact BindsTo.of_eq rfl); (case c5 => decide); (case kB => exact locs rfl); (case c2 => exact rfl); (case c3 => exact rfl); (case c4 => exact rfl); k_whole; intro g' L' h' FG' F' N' B' X' T'; (try dsimp only); (try k_fold))
  have C' : CodeHd g' 85 81 := by
    k_dflt (refine' codeHd_of X' ?e ?h1 ?h2 ?h3 ?h4 ?h5 ?h6 ?h7; (case e => k_is); (case h1 => exact rfl); (case h2 => exact rfl); (case h3 => exact rfl); (case h4 => exact rfl); (case h5 => exact rfl); (case h6 => exact rfl); (case h7 => decide))
  k_steps
  all_goals (try k_data)
  · (rename Fr h₀ L _ _ => F₃); (rename News h₀ L _ _ => N₃)
    have hk1 : k = 1 := by omega
    subst hk1
    have e9 : (List.map Int.ofNat ds).getD ((lo : Int)).toNat 0 = ((valN nn (cut ds lo 1) : Nat) : Int) := by rw [Int.toNat_natCast, getD_cast, cut_one _ (by omega)]
    rw [e9]
    exact hret _ _ _ _ ⟨⟨_, rfl⟩, rfl⟩ F₃ N₃
  · unfold Stop
    k_dflt (refine' con_callG (ih (k - k / 2) (by omega) mid hi _ _ (by omega) (by omega) (by omega)) ?k1 ?k2 ?k3 ?k4 ?k5 ?kK ?kd ?ku ?_; (case k1 => k_asm); (case k2 => k_asm); (case k3 => k_asm); (case k4 => k_asm); (case k5 => k_asm); (case kK => first | exact rfl | assumption); (case kd => ktr_room); (case ku => ktr_units))
    intro v9 led9 h9 tk9 R9 F9 N9
    obtain ⟨⟨t9, rfl⟩, rfl⟩ := R9
    (try dsimp only)
    (try k_fold)
    k_steps
    unfold Stop
    k_dflt (refine' con_callG (ih (k / 2) (by omega) lo mid _ _ hmid.symm (by omega) (by omega)) ?k1 ?k2 ?k3 ?k4 ?k5 ?kK ?kd ?ku ?_; (case k1 => k_asm); (case k2 => k_asm); (case k3 => k_asm); (case k4 => k_asm); (case k5 => k_asm); (case kK => first | exact rfl | assumption); (case kd => ktr_room); (case ku => ktr_units))
    intro v9 led9 h9 tk9 R9 F9 N9
    obtain ⟨⟨t9, rfl⟩, rfl⟩ := R9
    (try dsimp only)
    (try k_fold)
    k_steps
    (rename Fr h₀ L _ _ => F₃); (rename News h₀ L _ _ => N₃)
    have e9 : (y : Int) + ((valN nn (cut ds lo (k / 2)) : Nat) : Int) = ((valN nn (cut ds lo k) : Nat) : Int) := by
      rw [hcut, Nat.mul_comm (2 ^ S), hy]
      omega
    rw [e9]
    exact hret _ _ _ _ ⟨⟨_, rfl⟩, rfl⟩ F₃ N₃
end Mine
end
section
open PySem PySem.W PyProof.Rows
set_option Elab.async false
set_option maxRecDepth 100000
set_option maxHeartbeats 2000000
namespace Mine
abbrev Q88 : Str := (Str.ofString "_digits2int" ++ Str.ofString ".<locals>.") ++ Str.ofString "inner"
local macro_rules | `(tactic| k_all) => `(tactic| first | assumption | exact ne_of_ltA (by assumption) (by omega) | fail "k_all")
local macro_rules | `(tactic| walk_at "call builtin:len") => `(tactic| (k_here; (refine len_is (by k_asm) (by k_mem) (by assumption) (by omega) ?_); intro _ _))
local macro_rules | `(tactic| walk_at "call ref") => `(tactic| refine stop_call ?_)
theorem d2i_con (w : World) (tb rest : List (Addr × Obj)) (D : Addr) (nn e : Nat) (vs : List Value) (ds : List Nat) (u : Tok) (hT : TabOk 88 88 4 Q88 tb) (hn : 1 ≤ nn) (hn' : nn ≤ 64) (hI : IntsAre vs (ds.map Int.ofNat)) (hds : ∀ d ∈ ds, d < 2 ^ nn) (hl : ds.length ≤ 100)
    (hr : ∀ p ∈ rest, p.1 ≠ 88) (hD : D ≠ 88) :
    ConG w 93 ((D, W.listOf vs.toArray e) :: (tb ++ rest)) [.ref D, .int (nn : Int) u] 110 1000 (fun v led => ∃ t tb', v = .int (valN nn ds : Nat) t ∧ TabOk 88 88 4 Q88 tb' ∧ led = (D, W.listOf vs.toArray e) :: (tb' ++ rest) ∧ Fresh tb tb' rest) := by
  have hvl : vs.length = ds.length := by rw [hI.length, List.length_map]
  intro dp un gd cn cs a' ccd cl outer A₀ base h₀ L m s Q E p' loose mean mg mb B F X N₀ T hk hd hu hret
  revert X
  k_fill
  intro X
  cases hT with
  | fresh =>
    simp only [List.cons_append, List.nil_append] at N₀
    refine wpAny_call ?_
    k_dflt (refine' code_defC (binds := [(Str.ofString "digits", .ref D), (Str.ofString "n", .int (nn : Int) u)]) ?k1 ?k2 ?k3 ?k4 ?k5 ?kA ?kF ?kK ?k6 ?k7 ?k8 ?k9 ?kB ?kD ?_ ?c2 ?c3 ?c4; (case kA => exact rfl); (case kF => exact rfl); (case kK => assumption); (case k1 => k_asm); (case k2 => k_asm); (case k3 => k_asm); (case k4 => k_asm); (case k5 => k_asm); (case k6 => k_is); (case k7 => k_is); (case k8 => ktr_room); (case k9 => exact BindsTo.of_eq rfl); (case kB => exact rfl); (case kD => decide +kernel); (case c2 => exact rfl); (case c3 => exact rfl); (case c4 => exact rfl); k_whole; intro g' L' h' tk' cells' FG' F' N' Y' B' X' T' l1; (have hY := CellsAre.three Y'); obtain ⟨o1, o2, o3, hE, d1, d2, d3⟩ := hY; subst hE; clear Y'; (try simp only [List.cons_append, List.nil_append] at N'); (try dsimp only); (try k_fold))
    have e1 : o1.data = .cell none := d1
    have e2 : o2.data = .cell (some (.int (nn : Int) u)) := d2
    have e3 : o3.data = .cell (some (.ref D)) := d3
    clear d1 d2 d3
    have lD : @LT.lt Nat _ D L' := l1 _ (.head _)
    have l88 : @LT.lt Nat _ 88 L' := l1 (88, tabObj #[]) (.tail _ (.head _))
    have lr : ∀ p ∈ rest, @LT.lt Nat _ p.1 L' := fun p hp => l1 p (.tail _ (.tail _ hp))
    clear l1
    have C' : CodeHd g' 92 88 := by
      k_dflt (refine' codeHd_of X' ?e ?h1 ?h2 ?h3 ?h4 ?h5 ?h6 ?h7; (case e => k_is); (case h1 => exact rfl); (case h2 => exact rfl); (case h3 => exact rfl); (case h4 => exact rfl); (case h5 => exact rfl); (case h6 => exact rfl); (case h7 => decide))
    k_steps
    all_goals (try k_data)
    · (rename News g' L' _ _ => N₁)
      rename (_ ∧ _ ∧ _ ∧ _ ∧ _ ∧ AllLt _ rest) => lc
      have hc88 := lc.2.2.2.2.1
      rename (0 < _) => hpos
      rw [List.length_map] at hpos
      rw [List.length_map]
      unfold Stop
      k_dflt (refine' con_callG (inner2_con w (inn_mk ?hK ?hI) ?hf ?m1 ?d1 ?m2 ?d2 ?m3 ?d3 ?mc ?dc ?dv ?mD hI hds hn hn' hl ds.length 0 ds.length _ _ ?e0 ?e1 ?e2) ?k1 ?k2 ?k3 ?k4 ?k5 ?kK ?kd ?ku ?_; (case k4 => exact N₁); (case hf => k_mem); (case m1 => k_mem); (case d1 => assumption); (case m2 => k_mem); (case d2 => assumption); (case m3 => k_mem); (case d3 => assumption); (case mc => k_mem); (case dc => assumption); (case dv => assumption); (case mD => k_mem); (case hK => k_is); (case hI => exact rfl); (case e0 => omega); (case e1 => omega); (case e2 => omega); (case k1 => k_asm); (case k2 => k_asm); (case k3 => k_asm); (case k5 => k_asm); (case kK => first | exact rfl | assumption); (case kd => ktr_room); (case ku => ktr_units))
      intro v9 led9 h9 tk9 R9 F9 N9
      obtain ⟨⟨t9, rfl⟩, rfl⟩ := R9
      rw [cut_all]
      clear N₁
      (try dsimp only)
      (try k_fold)
      k_steps
      (rename Fr h₀ L _ _ => F₃); (rename News h₀ L _ _ => N₃)
      exact hret _ _ _ _ ⟨_, _, rfl, .used hc88 (by assumption) (by assumption), rfl, fresh_new (ktn_ltOf lc.2.2.2.2.2)⟩ F₃ (drop_news N₃ (sub_cons (by k_mem) (sub_cons (by k_mem) (sub_cons (by k_mem) fun p hp => by repeat (first | exact hp | apply List.mem_cons_of_mem)))))
    · (rename Fr h₀ L _ _ => F₃); (rename News h₀ L _ _ => N₃)
      rename (_ ∧ _ ∧ _ ∧ _ ∧ _ ∧ AllLt _ rest) => lc
      have hc88 := lc.2.2.2.2.1
      rename (¬ 0 < _) => hpos
      rw [List.length_map] at hpos
      have hd0 : ds = [] := List.eq_nil_of_length_eq_zero (by omega)
      subst hd0
      exact hret _ _ _ _ ⟨_, _, rfl, .used hc88 (by assumption) (by assumption), rfl, fresh_new (ktn_ltOf lc.2.2.2.2.2)⟩ F₃ (drop_news N₃ (sub_cons (by k_mem) (sub_cons (by k_mem) (sub_cons (by k_mem) fun p hp => by repeat (first | exact hp | apply List.mem_cons_of_mem)))))
  | @used c' oc vc tq hc88 hoc hvc =>
    simp only [List.cons_append, List.nil_append] at N₀
    refine wpAny_call ?_
    k_dflt (refine' code_defC (binds := [(Str.ofString "digits", .ref D), (Str.ofString "n", .int (nn : Int) u)]) ?k1 ?k2 ?k3 ?k4 ?k5 ?kA ?kF ?kK ?k6 ?k7 ?k8 ?k9 ?kB ?kD ?_ ?c2 ?c3 ?c4; (case kA => exact rfl); (case kF => exact rfl); (case kK => assumption); (case k1 => k_asm); (case k2 => k_asm); (case k3 => k_asm); (case k4 => k_asm); (case k5 => k_asm); (case k6 => k_is); (case k7 => k_is); (case k8 => ktr_room); (case k9 => exact BindsTo.of_eq rfl); (case kB => exact rfl); (case kD => decide +kernel); (case c2 => exact rfl); (case c3 => exact rfl); (case c4 => exact rfl); k_whole; intro g' L' h' tk' cells' FG' F' N' Y' B' X' T' l1; (have hY := CellsAre.three Y'); obtain ⟨o1, o2, o3, hE, d1, d2, d3⟩ := hY; subst hE; clear Y'; (try simp only [List.cons_append, List.nil_append] at N'); (try dsimp only); (try k_fold))
    have e1 : o1.data = .cell none := d1
    have e2 : o2.data = .cell (some (.int (nn : Int) u)) := d2
    have e3 : o3.data = .cell (some (.ref D)) := d3
    clear d1 d2 d3
    have lD : @LT.lt Nat _ D L' := l1 _ (.head _)
    have lc : @LT.lt Nat _ c' L' := l1 _ (.tail _ (.head _))
    have l88 : @LT.lt Nat _ 88 L' := l1 _ (.tail _ (.tail _ (.head _)))
    have lr : ∀ p ∈ rest, @LT.lt Nat _ p.1 L' := fun p hp => l1 p (.tail _ (.tail _ (.tail _ hp)))
    clear l1
    have C' : CodeHd g' 92 88 := by
      k_dflt (refine' codeHd_of X' ?e ?h1 ?h2 ?h3 ?h4 ?h5 ?h6 ?h7; (case e => k_is); (case h1 => exact rfl); (case h2 => exact rfl); (case h3 => exact rfl); (case h4 => exact rfl); (case h5 => exact rfl); (case h6 => exact rfl); (case h7 => decide))
    k_steps
    all_goals (try k_data)
    · (rename News g' L' _ _ => N₁)
      rename (0 < _) => hpos
      rw [List.length_map] at hpos
      rw [List.length_map]
      unfold Stop
      k_dflt (refine' con_callG (inner2_con w (inn_mk ?hK ?hI) ?hf ?m1 ?d1 ?m2 ?d2 ?m3 ?d3 ?mc ?dc ?dv ?mD hI hds hn hn' hl ds.length 0 ds.length _ _ ?e0 ?e1 ?e2) ?k1 ?k2 ?k3 ?k4 ?k5 ?kK ?kd ?ku ?_; (case k4 => exact N₁); (case hf => k_mem); (case m1 => k_mem); (case d1 => assumption); (case m2 => k_mem); (case d2 => assumption); (case m3 => k_mem); (case d3 => assumption); (case mc => k_mem); (case dc => assumption); (case dv => assumption); (case mD => k_mem); (case hK => k_is); (case hI => exact rfl); (case e0 => omega); (case e1 => omega); (case e2 => omega); (case k1 => k_asm); (case k2 => k_asm); (case k3 => k_asm); (case k5 => k_asm); (case kK => first | exact rfl | assumption); (case kd => ktr_room); (case ku => ktr_units))
      intro v9 led9 h9 tk9 R9 F9 N9
      obtain ⟨⟨t9, rfl⟩, rfl⟩ := R9
      rw [cut_all]
      clear N₁
      (try dsimp only)
      (try k_fold)
      k_steps
      (rename Fr h₀ L _ _ => F₃); (rename News h₀ L _ _ => N₃)
      exact hret _ _ _ _ ⟨_, _, rfl, .used hc88 (by assumption) (by assumption), rfl, fresh_old⟩ F₃ (drop_news N₃ (sub_cons (by k_mem) (sub_cons (by k_mem) (sub_cons (by k_mem) fun p hp => by repeat (first | exact hp | apply List.mem_cons_of_mem)))))
    · (rename Fr h₀ L _ _ => F₃); (rename News h₀ L _ _ => N₃)
      rename (¬ 0 < _) => hpos
      rw [List.length_map] at hpos
      have hd0 : ds = [] := List.eq_nil_of_length_eq_zero (by omega)
      subst hd0
      exact hret _ _ _ _ ⟨_, _, rfl, .used hc88 (by assumption) (by assumption), rfl, fresh_old⟩ F₃ (drop_news N₃ (sub_cons (by k_mem) (sub_cons (by k_mem) (sub_cons (by k_mem) fun p hp => by repeat (first | exact hp | apply List.mem_cons_of_mem)))))
end Mine
end
section
open PySem PySem.W PyProof.Rows
set_option Elab.async false
set_option maxRecDepth 100000
set_option maxHeartbeats 1000000
namespace Mine
theorem div_con (w : World) (news : List (Addr × Obj)) (x y z : Int) (t u v : Tok) (ha : (Builtin.Int.intBits x : Int) - z ≤ 4000) (hb : y ≠ 0) (hb' : y.natAbs < 1073741824) :
    Con w 72 news [.int x t, .int y u, .int z v] 1 16 (fun v tl => ∃ r t1 t2, v = .ref r ∧ tl = [(r, { cls := .type "tuple", data := .seq #[.int (x.fdiv y) t1, .int (x.fmod y) t2] })]) := by
  intro dp un gd cn cs a ccd cl outer A₀ base h₀ L m s Q E p loose mean mg mb B F X N T hk hd hu hret
  revert X
  k_fill
  intro X
  refine wpAny_call ?_
  k_dflt (refine' code_def (binds := [(Str.ofString "a", .int x t), (Str.ofString "b", .int y u), (Str.ofString "n", .int z v)]) ?k1 ?k2 ?k3 ?k4 ?k5 ?kA ?kF ?kK ?k6 ?k7 ?k8 ?k9 ?kB ?_ ?c2 ?c3 ?c4 ?c5; (case kA => exact rfl); (case kF => exact rfl); (case kK => assumption); (case k1 => k_asm); (case k2 => k_asm); (case k3 => k_asm); (case k4 => k_asm); (case k5 => k_asm); (case k6 => k_is); (case k7 => k_is); (case k8 => ktr_room); (case k9 => exact BindsTo.of_eq rfl); (case c5 => decide); (case kB => exact locs rfl); (case c2 => exact rfl); (case c3 => exact rfl); (case c4 => exact rfl); k_whole; intro g' L' h' FG' F' N' B' X' T'; (try dsimp only); (try k_fold))
  k_steps
  (rename Fr h₀ L _ _ => F₃); (rename News h₀ L _ _ => N₃)
  exact hret _ [(_, _)] _ _ ⟨_, _, _, rfl, rfl⟩ F₃ N₃ (fun q hq p hp => by rw [List.mem_singleton.mp hp]; exact Heap.lt_size (N' q hq).1)
theorem div_conN (w : World) (news : List (Addr × Obj)) (X : Int) (x b nn : Nat) (t u v : Tok) (e : X = (x : Int)) (hx : x < 2 ^ 128) (hb : 1 ≤ b) (hb' : b < 1073741824) :
    Con w 72 news [.int X t, .int (b : Int) u, .int (nn : Int) v] 1 16 (fun v tl => ∃ r t1 t2, v = .ref r ∧ tl = [(r, { cls := .type "tuple", data := .seq #[.int ((x / b : Nat) : Int) t1, .int ((x % b : Nat) : Int) t2] })]) := by
  subst e
  have h := intBits_nat hx
  have c := div_con w news (x : Int) (b : Int) (nn : Int) t u v (by omega) (by omega) (by omega)
  have e1 : (x : Int).fdiv (b : Int) = ((x / b : Nat) : Int) := by rw [Int.fdiv_eq_ediv_of_nonneg _ (by omega), Int.natCast_ediv]
  have e2 : (x : Int).fmod (b : Int) = ((x % b : Nat) : Int) := by rw [Int.fmod_eq_emod_of_nonneg _ (by omega), Int.natCast_emod]
  rw [e1, e2] at c
  exact c
section
variable {prog : Program} {w : World} {A : Around} {E : Value → Shared → Prop} {s : Shared} {env : Env} {h₀ : Heap} {x : Str} {body : List Stmt} {Q : Flow → Shared → Prop}
theorem unrPost_mono {L I : Addr} {it : Obj} {r r' : (Str → Option Value) → List (Addr × Obj) → Prop} {s₁ s₂ : Shared} {f : Flow} (h : ∀ m n, r m n → r' m n) (x : UnrPost h₀ L s₁ I it r Q f s₂) : UnrPost h₀ L s₁ I it r' Q f s₂ := by
  cases f with
  | ret v => exact x
  | brk => exact x
  | next => obtain ⟨h', tk, m', news', e, F, N, o, q⟩ := x; exact ⟨h', tk, m', news', e, F, N, o, h _ _ q⟩
  | cont => obtain ⟨h', tk, m', news', e, F, N, o, q⟩ := x; exact ⟨h', tk, m', news', e, F, N, o, h _ _ q⟩
theorem rev_ind {I : Addr} {lp : Addr × Obj} (Inv : List Value → (Str → Option Value) → List (Addr × Obj) → Prop)
    (zero : ∀ m news, Inv [] m news → ∀ h tk, Fr h₀ env.locals h m → News h₀ env.locals h news → Q .next { s with heap := h, toks := tk })
    (succ : ∀ v r m news, Inv (v :: r) m news → ∀ (it : Obj) h tk, it.cls = .type "list_reverseiterator" → Fr h₀ env.locals h (fun y => if y = x then some v else m y) → News h₀ env.locals h ((I, it) :: news) →
      wpAny (model prog w) A (execs body env) (UnrPost h₀ env.locals { s with heap := h, toks := tk } I it (fun m' n' => lp ∈ n' ∧ Inv r m' n') Q) E { s with heap := h, toks := tk }) :
    ∀ l m news, Inv l m news → RevRest prog w A E h₀ env x body Q s I lp l m news
  | [], m, news, hI => RevRest.zero (zero m news hI)
  | v :: r, m, news, hI => RevRest.succ fun it h tk hc F N => wpAny_mono (succ v r m news hI it h tk hc F N) (fun _ _ p => unrPost_mono (fun m n q => ⟨q.1, rev_ind Inv zero succ r m n q.2⟩) p) fun _ _ e => e
theorem list_ind {I : Addr} {lp : Addr × Obj} (Inv : List Value → (Str → Option Value) → List (Addr × Obj) → Prop)
    (zero : ∀ m news, Inv [] m news → ∀ h tk, Fr h₀ env.locals h m → News h₀ env.locals h news → Q .next { s with heap := h, toks := tk })
    (succ : ∀ v r m news, Inv (v :: r) m news → ∀ (it : Obj) h tk, it.cls = .type "list_iterator" → Fr h₀ env.locals h (fun y => if y = x then some v else m y) → News h₀ env.locals h ((I, it) :: news) →
      wpAny (model prog w) A (execs body env) (UnrPost h₀ env.locals { s with heap := h, toks := tk } I it (fun m' n' => lp ∈ n' ∧ Inv r m' n') Q) E { s with heap := h, toks := tk }) :
    ∀ l m news, Inv l m news → ListRest prog w A E h₀ env x body Q s I lp l m news
  | [], m, news, hI => ListRest.zero (zero m news hI)
  | v :: r, m, news, hI => ListRest.succ fun it h tk hc F N => wpAny_mono (succ v r m news hI it h tk hc F N) (fun _ _ p => unrPost_mono (fun m n q => ⟨q.1, list_ind Inv zero succ r m n q.2⟩) p) fun _ _ e => e
theorem stop_iter {v : Value} {K : Value → Shared → Prop} (h : Stop (wpAny (model prog w) A (pyIter v) K E s)) : wpAny (model prog w) A (pyIter v) K E s := h
end
end Mine
end
section
open PySem PySem.W PyProof.Rows
set_option Elab.async false
set_option maxRecDepth 100000
set_option maxHeartbeats 1000000
namespace Mine
local macro_rules | `(tactic| walk_at "call ref") => `(tactic| refine stop_call ?_)
local macro_rules | `(tactic| walk_at "pyIter ref") => `(tactic| refine stop_iter ?_)
local macro_rules | `(tactic| walk_at "exec While Compare cons nil") => `(tactic| refine stop_while ?_)
local macro_rules | `(tactic| walk_at "WPost") => `(tactic| dsimp only [WPost])
local macro_rules | `(tactic| walk_at "WhlIf") => `(tactic| refine whl_split (fun hW => ?_) (fun hW => ?_))
local macro_rules | `(tactic| walk_at "eval Name") => `(tactic| (k_here; k_dflt (refine' ld ?k1 ?k2 ?_; (case k1 => k_asm); (case k2 => first | exact rfl | assumption); k_whole)))
local macro_rules | `(tactic| walk_at "call ref") => `(tactic| (k_here; (with_reducible show wpAny _ _ (call (Value.ref 72) [Value.int _ _, Value.int _ _, Value.int _ _]) _ _ _); k_dflt (refine' con_call (div_conN _ _ _ _ _ _ _ _ _ (by assumption) (by assumption) (by assumption) (by assumption)) ?k1 ?k2 ?k3 ?k4 ?k5 ?kK ?kd ?ku ?_; (case k1 => k_asm); (case k2 => k_asm); (case k3 => k_asm); (case k4 => k_asm); (case k5 => k_asm); (case kK => first | exact rfl | assumption); (case kd => ktr_room); (case ku => ktr_units)); (intro v9 tl9 h9 tk9 R9 F9 N9 o9); (obtain ⟨l9, t9, u9, e1, e2⟩ := R9); subst e1; subst e2; (replace N9 := one_news N9); (have l1 := one_lt o9); clear o9; (try k_lt l1); (try dsimp only [deedObj] at N9); (try dsimp only); (try k_fold)))
local macro_rules | `(tactic| walk_at "binaryOp LShift int int") => `(tactic| refine ls_is (by omega) (by with_reducible assumption) (by with_reducible assumption) ?_)
local macro_rules | `(tactic| k_all) => `(tactic| first | assumption | exact ne_of_ltA (by assumption) (by omega) | fail "k_all")
theorem ints_app {a b : List Value} {x y : List Int} (h1 : IntsAre a x) (h2 : IntsAre b y) : IntsAre (a ++ b) (x ++ y) := by
  induction h1 with
  | nil => exact h2
  | cons i t _ ih => exact .cons i t ih
theorem ints_rev {vs : List Value} {ds : List Nat} (h : IntsAre vs (ds.map Int.ofNat)) : IntsAre vs.reverse (ds.reverse.map Int.ofNat) := by
  induction ds generalizing vs with
  | nil => cases h; exact .nil
  | cons d ds ih =>
    cases h with
    | cons _ t h =>
      rw [List.reverse_cons, List.reverse_cons, List.map_append]
      exact ints_app (ih h) (.cons _ t .nil)
theorem step_val {nn b r d V VQ : Nat} (h : V = b * VQ + r) : d + 2 ^ nn * V = b * ((r * 2 ^ nn + d) / b + 2 ^ nn * VQ) + (r * 2 ^ nn + d) % b := by
  have e := Nat.div_add_mod (r * 2 ^ nn + d) b
  rw [h, Nat.mul_add, Nat.mul_add]
  rw [show 2 ^ nn * (b * VQ) = b * (2 ^ nn * VQ) by rw [← Nat.mul_assoc, Nat.mul_comm (2 ^ nn) b, Nat.mul_assoc]]
  rw [Nat.mul_comm (2 ^ nn) r]
  generalize hX : r * 2 ^ nn + d = X at *
  generalize b * (2 ^ nn * VQ) = Y at *
  generalize b * (X / b) = Z at *
  omega
theorem rev_list (l : List Value) : (l.toArray).toList.reverse = l.reverse := by simp
theorem len_line {l : List Value} (h : l.length ≤ 100) : (l.toArray).toList.length ≤ sizeLine := by
  rw [sizeLine_eq]
  show l.length ≤ _
  omega
theorem offI_lt {I : Addr} {it : Obj} : ∀ {R : List (Addr × Obj)}, (∀ p ∈ R, @LT.lt Nat _ p.1 I) → OffI I it R
  | [], _ => trivial
  | p :: r, h => ⟨.inl (Nat.ne_of_lt (h p (.head _))), offI_lt fun q hq => h q (.tail _ hq)⟩
local macro_rules | `(tactic| walk_at "call builtin:list.reverse") => `(tactic| (k_here; k_dflt (refine' kl_reverse ?F ?N (rev_list _) ?U ?z ?_; (case F => k_asm); (case N => k_asm); (case U => k_upd); (case z => exact len_line (by assumption))); intro h' F' N'; (try k_sweep)))
inductive PosInv (a b nn N : Nat) (u : Tok) (Dq Da : Addr) (vs : List Value) (R : List (Addr × Obj)) (rem : List Value) (m : Str → Option Value) : List (Addr × Obj) → Prop
  | mk (rd Lo QL : List Nat) (r : Nat) (vq : List Value) (e : Nat) (tr tn : Tok) (i1 : IntsAre rem (rd.map Int.ofNat)) (i2 : digsN nn N a = rd.reverse ++ Lo) (i3 : valN nn Lo = b * valN nn QL + r) (i4 : r < b) (i5 : ∀ q ∈ QL, q < 2 ^ nn) (i6 : QL.length = Lo.length)
    (i7 : IntsAre vq (QL.reverse.map Int.ofNat)) (i8 : m (Str.ofString "r") = some (.int (r : Int) tr)) (i9 : m (Str.ofString "q_digits") = some (.ref Dq)) (i10 : m (Str.ofString "n") = some (.int (nn : Int) tn)) (i11 : m (Str.ofString "b") = some (.int (b : Int) u)) :
    PosInv a b nn N u Dq Da vs R rem m ((Dq, W.listOf vq.toArray e) :: (Da, W.listOf vs.toArray 0) :: R)
theorem pos_con (w : World) (t1 t8 rest : List (Addr × Obj)) (a b nn N : Nat) (t u : Tok) (h1 : TabOk 81 73 4 Q81 t1) (h8 : TabOk 88 88 4 Q88 t8) (hb : 1 ≤ b) (hnn : Builtin.Int.intBits (b : Int) = nn) (hn : 1 ≤ nn) (hn' : nn ≤ 29) (hbn : b < 2 ^ nn) (hN : N ≤ 100)
    (hNe : ((Builtin.Int.intBits (a : Int) : Int) + (nn : Int) - 1).fdiv (nn : Int) = N) (haN : a < 2 ^ (N * nn)) (hr : ∀ p ∈ t8 ++ rest, p.1 ≠ 81) (hr8 : ∀ p ∈ rest, p.1 ≠ 88) :
    ConG w 100 (t1 ++ (t8 ++ rest)) [.int (a : Int) t, .int (b : Int) u] 120 1100 (fun v led => ∃ r q1 q2 t1' t8', v = .ref r ∧ TabOk 81 73 4 Q81 t1' ∧ TabOk 88 88 4 Q88 t8' ∧
      led = (r, { cls := .type "tuple", data := .seq #[.int ((a / b : Nat) : Int) q1, .int ((a % b : Nat) : Int) q2] }) :: (t1' ++ (t8' ++ rest)) ∧ (∀ q ∈ rest, q.1 < r) ∧ Fresh t1 t1' rest ∧ Fresh t8 t8' rest) := by
  intro dp un gd cn cs a' ccd cl outer A₀ base h₀ L m s Q E p' loose mean mg mb B F X N₀ T hk hd hu hret
  revert X
  k_fill
  intro X
  refine wpAny_call ?_
  k_dflt (refine' code_def (binds := [(Str.ofString "a", .int (a : Int) t), (Str.ofString "b", .int (b : Int) u)]) ?k1 ?k2 ?k3 ?k4 ?k5 ?kA ?kF ?kK ?k6 ?k7 ?k8 ?k9 ?kB ?_ ?c2 ?c3 ?c4 ?c5; (case kA => exact rfl); (case kF => exact rfl); (case kK => assumption); (case k1 => k_asm); (case k2 => k_asm); (case k3 => k_asm); (case k4 => k_asm); (case k5 => k_asm); (case k6 => k_is); (case k7 => k_is); (case k8 => ktr_room); (case k9 => exact BindsTo.of_eq rfl); (case c5 => decide); (case kB => exact locs rfl); (case c2 => exact rfl); (case c3 => exact rfl); (case c4 => exact rfl); k_whole; intro g' L' h' FG' F' N' B' X' T'; (try dsimp only); (try k_fold))
  k_steps
  rw [hnn]
  unfold Stop
  k_dflt (refine' con_callG (i2d_con w t1 (t8 ++ rest) a nn N _ _ h1 hn (by omega) hN hNe haN hr ⟨_, List.mem_append_left _ (tab_mem h8).choose_spec⟩) ?k1 ?k2 ?k3 ?k4 ?k5 ?kK ?kd ?ku ?_; (case k1 => k_asm); (case k2 => k_asm); (case k3 => k_asm); (case k4 => k_asm); (case k5 => k_asm); (case kK => first | exact rfl | assumption); (case kd => ktr_room); (case ku => ktr_units))
  intro v9 led9 h9 tk9 R9 F9 N9
  obtain ⟨Da, vs, t1', rfl, h1', rfl, hI, hlt, fr1⟩ := R9
  (try dsimp only)
  (try k_fold)
  generalize hR : t1' ++ (t8 ++ rest) = R at N9
  k_steps
  (rename Fr g' L' _ _ => F₁); (rename News g' L' _ _ => N₁); rename (_ ∧ _ ∧ AllLt _ R) => l₁; rename (_ ∧ AllLt _ R) => l₂
  rename_i Dq hh2 hh1 I hh0
  rw [hnn] at F₁
  unfold Stop
  have hDq : ∀ p ∈ R, @LT.lt Nat _ p.1 _ := ktn_ltOf l₂.2
  have hI9 : ∀ p ∈ R, @LT.lt Nat _ p.1 _ := ktn_ltOf l₁.2.2
  refine iter_revUnr (vs := vs) rfl F₁ N₁ ⟨.inl (Nat.ne_of_lt l₁.1), .inl (Nat.ne_of_lt l₁.2.1), offI_lt hI9⟩ (.tail _ (.head _)) rfl rfl ?_
  refine rev_ind (PosInv a b nn N u Dq Da vs R) ?_ ?_ _ _ _ ?_
  · rintro m₁ news₁ ⟨rd, Lo, QL, r, vq, e, tr, tn, i1, i2, i3, i4, i5, i6, i7, i8, i9, i10, i11⟩ h₂ tk₂ F₂ N₂
    have hrd : rd = [] := by
      cases rd with
      | nil => rfl
      | cons d rd => cases i1
    subst hrd
    rw [List.reverse_nil, List.nil_append] at i2
    have hql : QL.length = N := by
      have h := congrArg List.length i2
      rw [digs_len] at h
      omega
    have hvq : vq.length ≤ 100 := by rw [i7.length, List.length_map, List.length_reverse]; omega
    have e88 : @LT.lt Nat _ 88 Dq := by
      obtain ⟨o88, m88⟩ := tab_mem h8
      exact hDq (88, o88) (by rw [← hR]; exact List.mem_append_right _ (List.mem_append_left _ m88))
    k_steps
    (rename News g' L' _ _ => N₃)
    have msub : ∀ p ∈ t8 ++ (t1' ++ rest), p ∈ R := by
      intro p hp
      rw [← hR]
      simp only [List.mem_append] at hp ⊢
      exact hp.elim (fun h => .inr (.inl h)) fun h => h.elim .inl fun h => .inr (.inr h)
    have N₄ : News g' L' _ ((Dq, W.listOf vq.reverse.toArray e) :: (t8 ++ (t1' ++ rest))) := drop_news N₃ (sub_cons (.head _) fun p hp => .tail _ (.tail _ (msub p hp)))
    clear N₁ N₃
    have i7' := ints_rev i7
    rw [List.reverse_reverse] at i7'
    unfold Stop
    k_dflt (refine' con_callG (d2i_con w t8 (t1' ++ rest) Dq nn e vq.reverse QL _ h8 hn (by omega) i7' i5 (by omega) (fun p hp => (List.mem_append.mp hp).elim (tab_ne h1' (by decide) (by decide) p) (hr8 p)) (Nat.ne_of_gt e88)) ?k1 ?k2 ?k3 ?k4 ?k5 ?kK ?kd ?ku ?_; (case k1 => k_asm); (case k2 => k_asm); (case k3 => k_asm); (case k4 => k_asm); (case k5 => k_asm); (case kK => first | exact rfl | assumption); (case kd => ktr_room); (case ku => ktr_units))
    intro v9 led9 h9 tk9 R9 F9 N9
    obtain ⟨tq, t8', rfl, h8', rfl, fr8⟩ := R9
    (try dsimp only)
    (try k_fold)
    k_steps
    (rename Fr h₀ L _ _ => F₃); (rename News h₀ L _ _ => N₃); rename (_ < _ ∧ AllLt _ _) => l₃
    have hval := val_digs nn N a haN
    rw [i2, i3] at hval
    have hq : a / b = valN nn QL := by
      rw [← hval, Nat.mul_add_div hb, Nat.div_eq_of_lt i4, Nat.add_zero]
    have hrr : a % b = r := by
      rw [← hval, Nat.mul_add_mod, Nat.mod_eq_of_lt i4]
    rw [← hq, ← hrr] at N₃
    refine hret _ _ _ _ ⟨_, tq, tr, t1', t8', rfl, h1', h8', rfl, ?_, fr1.sub fun p hp => List.mem_append_right _ hp, fr8.sub fun p hp => List.mem_append_right _ hp⟩ F₃ (drop_news N₃ ?_)
    · intro q hq
      exact ktn_ltOf l₃.2 q (List.mem_append_right _ (List.mem_append_right _ hq))
    · refine sub_cons (.head _) fun p hp => .tail _ (.tail _ ?_)
      show p ∈ t8' ++ (t1' ++ rest)
      simp only [List.mem_append] at hp ⊢
      exact hp.elim (fun h => .inr (.inl h)) fun h => h.elim .inl fun h => .inr (.inr h)
  · rintro v₁ rem₁ m₁ news₁ ⟨rd, Lo, QL, r, vq, e, tr, tn, i1, i2, i3, i4, i5, i6, i7, i8, i9, i10, i11⟩ it₂ h₂ tk₂ hc₂ F₂ N₂
    clear F₁ N₁
    cases rd with
    | nil => cases i1
    | cons d rd =>
    cases i1 with
    | cons _ td i1 =>
    have hd2 : d < 2 ^ nn := digs_lt nn N a d (by rw [i2]; simp)
    have hxb : r * 2 ^ nn + d < b * 2 ^ nn := by
      have h := Nat.mul_le_mul_right (2 ^ nn) (show r + 1 ≤ b from i4)
      rw [Nat.add_mul, Nat.one_mul] at h
      omega
    have hp29 : (2 : Nat) ^ nn ≤ 2 ^ 29 := Nat.pow_le_pow_right (by decide) hn'
    have hb29 : b < 536870912 := Nat.lt_of_lt_of_le hbn hp29
    have hx128 : r * 2 ^ nn + d < 2 ^ 128 := by
      have h := Nat.mul_le_mul (Nat.le_of_lt hb29) hp29
      have h2 : (536870912 : Nat) * 2 ^ 29 < 2 ^ 128 := by decide
      omega
    have hb30 : b < 1073741824 := by omega
    have ePow := ls_eq r nn
    have eSize : (Builtin.Int.intBits ((r : Nat) : Int) : Int) + (nn : Int) ≤ 2 ^ 27 := by
      have h := intBits_nat (a := r) (m := nn) (by omega)
      omega
    have eX : ((r * 2 ^ nn : Nat) : Int) + (Int.ofNat d) = ((r * 2 ^ nn + d : Nat) : Int) := by rw [Int.natCast_add]; rfl
    have hql : QL.length ≤ 100 := by
      have h := congrArg List.length i2
      rw [digs_len, List.length_append] at h
      omega
    have hvq : vq.length ≤ 100 := by rw [i7.length, List.length_map, List.length_reverse]; exact hql
    k_steps
    (rename Fr g' L' _ _ => F₃); (rename News g' L' _ _ => N₃)
    simp only [List.push_toArray] at N₃
    refine UnrEnd.intro F₃ N₃ ((Dq, W.listOf (vq ++ [_]).toArray (e + 1)) :: (Da, W.listOf vs.toArray 0) :: R) (sub_cons (by k_mem) (sub_cons (by k_mem) (sub_cons (by k_mem) fun p hp => by repeat (first | exact hp | apply List.mem_cons_of_mem))))
      (List.forall_mem_cons.mpr ⟨Nat.ne_of_lt l₁.1, List.forall_mem_cons.mpr ⟨Nat.ne_of_lt l₁.2.1, fun p hp => Nat.ne_of_lt (hI9 p hp)⟩⟩)
      ⟨.tail _ (.head _), rd, d :: Lo, (r * 2 ^ nn + d) / b :: QL, (r * 2 ^ nn + d) % b, _, _, _, _, i1, by rw [i2]; simp, step_val i3, Nat.mod_lt _ hb, ?_, by simp [i6], ?_, (by exact rfl), (by exact i9), (by exact i10), (by exact i11)⟩
    · intro q hq
      rcases List.mem_cons.mp hq with rfl | hq
      · exact Nat.div_lt_of_lt_mul (by omega)
      · exact i5 q hq
    · rw [List.reverse_cons, List.map_append]
      exact ints_app i7 (.cons _ _ .nil)
  · refine ⟨(digsN nn N a).reverse, [], [], 0, [], 0, _, _, ints_rev hI, by simp, rfl, hb, (fun _ h => nomatch h), rfl, .nil, rfl, rfl, rfl, rfl⟩
end Mine
end
section
open PySem PySem.W PyProof.Rows
set_option Elab.async false
set_option maxRecDepth 100000
set_option maxHeartbeats 1000000
namespace Mine
local macro_rules | `(tactic| walk_at "call ref") => `(tactic| refine stop_call ?_)
theorem bits_pow (a : Nat) : a < 2 ^ (Builtin.Int.intBits (a : Int)) := by
  unfold Builtin.Int.intBits
  split
  · rename_i h
    have h0 : a = 0 := by simpa using h
    subst h0
    decide
  · rename_i h
    have h0 : a ≠ 0 := by intro q; subst q; exact h rfl
    rw [Int.natAbs_natCast]
    exact Nat.lt_log2_self
theorem bits_pos {b : Nat} (h : 1 ≤ b) : 1 ≤ Builtin.Int.intBits (b : Int) := by
  have h1 := bits_pow b
  rcases Nat.eq_zero_or_pos (Builtin.Int.intBits (b : Int)) with h0 | h0
  · rw [h0] at h1; simp at h1; omega
  · exact h0
def DivIs (t1 t8 rest : List (Addr × Obj)) (q r : Int) : Value → List (Addr × Obj) → Prop := fun v led => ∃ p q1 q2 t1' t8', v = .ref p ∧ TabOk 81 73 4 Q81 t1' ∧ TabOk 88 88 4 Q88 t8' ∧
      led = (p, { cls := .type "tuple", data := .seq #[.int q q1, .int r q2] }) :: (t1' ++ (t8' ++ rest)) ∧ (∀ q ∈ rest, q.1 < p) ∧ Fresh t1 t1' rest ∧ Fresh t8 t8' rest
theorem pos_con' (w : World) (t1 t8 rest : List (Addr × Obj)) (a b : Nat) (t u : Tok) (h1 : TabOk 81 73 4 Q81 t1) (h8 : TabOk 88 88 4 Q88 t8) (hb : 1 ≤ b) (hb' : b < 2 ^ 29) (ha : a < 2 ^ 100) (hr : ∀ p ∈ rest, p.1 ≠ 81) (hr8 : ∀ p ∈ rest, p.1 ≠ 88) :
    ConG w 100 (t1 ++ (t8 ++ rest)) [.int (a : Int) t, .int (b : Int) u] 120 1100 (DivIs t1 t8 rest ((a / b : Nat) : Int) ((a % b : Nat) : Int)) := by
  have hn := bits_pos hb
  have hn' := intBits_nat hb'
  have ha' := intBits_nat ha
  have hbp := bits_pow b
  have hap := bits_pow a
  generalize hnn : Builtin.Int.intBits (b : Int) = nn at *
  generalize haa : Builtin.Int.intBits (a : Int) = m at *
  have hd := Nat.div_add_mod (m + nn - 1) nn
  have hm := Nat.mod_lt (m + nn - 1) (show 0 < nn from hn)
  have hge : m ≤ (m + nn - 1) / nn * nn := by
    rw [Nat.mul_comm]
    generalize nn * ((m + nn - 1) / nn) = Z at *
    omega
  have hN : (m + nn - 1) / nn ≤ 100 := by
    refine Nat.le_of_lt_succ (Nat.div_lt_of_lt_mul ?_)
    have h := Nat.mul_le_mul_left nn (show 101 ≥ 101 from Nat.le_refl _)
    have h2 : 101 * 1 ≤ 101 * nn := Nat.mul_le_mul_left 101 hn
    have h3 : nn * 101 = 100 * nn + nn := by omega
    have h4 : 100 * 1 ≤ 100 * nn := Nat.mul_le_mul_left 100 hn
    show m + nn - 1 < nn * (100 + 1)
    omega
  refine pos_con w t1 t8 rest a b nn ((m + nn - 1) / nn) t u h1 h8 hb hnn hn hn' hbp hN ?_ (Nat.lt_of_lt_of_le hap (Nat.pow_le_pow_right (by decide) hge)) ?_ hr8
  · rw [haa, Int.fdiv_eq_ediv_of_nonneg _ (by omega), Int.natCast_ediv]
    congr 1
    omega
  · intro p hp
    exact (List.mem_append.mp hp).elim (tab_ne h8 (by decide) (by decide) p) (hr p)
theorem fdm_unique {x y q r : Int} (hy : 0 < y) (e : x = y * q + r) (h0 : 0 ≤ r) (h1 : r < y) : x.fdiv y = q ∧ x.fmod y = r := by
  rw [Int.fdiv_eq_ediv_of_nonneg _ (Int.le_of_lt hy), Int.fmod_eq_emod_of_nonneg _ (Int.le_of_lt hy)]
  exact (Int.ediv_emod_unique hy).mpr ⟨by rw [e, Int.add_comm], h0, h1⟩
theorem fdm_spec (x : Int) {y : Int} (hy : 0 < y) : x = y * x.fdiv y + x.fmod y ∧ 0 ≤ x.fmod y ∧ x.fmod y < y :=
  ⟨(Int.mul_fdiv_add_fmod x y).symm, Int.fmod_nonneg_of_pos _ hy, Int.fmod_lt_of_pos _ hy⟩
theorem not_fdiv {x y : Int} (hy : 0 < y) : Builtin.bitNot ((Builtin.bitNot x).fdiv y) = x.fdiv y ∧ y + Builtin.bitNot ((Builtin.bitNot x).fmod y) = x.fmod y := by
  obtain ⟨e, h0, h1⟩ := fdm_spec (Builtin.bitNot x) hy
  generalize (Builtin.bitNot x).fdiv y = q at *
  generalize (Builtin.bitNot x).fmod y = r at *
  unfold Builtin.bitNot at *
  have h := fdm_unique (x := x) (q := -q - 1) (r := y + (-r - 1)) hy (by rw [Int.mul_sub, Int.mul_neg, Int.mul_one]; omega) (by omega) (by omega)
  exact ⟨h.1.symm, h.2.symm⟩
theorem neg_fdiv {x y : Int} : (-x).fdiv (-y) = x.fdiv y ∧ -((-x).fmod (-y)) = x.fmod y := by
  have h : (-x).fdiv (-y) = x.fdiv y := Int.neg_fdiv_neg x y
  refine ⟨h, ?_⟩
  rw [Int.fmod_def, Int.fmod_def, h, Int.neg_mul]
  omega
theorem idm_pp (w : World) (t1 t8 rest : List (Addr × Obj)) (x y : Nat) (t u : Tok) (h1 : TabOk 81 73 4 Q81 t1) (h8 : TabOk 88 88 4 Q88 t8) (hy : 1 ≤ y) (hy' : y < 2 ^ 29) (hx : x < 2 ^ 100) (hr : ∀ p ∈ rest, p.1 ≠ 81) (hr8 : ∀ p ∈ rest, p.1 ≠ 88) :
    ConG w 107 (t1 ++ (t8 ++ rest)) [.int (x : Int) t, .int (y : Int) u] 130 1200 (DivIs t1 t8 rest ((x / y : Nat) : Int) ((x % y : Nat) : Int)) := by
  intro dp un gd cn cs a ccd cl outer A₀ base h₀ L m s Q E p loose mean mg mb B F X N T hk hd hu hret
  revert X
  k_fill
  intro X
  refine wpAny_call ?_
  k_dflt (refine' code_def (binds := [(Str.ofString "a", .int (x : Int) t), (Str.ofString "b", .int (y : Int) u)]) ?k1 ?k2 ?k3 ?k4 ?k5 ?kA ?kF ?kK ?k6 ?k7 ?k8 ?k9 ?kB ?_ ?c2 ?c3 ?c4 ?c5; (case kA => exact rfl); (case kF => exact rfl); (case kK => assumption); (case k1 => k_asm); (case k2 => k_asm); (case k3 => k_asm); (case k4 => k_asm); (case k5 => k_asm); (case k6 => k_is); (case k7 => k_is); (case k8 => ktr_room); (case k9 => exact BindsTo.of_eq rfl); (case c5 => decide); (case kB => exact locs rfl); (case c2 => exact rfl); (case c3 => exact rfl); (case c4 => exact rfl); k_whole; intro g' L' h' FG' F' N' B' X' T'; (try dsimp only); (try k_fold))
  k_steps
  · exfalso; omega
  · unfold Stop
    k_dflt (refine' con_callG (pos_con' w t1 t8 rest x y _ _ h1 h8 hy hy' hx hr hr8) ?k1 ?k2 ?k3 ?k4 ?k5 ?kK ?kd ?ku ?_; (case k1 => k_asm); (case k2 => k_asm); (case k3 => k_asm); (case k4 => k_asm); (case k5 => k_asm); (case kK => first | exact rfl | assumption); (case kd => ktr_room); (case ku => ktr_units))
    intro v9 led9 h9 tk9 R9 F9 N9
    obtain ⟨p9, q1, q2, t1', t8', rfl, h1', h8', rfl, o9, fr1, fr8⟩ := R9
    (try dsimp only)
    k_steps
    (rename Fr h₀ L _ _ => F₃); (rename News h₀ L _ _ => N₃)
    exact hret _ _ _ _ ⟨p9, q1, q2, t1', t8', rfl, h1', h8', rfl, o9, fr1, fr8⟩ F₃ N₃
theorem idm_pp' (w : World) (t1 t8 rest : List (Addr × Obj)) (x y : Int) (t u : Tok) (h1 : TabOk 81 73 4 Q81 t1) (h8 : TabOk 88 88 4 Q88 t8) (hy : 1 ≤ y) (hy' : y < 2 ^ 29) (hx0 : 0 ≤ x) (hx : x < 2 ^ 100) (hr : ∀ p ∈ rest, p.1 ≠ 81) (hr8 : ∀ p ∈ rest, p.1 ≠ 88) :
    ConG w 107 (t1 ++ (t8 ++ rest)) [.int x t, .int y u] 130 1200 (DivIs t1 t8 rest (x.fdiv y) (x.fmod y)) := by
  obtain ⟨x', rfl⟩ := Int.eq_ofNat_of_zero_le hx0
  obtain ⟨y', rfl⟩ := Int.eq_ofNat_of_zero_le (show 0 ≤ y by omega)
  have c := idm_pp w t1 t8 rest x' y' t u h1 h8 (by omega) (by omega) (by omega) hr hr8
  rw [Int.fdiv_eq_ediv_of_nonneg _ (by omega), Int.fmod_eq_emod_of_nonneg _ (by omega), ← Int.natCast_ediv, ← Int.natCast_emod]
  exact c
theorem idm_np (w : World) (t1 t8 rest : List (Addr × Obj)) (x y : Int) (t u : Tok) (h1 : TabOk 81 73 4 Q81 t1) (h8 : TabOk 88 88 4 Q88 t8) (hy : 1 ≤ y) (hy' : y < 2 ^ 29) (hx : x < 0) (hx' : -x < 2 ^ 100) (hr : ∀ p ∈ rest, p.1 ≠ 81) (hr8 : ∀ p ∈ rest, p.1 ≠ 88) :
    ConG w 107 (t1 ++ (t8 ++ rest)) [.int x t, .int y u] 140 1300 (DivIs t1 t8 rest (x.fdiv y) (x.fmod y)) := by
  have hb0 : 0 ≤ Builtin.bitNot x := by unfold Builtin.bitNot; omega
  have hb1 : Builtin.bitNot x < 2 ^ 100 := by unfold Builtin.bitNot; omega
  obtain ⟨f1, f2⟩ := not_fdiv (x := x) (y := y) (by omega)
  intro dp un gd cn cs a ccd cl outer A₀ base h₀ L m s Q E p loose mean mg mb B F X N T hk hd hu hret
  revert X
  k_fill
  intro X
  refine wpAny_call ?_
  k_dflt (refine' code_def (binds := [(Str.ofString "a", .int x t), (Str.ofString "b", .int y u)]) ?k1 ?k2 ?k3 ?k4 ?k5 ?kA ?kF ?kK ?k6 ?k7 ?k8 ?k9 ?kB ?_ ?c2 ?c3 ?c4 ?c5; (case kA => exact rfl); (case kF => exact rfl); (case kK => assumption); (case k1 => k_asm); (case k2 => k_asm); (case k3 => k_asm); (case k4 => k_asm); (case k5 => k_asm); (case k6 => k_is); (case k7 => k_is); (case k8 => ktr_room); (case k9 => exact BindsTo.of_eq rfl); (case c5 => decide); (case kB => exact locs rfl); (case c2 => exact rfl); (case c3 => exact rfl); (case c4 => exact rfl); k_whole; intro g' L' h' FG' F' N' B' X' T'; (try dsimp only); (try k_fold))
  k_steps
  · exfalso; omega
  · unfold Stop
    k_dflt (refine' con_callG (idm_pp' w t1 t8 rest (Builtin.bitNot x) y _ _ h1 h8 hy hy' hb0 hb1 hr hr8) ?k1 ?k2 ?k3 ?k4 ?k5 ?kK ?kd ?ku ?_; (case k1 => k_asm); (case k2 => k_asm); (case k3 => k_asm); (case k4 => k_asm); (case k5 => k_asm); (case kK => first | exact rfl | assumption); (case kd => ktr_room); (case ku => ktr_units))
    intro v9 led9 h9 tk9 R9 F9 N9
    obtain ⟨p9, q1, q2, t1', t8', rfl, h1', h8', rfl, o9, fr1, fr8⟩ := R9
    generalize hR : t1' ++ (t8' ++ rest) = R at N9
    (try dsimp only)
    k_steps
    (rename Fr h₀ L _ _ => F₃); (rename News h₀ L _ _ => N₃); rename (_ < _ ∧ AllLt _ _) => l₃
    rw [f1, f2] at N₃
    rw [← hR] at N₃ l₃
    exact hret _ _ _ _ ⟨_, _, _, t1', t8', rfl, h1', h8', rfl, fun q hq => ktn_ltOf l₃.2 q (List.mem_append_right _ (List.mem_append_right _ hq)), fr1, fr8⟩ F₃ (drop_news N₃ (sub_cons (.head _) fun p hp => .tail _ (.tail _ hp)))
theorem idm_p (w : World) (t1 t8 rest : List (Addr × Obj)) (x y : Int) (t u : Tok) (h1 : TabOk 81 73 4 Q81 t1) (h8 : TabOk 88 88 4 Q88 t8) (hy : 1 ≤ y) (hy' : y < 2 ^ 29) (hx : x < 2 ^ 100) (hx' : -x < 2 ^ 100) (hr : ∀ p ∈ rest, p.1 ≠ 81) (hr8 : ∀ p ∈ rest, p.1 ≠ 88) :
    ConG w 107 (t1 ++ (t8 ++ rest)) [.int x t, .int y u] 140 1300 (DivIs t1 t8 rest (x.fdiv y) (x.fmod y)) := by
  by_cases h : x < 0
  · exact idm_np w t1 t8 rest x y t u h1 h8 hy hy' h hx' hr hr8
  · intro dp un gd cn cs a ccd cl outer A₀ base h₀ L m s Q E p loose mean mg mb B F X N T hk hd hu hret
    exact idm_pp' w t1 t8 rest x y t u h1 h8 hy hy' (by omega) hx hr hr8 dp un gd cn cs a ccd cl outer A₀ base h₀ L m s Q E p loose mean mg mb B F X N T hk (by omega) (by omega) hret
theorem idm_con (w : World) (t1 t8 rest : List (Addr × Obj)) (x y : Int) (t u : Tok) (h1 : TabOk 81 73 4 Q81 t1) (h8 : TabOk 88 88 4 Q88 t8) (hy0 : y ≠ 0) (hy : y < 2 ^ 29) (hy' : -y < 2 ^ 29) (hx : x < 2 ^ 100) (hx' : -x < 2 ^ 100) (hr : ∀ p ∈ rest, p.1 ≠ 81) (hr8 : ∀ p ∈ rest, p.1 ≠ 88) :
    ConG w 107 (t1 ++ (t8 ++ rest)) [.int x t, .int y u] 150 1400 (DivIs t1 t8 rest (x.fdiv y) (x.fmod y)) := by
  by_cases h : 0 < y
  · intro dp un gd cn cs a ccd cl outer A₀ base h₀ L m s Q E p loose mean mg mb B F X N T hk hd hu hret
    exact idm_p w t1 t8 rest x y t u h1 h8 h hy hx hx' hr hr8 dp un gd cn cs a ccd cl outer A₀ base h₀ L m s Q E p loose mean mg mb B F X N T hk (by omega) (by omega) hret
  · obtain ⟨f1, f2⟩ := neg_fdiv (x := x) (y := y)
    have hyn : y < 0 := by omega
    intro dp un gd cn cs a ccd cl outer A₀ base h₀ L m s Q E p loose mean mg mb B F X N T hk hd hu hret
    revert X
    k_fill
    intro X
    refine wpAny_call ?_
    k_dflt (refine' code_def (binds := [(Str.ofString "a", .int x t), (Str.ofString "b", .int y u)]) ?k1 ?k2 ?k3 ?k4 ?k5 ?kA ?kF ?kK ?k6 ?k7 ?k8 ?k9 ?kB ?_ ?c2 ?c3 ?c4 ?c5; (case kA => exact rfl); (case kF => exact rfl); (case kK => assumption); (case k1 => k_asm); (case k2 => k_asm); (case k3 => k_asm); (case k4 => k_asm); (case k5 => k_asm); (case k6 => k_is); (case k7 => k_is); (case k8 => ktr_room); (case k9 => exact BindsTo.of_eq rfl); (case c5 => decide); (case kB => exact locs rfl); (case c2 => exact rfl); (case c3 => exact rfl); (case c4 => exact rfl); k_whole; intro g' L' h' FG' F' N' B' X' T'; (try dsimp only); (try k_fold))
    k_steps
    · exfalso; omega
    · unfold Stop
      k_dflt (refine' con_callG (idm_p w t1 t8 rest (-x) (-y) _ _ h1 h8 (by omega) (by omega) (by omega) (by omega) hr hr8) ?k1 ?k2 ?k3 ?k4 ?k5 ?kK ?kd ?ku ?_; (case k1 => k_asm); (case k2 => k_asm); (case k3 => k_asm); (case k4 => k_asm); (case k5 => k_asm); (case kK => first | exact rfl | assumption); (case kd => ktr_room); (case ku => ktr_units))
      intro v9 led9 h9 tk9 R9 F9 N9
      obtain ⟨p9, q1, q2, t1', t8', rfl, h1', h8', rfl, o9, fr1, fr8⟩ := R9
      generalize hR : t1' ++ (t8' ++ rest) = R at N9
      (try dsimp only)
      k_steps
      (rename Fr h₀ L _ _ => F₃); (rename News h₀ L _ _ => N₃); rename (_ < _ ∧ AllLt _ _) => l₃
      rw [f1, f2] at N₃
      rw [← hR] at N₃ l₃
      exact hret _ _ _ _ ⟨_, _, _, t1', t8', rfl, h1', h8', rfl, fun q hq => ktn_ltOf l₃.2 q (List.mem_append_right _ (List.mem_append_right _ hq)), fr1, fr8⟩ F₃ (drop_news N₃ (sub_cons (.head _) fun p hp => .tail _ (.tail _ hp)))
end Mine
end
section
open PySem PySem.W PyProof.Rows
set_option maxRecDepth 100000
namespace Mine
theorem find_zero (x y : Str) : Txt.find x y = Txt.find3 x y 0 := by
  unfold Txt.find Txt.find3
  have e : fromIndex x.length 0 = 0 := by
    unfold fromIndex
    simp
  rw [e]
  cases Builtin.Str.occurrences x y 0 x.length 1 <;> rfl
theorem getD_drop {x : Str} {v : Nat} {d : Nat} {r : List Nat} (h : x.cps.toList.drop v = d :: r) : x.cps.getD v 0 = d := by
  have h1 : x.cps.toList[v]? = some d := by
    have := congrArg List.head? h
    rw [List.head?_drop] at this
    simpa using this
  rw [Array.getElem?_toList] at h1
  rw [Array.getD_eq_getD_getElem?, h1]
  rfl
theorem find3_at {x : Str} {c k₀ : Nat} {i : Int} {r : List Nat} (h0 : fromIndex x.length i ≤ k₀) (hc : x.cps.toList.drop k₀ = c :: r) (hn : ∀ v, fromIndex x.length i ≤ v → v < k₀ → x.cps.getD v 0 ≠ c) : Txt.find3 x ⟨#[c]⟩ i = (k₀ : Int) := by
  have hg := getD_drop hc
  have hlt : k₀ < x.length := by
    have h := congrArg List.length hc
    rw [List.length_drop, len_list, List.length_cons] at h
    omega
  rcases StrLaws.find3_spec x c i with ⟨_, h⟩ | ⟨k, e, h1, h2, h3, h4⟩
  · exact absurd hg (h k₀ h0 hlt)
  · rw [e]
    congr 1
    rcases Nat.lt_trichotomy k k₀ with h | h | h
    · exact absurd h3 (hn k h1 h)
    · exact h
    · exact absurd hg (h4 k₀ h0 h)
theorem drop_pre {α : Type} (B T : List α) : (B ++ T).drop B.length = T := by simp
theorem getD_pre {x : Str} {B T : List Nat} {v c : Nat} (hx : x.cps.toList = B ++ T) (hv : v < B.length) (hB : c ∉ B) : x.cps.getD v 0 ≠ c := by
  have e : x.cps.toList[v]? = some B[v] := by rw [hx, List.getElem?_append_left hv, List.getElem?_eq_getElem hv]
  rw [Array.getElem?_toList] at e
  rw [Array.getD_eq_getD_getElem?, e]
  intro q
  exact hB (q ▸ List.getElem_mem hv)
theorem sl_mid {x : Str} {i j : Nat} (h : i ≤ j) (hj : j ≤ x.length) : Txt.slice x (some (i : Int)) (some (j : Int)) = ⟨((x.cps.toList.drop i).take (j - i)).toArray⟩ := by
  have e := eq_of_beq (slice_closes (x := x) (i := i) (j := j) ⟨by omega, by omega, by rw [len_list]; omega⟩)
  rw [e]
  congr 3
  omega
theorem sl_to {x : Str} {j : Nat} (hj : j ≤ x.length) : Txt.slice x none (some (j : Int)) = ⟨(x.cps.toList.take j).toArray⟩ := by
  have e := eq_of_beq (slice_closes_to (x := x) (j := j) ⟨by omega, by rw [len_list]; omega⟩)
  rw [e]
  simp
theorem sl_from {x : Str} {i : Nat} (hi : i ≤ x.length) : Txt.slice x (some (i : Int)) none = ⟨(x.cps.toList.drop i).toArray⟩ := by
  have e := eq_of_beq (slice_closes_from (x := x) (i := i) ⟨by omega, by rw [len_list]; omega⟩)
  rw [e, List.take_of_length_le (by rw [List.length_drop, Int.toNat_natCast]; omega), Int.toNat_natCast]
theorem item_drop {x : Str} {i c : Nat} {r : List Nat} (h : x.cps.toList.drop i = c :: r) : Txt.item x (i : Int) = ⟨#[c]⟩ := by
  have hlt : i < x.length := by
    have h := congrArg List.length h
    rw [List.length_drop, len_list, List.length_cons] at h
    omega
  obtain ⟨c', e1, e2⟩ := item_at hlt
  rw [h] at e2
  cases e2
  exact e1
/-- a reply's place: what parse229 looks for -/
theorem places {x : Str} {B D : List Nat} {c : Nat} (hx : x.cps.toList = B ++ 40 :: (c :: c :: c :: (D ++ [c]) ++ [41])) (hB : 40 ∉ B) (hD : 41 ∉ D) (hc : c ≠ 41) :
    Txt.find x ⟨#[40]⟩ = (B.length : Int) ∧ Txt.find3 x ⟨#[41]⟩ ((B.length : Int) + 1) = ((B.length + 5 + D.length : Nat) : Int) ∧ B.length + 5 + D.length ≤ x.length ∧
    Txt.item x ((B.length : Int) + 1) = ⟨#[c]⟩ ∧ Txt.item x (((B.length + 5 + D.length : Nat) : Int) - 1) = ⟨#[c]⟩ ∧
    Txt.slice x (some ((B.length : Int) + 1)) (some ((B.length + 5 + D.length : Nat) : Int)) = ⟨(c :: c :: c :: (D ++ [c])).toArray⟩ := by
  have hlen : x.length = B.length + 6 + D.length := by
    rw [← len_list, hx]
    simp only [List.length_append, List.length_cons, List.length_nil]
    omega
  have e0 : x.cps.toList.drop B.length = 40 :: (c :: c :: c :: (D ++ [c]) ++ [41]) := by rw [hx, drop_pre]
  have e1 : x.cps.toList.drop (B.length + 1) = c :: c :: c :: (D ++ [c]) ++ [41] := by rw [← List.drop_drop, e0]; rfl
  have e4 : x.cps.toList.drop (B.length + 4) = D ++ [c] ++ [41] := by
    rw [show B.length + 4 = B.length + 1 + 3 by omega, ← List.drop_drop, e1]; rfl
  have e5 : x.cps.toList.drop (B.length + 4 + D.length) = [c, 41] := by rw [← List.drop_drop, e4, List.append_assoc, drop_pre]; rfl
  have e6 : x.cps.toList.drop (B.length + 5 + D.length) = [41] := by
    rw [show B.length + 5 + D.length = B.length + 4 + D.length + 1 by omega, ← List.drop_drop, e5]; rfl
  have f1 : ((B.length : Int) + 1) = ((B.length + 1 : Nat) : Int) := by omega
  have f2 : (((B.length + 5 + D.length : Nat) : Int) - 1) = ((B.length + 4 + D.length : Nat) : Int) := by omega
  have g0 : fromIndex x.length 0 = 0 := by unfold fromIndex; simp
  have g1 : fromIndex x.length ((B.length + 1 : Nat) : Int) = B.length + 1 := by unfold fromIndex; rw [if_neg (by omega)]; omega
  refine ⟨?_, ?_, by omega, ?_, ?_, ?_⟩
  · rw [find_zero]
    exact find3_at (by omega) e0 fun v _ hv => getD_pre hx hv hB
  · rw [f1]
    refine find3_at (by omega) e6 fun v h1 hv => ?_
    have hx2 : x.cps.toList = (B ++ 40 :: c :: c :: c :: (D ++ [c])) ++ [41] := by rw [hx]; simp
    rcases Nat.lt_or_ge v (B.length + 1) with h | h
    · omega
    · have e : x.cps.toList[v]? = (c :: c :: c :: (D ++ [c]) ++ [41])[v - (B.length + 1)]? := by
        rw [← e1, List.getElem?_drop]
        congr 1
        omega
      have hl : v - (B.length + 1) < (c :: c :: c :: (D ++ [c])).length := by simp only [List.length_cons, List.length_append, List.length_nil]; omega
      rw [List.getElem?_append_left hl, List.getElem?_eq_getElem hl, Array.getElem?_toList] at e
      rw [Array.getD_eq_getD_getElem?, e]
      intro q
      have hm : (41 : Nat) ∈ c :: c :: c :: (D ++ [c]) := q ▸ List.getElem_mem hl
      simp only [List.mem_cons, List.mem_append, List.not_mem_nil, or_false] at hm
      rcases hm with h | h | h | h | h
      · exact hc h.symm
      · exact hc h.symm
      · exact hc h.symm
      · exact hD h
      · exact hc h.symm
  · rw [f1]
    exact item_drop (r := c :: c :: (D ++ [c]) ++ [41]) (by rw [e1]; rfl)
  · rw [f2]
    exact item_drop e5
  · rw [f1, sl_mid (by omega) (by omega), e1]
    congr 2
    rw [List.take_append_of_le_length (by simp only [List.length_cons, List.length_append, List.length_nil]; omega), List.take_of_length_le (by simp only [List.length_cons, List.length_append, List.length_nil]; omega)]
def nameT : Nat → Str
  | 0 => Str.ofString "//"
  | 1 => Str.ofString "\"//"
  | 2 => Str.ofString "~//"
  | 3 => Str.ofString "+"
  | 4 => Str.ofString "~-"
  | _ => Str.ofString "\"+"
def headA : Nat → List Nat
  | 0 => [50, 53, 55, 32, 34, 47, 47, 34, 32, 97, 116, 32]
  | 1 => [50, 53, 55, 32, 34, 34, 34, 47, 47, 34, 32, 97, 116, 32]
  | 2 => [50, 53, 55, 32, 34, 126, 47, 47, 34, 32, 97, 116, 32]
  | 3 => [50, 53, 55, 32, 34, 43, 34, 32, 97, 116, 32]
  | 4 => [50, 53, 55, 32, 34, 126, 45, 34, 32, 97, 116, 32]
  | _ => [50, 53, 55, 32, 34, 34, 34, 43, 34, 32, 97, 116, 32]
def portD (p : Int) : List Nat := (Str.ofString (toString p)).cps.toList
theorem head_is : ∀ k < 6, (Str.ofString "257 \"" ++ quoted k ++ Str.ofString "\" at (")= ⟨(headA k ++ [40]).toArray⟩ := by decide +kernel
theorem reply_list {k : Nat} (hk : k < 6) (p : Int) (c : Nat) : (replyT k p ⟨#[c]⟩).cps.toList = headA k ++ 40 :: (c :: c :: c :: (portD p ++ [c]) ++ [41]) := by
  unfold replyT portD
  rw [head_is k hk]
  have e : Str.ofString ")" = ⟨#[41]⟩ := by decide +kernel
  rw [e]
  show (((((headA k ++ [40]).toArray ++ (#[c] ++ #[c] ++ #[c])) ++ (Str.ofString (toString p)).cps) ++ #[c]) ++ #[41]).toList = _
  simp
def portOk (c : Nat) (p : Int) : Bool :=
  decide ((portD p).length ≤ 3) && !(portD p).contains 41 && (PySem.intText? ⟨(portD p).toArray⟩ == some p) && (Txt.split ⟨(c :: c :: c :: (portD p ++ [c])).toArray⟩ ⟨#[c]⟩ == [⟨#[]⟩, ⟨#[]⟩, ⟨#[]⟩, ⟨(portD p).toArray⟩, ⟨#[]⟩])
theorem ports124 : (List.range 41).all (fun p => portOk 124 ((p : Int) - 20)) = true := by decide +kernel
theorem ports34 : (List.range 41).all (fun p => portOk 34 ((p : Int) - 20)) = true := by decide +kernel
theorem ports47 : (List.range 41).all (fun p => portOk 47 ((p : Int) - 20)) = true := by decide +kernel
theorem ports33 : (List.range 41).all (fun p => portOk 33 ((p : Int) - 20)) = true := by decide +kernel
theorem ports {c : Nat} (hc : c = 124 ∨ c = 34 ∨ c = 47 ∨ c = 33) {p : Int} (h0 : -20 ≤ p) (h1 : p ≤ 20) : portOk c p = true := by
  have e : p = (((p + 20).toNat : Nat) : Int) - 20 := by omega
  have hm : (p + 20).toNat ∈ List.range 41 := List.mem_range.mpr (by omega)
  rw [e]
  rcases hc with rfl | rfl | rfl | rfl
  · exact List.all_eq_true.mp ports124 _ hm
  · exact List.all_eq_true.mp ports34 _ hm
  · exact List.all_eq_true.mp ports47 _ hm
  · exact List.all_eq_true.mp ports33 _ hm
def q229 (r : Str) : Str := Str.ofString "229" ++ Txt.slice r (some 3) none
theorem head_len : ∀ k < 6, 11 ≤ (headA k).length ∧ (headA k).length ≤ 14 := by decide
theorem head_free : ∀ k < 6, 40 ∉ [50, 50, 57] ++ (headA k).drop 3 := by decide
theorem reply_len {k : Nat} (hk : k < 6) {p : Int} {c : Nat} (hD : (portD p).length ≤ 3) : 17 ≤ (replyT k p ⟨#[c]⟩).length ∧ (replyT k p ⟨#[c]⟩).length ≤ 30 := by
  have h := head_len k hk
  rw [← len_list, reply_list hk]
  simp only [List.length_append, List.length_cons, List.length_nil]
  omega
theorem facts257 {k : Nat} (hk : k < 6) {p : Int} {c : Nat} (hD : (portD p).length ≤ 3) : Txt.slice (replyT k p ⟨#[c]⟩) none (some 3) = Str.ofString "257" ∧ Txt.slice (replyT k p ⟨#[c]⟩) (some 3) (some 5) = Str.ofString " \"" ∧ p257 (replyT k p ⟨#[c]⟩) = nameT k := by
  have hl := reply_len hk (p := p) (c := c) hD
  have hx := reply_list hk p c
  have s1 := sl_to (x := replyT k p ⟨#[c]⟩) (j := 3) (by omega)
  have s2 := sl_mid (x := replyT k p ⟨#[c]⟩) (i := 3) (j := 5) (by omega) (by omega)
  have e1 : Str.ofString "257" = ⟨#[50, 53, 55]⟩ := by decide +kernel
  have e2 : Str.ofString " \"" = ⟨#[32, 34]⟩ := by decide +kernel
  refine ⟨?_, ?_, ?_⟩
  · refine Eq.trans s1 ?_
    rw [hx, e1]
    obtain rfl | rfl | rfl | rfl | rfl | rfl := six_of hk
    all_goals rfl
  · refine Eq.trans s2 ?_
    rw [hx, e2]
    obtain rfl | rfl | rfl | rfl | rfl | rfl := six_of hk
    all_goals rfl
  · unfold p257
    rw [hx]
    obtain rfl | rfl | rfl | rfl | rfl | rfl := six_of hk
    · exact Eq.trans (b := ⟨#[47, 47]⟩) (by simp [headA, scanL]) (by decide +kernel)
    · exact Eq.trans (b := ⟨#[34, 47, 47]⟩) (by simp [headA, scanL]) (by decide +kernel)
    · exact Eq.trans (b := ⟨#[126, 47, 47]⟩) (by simp [headA, scanL]) (by decide +kernel)
    · exact Eq.trans (b := ⟨#[43]⟩) (by simp [headA, scanL]) (by decide +kernel)
    · exact Eq.trans (b := ⟨#[126, 45]⟩) (by simp [headA, scanL]) (by decide +kernel)
    · exact Eq.trans (b := ⟨#[34, 43]⟩) (by simp [headA, scanL]) (by decide +kernel)
theorem q229_list {k : Nat} (hk : k < 6) {p : Int} {c : Nat} (hD : (portD p).length ≤ 3) : (q229 (replyT k p ⟨#[c]⟩)).cps.toList = ([50, 50, 57] ++ (headA k).drop 3) ++ 40 :: (c :: c :: c :: (portD p ++ [c]) ++ [41]) := by
  have hl := reply_len hk (p := p) (c := c) hD
  have s1 := sl_from (x := replyT k p ⟨#[c]⟩) (i := 3) (by omega)
  unfold q229
  rw [show Txt.slice (replyT k p ⟨#[c]⟩) (some 3) none = _ from s1, reply_list hk]
  have e1 : Str.ofString "229" = ⟨#[50, 50, 57]⟩ := by decide +kernel
  rw [e1, List.drop_append_of_le_length (by have h := head_len k hk; omega)]
  show (#[50, 50, 57] ++ (List.drop 3 (headA k) ++ _).toArray).toList = _
  simp
end Mine
end
section
open PySem PySem.W PyProof.Rows
set_option Elab.async false
set_option maxRecDepth 100000
set_option maxHeartbeats 2000000
namespace Mine
section
variable {prog : Program} {w : World} {A : Around} {E : Value → Shared → Prop} {s : Shared} {h₀ : Heap} {L : Addr} {m : PySem.Str → Option Value} {news : List (Addr × Obj)} {x y a b c d e : PySem.Str} {t u : Tok} {Q : Value → Shared → Prop} {i j : Int}
theorem find_is (hf : Txt.find x y = i) (h : Q (.int i s.toks) { s with toks := s.toks + 1 }) : wpAny (model prog w) A (call (.builtin "str.find") [.str x t, .str y u]) Q E s := SC.find (by rw [hf]; exact h)
theorem find3_is {v : Tok} (hf : Txt.find3 x y i = j) (h : Q (.int j s.toks) { s with toks := s.toks + 1 }) : wpAny (model prog w) A (call (.builtin "str.find") [.str x t, .str y u, .int i v]) Q E s := SC.find3 (by rw [hf]; exact h)
theorem split5 (hF : Fr h₀ L s.heap m) (hN : News h₀ L s.heap news) (hs : Txt.split x y = [a, b, c, d, e]) (hy : (y.length == 0) = false) (hsz : x.length + 2 ≤ sizeLine)
    (h : ∀ D t1 t2 t3 t4 t5 h' k, Fr h₀ L h' m → News h₀ L h' ((D, W.listOf #[.str a t1, .str b t2, .str c t3, .str d t4, .str e t5] 0) :: news) → (∀ p ∈ news, p.1 < D) → Q (.ref D) { s with heap := h', toks := k }) :
    wpAny (model prog w) A (call (.builtin "str.split") [.str x t, .str y u]) Q E s := by
  refine KSpl.split1 hF hN hy (fun D l h' k e1 _ F N lt => ?_) hsz
  rw [hs] at e1
  obtain ⟨t1, l1, e9, f1⟩ := KSpl.cons_of e1; cases e9
  obtain ⟨t2, l2, e9, f2⟩ := KSpl.cons_of f1; cases e9
  obtain ⟨t3, l3, e9, f3⟩ := KSpl.cons_of f2; cases e9
  obtain ⟨t4, l4, e9, f4⟩ := KSpl.cons_of f3; cases e9
  obtain ⟨t5, l5, e9, f5⟩ := KSpl.cons_of f4; cases e9
  cases KSpl.nil_of f5
  exact h D t1 t2 t3 t4 t5 h' k F N lt
end
local macro_rules | `(tactic| walk_at "exec While Compare cons nil") => `(tactic| refine stop_while ?_)
local macro_rules | `(tactic| walk_at "WPost") => `(tactic| dsimp only [WPost])
local macro_rules | `(tactic| walk_at "WhlIf") => `(tactic| refine whl_split (fun hW => ?_) (fun hW => ?_))
local macro_rules | `(tactic| walk_at "eval Name") => `(tactic| (k_here; k_dflt (refine' ld ?k1 ?k2 ?_; (case k1 => k_asm); (case k2 => first | exact rfl | assumption); k_whole)))
local macro_rules | `(tactic| walk_at "call builtin:str.find") => `(tactic| first | refine find_is (by assumption) ?_ | refine find3_is (by assumption) ?_)
local macro_rules | `(tactic| walk_at "call builtin:str.split") => `(tactic| (k_here; (refine split5 (by k_asm) (by k_asm) (by assumption) (by assumption) (by assumption) ?_); intro D' t1 t2 t3 t4 t5 h' k' F' N' l1; (try k_lt l1)))
theorem p229_con (w : World) (news : List (Addr × Obj)) (x : Str) (t : Tok) (l : Addr) (th tp : Tok) (i j p : Int) (a b c d e : Str) (hx : x.length ≤ 1000) (h3 : (Txt.slice x none (some 3) != Str.ofString "229") = false) 
    (hf : Txt.find x (Str.ofString "(") = i) (hg : Txt.find3 x (Str.ofString ")") (i + 1) = j) (hi : 0 ≤ i) (hij : i + 2 ≤ j) (hj : j ≤ x.length) (hq : (Txt.item x (i + 1) != Txt.item x (j - 1)) = false) (hq1 : ((Txt.item x (i + 1)).length == 0) = false)
    (hsz : (Txt.slice x (some (i + 1)) (some j)).length + 2 ≤ sizeLine) (hs : Txt.split (Txt.slice x (some (i + 1)) (some j)) (Txt.item x (i + 1)) = [a, b, c, d, e]) (hd : PySem.intText? d = some p) (hdl : d.length ≤ 640) :
    Con w 58 ((l, W.listOf #[.str (Str.ofString "here") th, .int 21 tp] 0) :: news) [.str x t, .ref l] 1 8 (fun v tl => ∃ r t1, v = .ref r ∧ tl = [(r, { cls := .type "tuple", data := .seq #[.str (Str.ofString "here") th, .int p t1] })]) := by
  intro dp un gd cn cs a' ccd cl outer A₀ base h₀ L m s Q E p' loose mean mg mb B F X N T hk hd hu hret
  revert X
  k_fill
  intro X
  refine wpAny_call ?_
  k_dflt (refine' code_def (binds := [(Str.ofString "resp", .str x t), (Str.ofString "peer", .ref l)]) ?k1 ?k2 ?k3 ?k4 ?k5 ?kA ?kF ?kK ?k6 ?k7 ?k8 ?k9 ?kB ?_ ?c2 ?c3 ?c4 ?c5; (case kA => exact rfl); (case kF => exact rfl); (case kK => assumption); (case k1 => k_asm); (case k2 => k_asm); (case k3 => k_asm); (case k4 => k_asm); (case k5 => k_asm); (case k6 => k_is); (case k7 => k_is); (case k8 => ktr_room); (case k9 => exact BindsTo.of_eq rfl); (case c5 => decide); (case kB => exact locs rfl); (case c2 => exact rfl); (case c3 => exact rfl); (case c4 => exact rfl); k_whole; intro g' L' h' FG' F' N' B' X' T'; (try dsimp only); (try k_fold))
  k_steps
  (rename Fr h₀ L _ _ => F₃); (rename News h₀ L _ _ => N₃)
  exact hret _ [(_, _)] _ _ ⟨_, _, rfl, rfl⟩ F₃ (drop_news N₃ (one_sub (.head _) fun p hp => mem_skip (mem_skip hp))) (one_ord ⟨by simp only [*], by simp only [*]⟩)
end Mine
end
section
open PySem PySem.W PyProof.Rows
set_option Elab.async false
set_option maxRecDepth 100000
set_option maxHeartbeats 1000000
namespace Mine
def MarkOk (c : Nat) : Prop := c = 124 ∨ c = 34 ∨ c = 47 ∨ c = 33
theorem p257_reply (w : World) (news : List (Addr × Obj)) (k : Nat) (p : Int) (c : Nat) (t : Tok) (hk : k < 6) (h0 : -20 ≤ p) (h1 : p ≤ 20) (hc : MarkOk c) :
    Con w 65 news [.str (replyT k p ⟨#[c]⟩) t] 1 8 (IsStr (nameT k)) := by
  have ho := ports hc h0 h1
  simp only [portOk, Bool.and_eq_true, decide_eq_true_eq] at ho
  have hl := reply_len hk (p := p) (c := c) ho.1.1.1
  obtain ⟨f1, f2, f3⟩ := facts257 hk (p := p) (c := c) ho.1.1.1
  have h := p257_con w news (replyT k p ⟨#[c]⟩) t (by omega) f1 f2 (by omega)
  rw [f3] at h
  exact h
theorem p229_reply (w : World) (news : List (Addr × Obj)) (k : Nat) (p : Int) (c : Nat) (t : Tok) (l : Addr) (th tp : Tok) (hk : k < 6) (h0 : -20 ≤ p) (h1 : p ≤ 20) (hc : MarkOk c) :
    Con w 58 ((l, W.listOf #[.str (Str.ofString "here") th, .int 21 tp] 0) :: news) [.str (q229 (replyT k p ⟨#[c]⟩)) t, .ref l] 1 8
      (fun v tl => ∃ r t1, v = .ref r ∧ tl = [(r, { cls := .type "tuple", data := .seq #[.str (Str.ofString "here") th, .int p t1] })]) := by
  have ho := ports hc h0 h1
  simp only [portOk, Bool.and_eq_true, decide_eq_true_eq, beq_iff_eq, Bool.not_eq_true'] at ho
  obtain ⟨⟨⟨o1, o2⟩, o3⟩, o4⟩ := ho
  have hx := q229_list hk (p := p) (c := c) o1
  have h41 : 41 ∉ portD p := fun h => by
    have := List.contains_iff_mem.mpr h
    rw [o2] at this
    cases this
  have hc41 : c ≠ 41 := by rcases hc with rfl | rfl | rfl | rfl <;> decide
  obtain ⟨a1, a2, a3, a4, a5, a6⟩ := places hx (head_free k hk) h41 hc41
  have q1 : Str.ofString "(" = ⟨#[40]⟩ := by decide +kernel
  have q2 : Str.ofString ")" = ⟨#[41]⟩ := by decide +kernel
  have hlen : (q229 (replyT k p ⟨#[c]⟩)).length ≤ 40 := by
    have h := head_len k hk
    rw [← len_list, hx]
    simp only [List.length_append, List.length_cons, List.length_nil, List.length_drop]
    omega
  have s3 := sl_to (x := q229 (replyT k p ⟨#[c]⟩)) (j := 3) (by omega)
  rw [hx] at s3
  have e3 : Str.ofString "229" = ⟨#[50, 50, 57]⟩ := by decide +kernel
  generalize hB : [50, 50, 57] ++ (headA k).drop 3 = B at *
  have hBl : 3 ≤ B.length := by rw [← hB]; simp
  refine p229_con w news (q229 (replyT k p ⟨#[c]⟩)) t l th tp (B.length : Int) ((B.length + 5 + (portD p).length : Nat) : Int) p ⟨#[]⟩ ⟨#[]⟩ ⟨#[]⟩ ⟨(portD p).toArray⟩ ⟨#[]⟩ (by omega) ?_ ?_ ?_ (by omega) (by omega) (by omega) ?_ ?_ ?_ ?_ o3 ?_
  · rw [show Txt.slice (q229 (replyT k p ⟨#[c]⟩)) none (some 3) = _ from s3, e3, List.take_append_of_le_length hBl, ← hB]
    simp
  · rw [q1]; exact a1
  · rw [q2]; exact a2
  · rw [a4, a5]; simp
  · rw [a4]; rfl
  · rw [a6, sizeLine_eq]
    show (c :: c :: c :: (portD p ++ [c])).toArray.size + 2 ≤ _
    simp only [List.size_toArray, List.length_append, List.length_cons, List.length_nil]
    omega
  · rw [a6, a4]; exact o4
  · show (portD p).toArray.size ≤ 640
    simp only [List.size_toArray]
    omega
end Mine
end
section
open PySem PySem.W PyProof.Rows
set_option Elab.async false
set_option maxRecDepth 100000
namespace Mine
theorem zde_new {prog : Program} {w : World} {A : Around} {E : Value → Shared → Prop} {s : Shared} {Q : Value → Shared → Prop} (h : ∀ h' e, Heap.MadeExc s.heap h' e "ZeroDivisionError" [] → Q (.ref e) { s with heap := h' }) :
    wpAny (model prog w) A (call (.type "ZeroDivisionError") []) Q E s := by
  obtain ⟨hp, g, d, tk, os⟩ := s
  exact wpAny_call_exc PySem.F.excCall_ZeroDivisionError h
theorem zde_raise {prog : Program} {w : World} {A : Around} {E : Value → Shared → Prop} {s : Shared} {env : Env} {x : Str} {np pos : Pos} {Q : Flow → Shared → Prop} (hh : A.handled = none)
    (hx : wpAny (model prog w) A (eval (.Name x np) env) (fun v s₁ => v = .type "ZeroDivisionError" ∧ s₁ = s) E s)
    (h : ∀ h' e, Heap.MadeExc s.heap h' e "ZeroDivisionError" [] → E (.ref e) { s with heap := h' }) :
    wpAny (model prog w) A (exec (.Raise (some (.Name x np)) none pos) env) Q E s := by
  have hb := excClass_ZeroDivisionError.base
  show wpAny (model prog w) A (do standAt pos; raiseStmt env (some (do let v ← eval (.Name x np) env; standAt pos; pure v)) none) Q E s
  refine wpAny_bind (wpAny_standAt ?_)
  unfold raiseStmt; dsimp only
  refine wpAny_bind (wpAny_bind (wpAny_mono hx (fun v s₁ h₁ => wpAny_bind (wpAny_standAt (wpAny_pure ?_))) fun _ _ e => e))
  obtain ⟨rfl, hs₁⟩ := h₁
  subst s₁
  refine wpAny_bind (wpAny_pure ?_); dsimp only
  refine wpAny_bind (wpAny_holding ?_)
  unfold excFromValue isExcClass
  refine wpAny_bind (wpAny_bind (wpAny_pure ?_))
  simp only [if_true]
  rw [hb]
  refine wpAny_pure ?_
  simp only [if_true]
  refine wpAny_bind (zde_new fun h' e hn => ?_)
  obtain ⟨t, he, -⟩ := hn.there
  have hT : ({ s with heap := h' } : Shared).TypeIs (.ref e) "ZeroDivisionError" := ⟨_, he, rfl⟩
  refine wpAny_bind (wpAny_isInstance hT hb ?_)
  simp only [Bool.not_true, Bool.false_eq_true, if_false]
  refine wpAny_pure ?_
  first | (refine wpAny_bind (m := isType (.type "ZeroDivisionError")) (wpAny_pure ?_)) | (refine wpAny_bind (wpAny_pure ?_))
  first | (rw [if_pos rfl]) | (simp only [if_true]) | dsimp only
  refine wpAny_bind (wpAny_holding ?_)
  unfold raisedFor
  first | (simp only [Bool.false_eq_true, if_false]) | (rw [if_neg (by decide)]) | skip
  first | (refine wpAny_bind (wpAny_typeOf hT ?_)) | (refine wpAny_bind ?_; refine wpAny_bind (wpAny_typeOf hT ?_))
  refine wpAny_bind (call_issubclass (issubclass_self excClass_ZeroDivisionError excClass_ZeroDivisionError.self) ?_)
  first | (refine wpAny_bind (wpAny_truthy_bool ?_)) | (refine wpAny_truthy_bool ?_) | (dsimp only [wants]; first | (refine wpAny_bind (wpAny_truthy_bool ?_)) | (refine wpAny_truthy_bool ?_))
  first | (rw [if_pos rfl]) | (simp only [if_true]) | skip
  refine wpAny_pure ?_
  unfold setFlight raiseNew
  refine wpAny_bind (wpAny_bind (wpAny_field (i := 1) (x := Value.none) he rfl rfl ?_))
  rw [if_neg (by decide)]
  refine wpAny_pure (wpAny_bind (wpAny_handled ?_))
  rw [hh]
  first
    | exact wpAny_throw (h h' e hn)
    | exact wpAny_bind (wpAny_pure (wpAny_throw (h h' e hn)))
end Mine
end
section
open PySem PySem.W PyProof.Rows
set_option Elab.async false
set_option maxRecDepth 100000
namespace Mine
section
variable {prog : Program} {w : World} {A₀ A : Around} {s : Shared} {base h₀ g g₁ h : Heap} {outer : List Env} {env : Env} {L Ll : Addr} {m : Str → Option Value} {news : List (Addr × Obj)} {K : Frag} {p : Program} {loose : List Str} {mean : ExcName → Option Value} {mg mb : Str → Option Value}
/-- the ground of a call without the caller's own frame -/
def less (g : Heap) (b : Addr) : Heap := hideAll g [b]
theorem less_get {b c : Addr} {o : Obj} (e : g.get? c = some o) (n : c ≠ b) : (less g b).get? c = some o := hideAll_get _ e (fun q => n (List.mem_singleton.mp q))
theorem less_of {b c : Addr} {o : Obj} (e : (less g b).get? c = some o) : g.get? c = some o ∧ c ≠ b := ⟨of_hideAll _ e, fun q => by rw [q, less, hideAll_none _ (.head _)] at e; cases e⟩
theorem turn_out {oL : Obj} (T : KtsTurn [Ll] g g₁) (hl : g.get? Ll = some oL) (F : Fr g₁ L h m) (N : News g₁ L h news) :
    Fr (less g Ll) L h m ∧ (∃ sl, News (less g Ll) L h ((Ll, { oL with slots := sl }) :: news)) ∧ ∀ p ∈ news, p.1 ≠ Ll := by
  obtain ⟨sl, hs⟩ := T.frame _ _ hl (.head _)
  have nL : ∀ p ∈ news, p.1 ≠ Ll := fun p hp q => by have := (N p hp).2.2; rw [q, hs] at this; cases this
  refine ⟨⟨F.ns, fun b o e => ?_, ?_⟩, ⟨sl, fun p hp => ?_⟩, nL⟩
  · obtain ⟨e, n⟩ := less_of e
    exact F.keep _ _ (T.other _ _ e (fun q => n (List.mem_singleton.mp q)))
  · have := F.above; rw [T.size] at this; rw [less, hideAll_size]; exact this
  · rcases List.mem_cons.mp hp with rfl | hp
    · refine ⟨F.keep _ _ hs, fun q => ?_, hideAll_none _ (.head _)⟩
      have := kts_self F; rw [← q, hs] at this; cases this
    · refine ⟨(N p hp).1, (N p hp).2.1, ?_⟩
      cases q : (less g Ll).get? p.1 with
      | none => rfl
      | some o =>
        obtain ⟨sl', hs'⟩ := T.up (less_of q).1
        have := (N p hp).2.2; rw [hs'] at this; cases this
theorem turn_in {oL : Obj} {sl : Array (Option Value)} (B : Below A₀ base outer g) (hf : outer.filterMap (·.frame) = [Ll]) (hl : g.get? Ll = some oL) (F : Fr (less g Ll) L h m) (N : News (less g Ll) L h news) (hm : (Ll, { oL with slots := sl }) ∈ news) :
    ∃ gs, KtsTurn (outer.filterMap (·.frame)) g gs ∧ Fr gs L h m ∧ Below A₀ base outer gs ∧ ∀ n', (∀ p ∈ n', p ∈ news ∧ p.1 ≠ Ll) → News gs L h n' := by
  obtain ⟨T, S⟩ := kts_turn_at (h := h) (fs := outer.filterMap (·.frame)) (g := g)
    (fun b hb => by obtain ⟨_, o, ho, _⟩ := B.frames.mem hb; exact ⟨o, ho⟩)
    (fun b o e nm => F.keep _ _ (less_get e (fun q => nm (by rw [hf, q]; exact .head _))))
    (fun b o e hb => by
      rw [hf] at hb
      obtain rfl := List.mem_singleton.mp hb
      rw [hl] at e; cases e
      exact ⟨sl, (N _ hm).1⟩)
  refine ⟨_, T, ⟨F.ns, S, ?_⟩, ⟨B.stack, fun b o e => T.other b o (B.stays b o e) (fun hm => by rw [(B.frames.mem hm).1] at e; cases e), B.frames.of_keeps fun b o e _ => ?_⟩, fun n' hn p hp => ?_⟩
  · have := F.above; rw [less, hideAll_size] at this; rw [T.size]; exact this
  · obtain ⟨sl, hs⟩ := T.up e; exact ⟨_, hs, rfl⟩
  · obtain ⟨h1, h2⟩ := hn p hp
    refine ⟨(N p h1).1, (N p h1).2.1, T.none_ _ ?_⟩
    cases q : g.get? p.1 with
    | none => rfl
    | some o => have := (N p h1).2.2; rw [less_get q h2] at this; cases this
theorem enter_top (B : Below A₀ base outer h₀) (F : Fr h₀ L s.heap m) (N : News h₀ L s.heap news) (hA : A.frames = some (env :: outer)) (hf : env.frame = some L) (hke : env.scope.kind = .function) :
    ∃ oL es ep, (hideAll s.heap (news.map (·.1))).get? L = some oL ∧ oL.data = .dict es ep ∧ (∀ (sl : Array (Option Value)) h', h'.get? L = some { oL with slots := sl } → Heap.Ns h' L m) ∧
      Fr h₀ L (hideAll s.heap (news.map (·.1))) m ∧ Below A base (env :: outer) (hideAll s.heap (news.map (·.1))) ∧ h₀.StaysIn (hideAll s.heap (news.map (·.1))) := by
  obtain ⟨FG, BG, st, -⟩ := groundX (R := fun _ _ => True) B F N hA hf hke
  obtain ⟨oL, es, ep, hL, hLd, hLk, hLf⟩ := FG.ns
  exact ⟨oL, es, ep, hL, hLd, fun sl h' e => ⟨_, es, ep, e, hLd, hLk, hLf⟩, FG, BG, st⟩
theorem code_top {R : Result → Shared → Prop} {name qual : Str} {params : Arguments} {body : List Stmt} {scope : Scope} {dV kV doc pm cdv ct oc : Value} {an od : Option Addr} {osl : Array (Option Value)} {f : Addr} {args : Args} {binds : List (Str × Value)}
    (B : Below A₀ base [] h₀) (F : Fr h₀ L s.heap m) (X₀ : K.In h₀) (N : News h₀ L s.heap news) (T : Top p loose mean mg mb h₀) (hA : A.frames = some [env]) (hf : env.frame = some L) (hke : env.scope.kind = .function)
    (ho : K.lookup f = some ⟨oc, od, .func (fnOf name qual params body scope dV kV doc pm an cdv ct), osl⟩) (hcd : codeIn K cdv qual = true) (hroom : A.depth < recursionLimit)
    (hbind : BindsTo s (fnOf name qual params body scope dV kV doc pm an cdv ct) args binds) (hloc : ∀ y ∈ binds, scope.names.lookup y.1 = some .local)
    (h : ∀ g L' h₁, Fr h₀ L g m → Fr g L' h₁ (fun y => binds.reverse.lookup y) → News g L' h₁ news → Below A base [env] g → K.In g → Top p loose mean mg mb g → KtsDicts [L] g →
      wpAny (model prog w) (A.deeper (envOf qual scope L' f cdv)) (execs body (envOf qual scope L' f cdv))
        (fun fl s' => LeaveS0 [L] h₀ L m g R (match fl with | .ret v => v | _ => .none) s')
        (fun e s' => wpAny (model prog w) (A.deeper (envOf qual scope L' f cdv)) (leaving (envOf qual scope L' f cdv) e) (fun _ s'' => R (.error e) s'') (fun e' s'' => R (.error e') s'') s')
        { s with heap := h₁, toks := s.toks + binds.length })
    (hco : scope.isCoroutine = false) (hgen : scope.isGenerator = false) (hk : scope.kind = .function)
    (hcell : ∀ x ∈ scope.names, x.2 ≠ .cell) : codeAny (model prog w) A (.call (.ref f) args) R s := by
  have X := X₀.keeps F.keep
  refine codeAny_call_def (fd := fnOf name qual params body scope dV kV doc pm an cdv ct) (body := body) (binds := binds) hroom (X _ _ ho) rfl (T.nolimit.keeps F.keep) (codeRec_of X hcd) rfl hbind hcell hloc (fun h₁ hns hk₁ => ?_) hco hgen hk
  obtain ⟨oL, es, ep, hLg, hLd, hNs, FG, B₂, st⟩ := enter_top B F N hA hf hke
  refine wpAny_mono (h _ s.heap.objs.size h₁ FG ⟨hns, fun b o e => hk₁ b o (of_hideAll _ e), Nat.le_of_eq (hideAll_size _ _)⟩
    (fun p hp => ⟨hk₁ _ _ (N p hp).1, Nat.ne_of_lt (Heap.lt_size (N p hp).1), hideAll_none _ (List.mem_map_of_mem hp)⟩) B₂ (X₀.keeps st) (T.keeps st) (fun b hb => by
      obtain rfl := List.mem_singleton.mp hb
      exact ⟨oL, es, ep, hLg, hLd⟩)) (fun fl s' hl => ?_) fun _ _ y => y
  obtain ⟨g', L', m', news', T', F', N', k⟩ := hl
  have nL₀ : h₀.get? L = none := kts_self F
  obtain ⟨sl, hs⟩ := T'.up hLg
  refine k ⟨hNs sl _ (F'.keep _ _ hs), fun b o e => F'.keep b o (T'.other b o (st b o e) (fun q => by
    rw [List.mem_singleton.mp q, nL₀] at e; cases e)), F.above⟩ fun p hp => ⟨(N' p hp).1, fun q => ?_, ?_⟩
  · have := (N' p hp).2.2; rw [q, hs] at this; cases this
  · cases q : h₀.get? p.1 with
    | none => rfl
    | some o =>
      obtain ⟨sl', hs'⟩ := T'.up (st _ _ q)
      have := (N' p hp).2.2
      rw [hs'] at this
      cases this
end
theorem stop_for {M : Model} {A : Around} {E : Value → Shared → Prop} {s : Shared} {env : Env} {x i : PySem.Expr} {body orelse : List Stmt} {Q : Flow → Shared → Prop} {pos : Pos}
    (h : Stop (wpAny M A (exec (.For x i body orelse pos) env) Q E s)) : wpAny M A (exec (.For x i body orelse pos) env) Q E s := h
/-- a contract for a call from the law itself, which may catch what is raised below it -/
def ConD (w : World) (f : Addr) (news : List (Addr × Obj)) (vs : List Value) (d u : Nat) (R : Value → List (Addr × Obj) → Prop) : Prop :=
  ∀ (dp un : Nat) (gd : Option (List Code)) (cn : Str) (cs : Scope) (a : Addr) (ccd : Value) (cl : List (Str × Addr)) (A₀ : Around) (base h₀ : Heap) (L : Addr) (m : Str → Option Value) (s : Shared) (Q E : Value → Shared → Prop)
    (p : Program) (loose : List Str) (mean : ExcName → Option Value) (mg mb : Str → Option Value),
    (pre.heap_1 w.params).In base → Top p loose mean mg mb base →
    Below A₀ base [] h₀ → Fr h₀ L s.heap m → (pre.heap_1 w.params).In h₀ → News h₀ L s.heap news → Top p loose mean mg mb h₀ → cs.kind = .function → dp + d < recursionLimit → un + u < cLine →
    (∀ v led h' tk', R v led → Fr h₀ L h' m → News h₀ L h' led → Q v { s with heap := h', toks := tk' }) →
    wpAny (model PySem.Challenge.rw_we0025_01.row.prog w) (ktrTop dp un gd cn cs L a ccd cl []) (call (.ref f) vs) Q E s
theorem con_callD {w : World} {f : Addr} {news : List (Addr × Obj)} {vs : List Value} {d u : Nat} {R : Value → List (Addr × Obj) → Prop} {dp un : Nat} {gd : Option (List Code)} {cn : Str} {cs : Scope} {a : Addr} {ccd : Value} {cl : List (Str × Addr)} {A₀ : Around} {base h₀ : Heap} {L : Addr} {m : Str → Option Value} {s : Shared} {Q E : Value → Shared → Prop}
    {p : Program} {loose : List Str} {mean : ExcName → Option Value} {mg mb : Str → Option Value} (C : ConD w f news vs d u R) (XB : (pre.heap_1 w.params).In base) (TB : Top p loose mean mg mb base)
    (B : Below A₀ base [] h₀) (F : Fr h₀ L s.heap m) (X : (pre.heap_1 w.params).In h₀) (N : News h₀ L s.heap news) (T : Top p loose mean mg mb h₀) (hk : cs.kind = .function) (hd : dp + d < recursionLimit) (hu : un + u < cLine)
    (ret : ∀ v led h' tk', R v led → Fr h₀ L h' m → News h₀ L h' led → Q v { s with heap := h', toks := tk' }) :
    wpAny (model PySem.Challenge.rw_we0025_01.row.prog w) (ktrTop dp un gd cn cs L a ccd cl []) (call (.ref f) vs) Q E s := C _ _ _ _ _ _ _ _ _ _ _ _ _ _ _ _ _ _ _ _ _ XB TB B F X N T hk hd hu ret
end Mine
end
section
open PySem PySem.W PyProof.Rows
set_option Elab.async false
set_option maxRecDepth 100000
set_option maxHeartbeats 8000000
namespace Mine
inductive RepAre (c : Nat) : List Value → List (Nat × Int) → Prop
  | nil : RepAre c [] []
  | cons {k : Nat} {p : Int} {t : Tok} {vs : List Value} {st : List (Nat × Int)} : k < 6 → -20 ≤ p → p ≤ 20 → RepAre c vs st → RepAre c (.str (replyT k p ⟨#[c]⟩) t :: vs) ((k, p) :: st)
def divStep (p : Int) (s : Int × List Int) : Int × List Int := if p = 0 then s else (s.1.fdiv p, s.2 ++ [s.1.fmod p])
def doneStep (s : Int × List Int) (d : Nat × Int) : Int × List Int := match d.1 with
  | 0 => divStep d.2 s
  | 1 => divStep d.2 (-s.1, s.2)
  | 2 => divStep d.2 (Builtin.bitNot s.1, s.2)
  | 3 => (s.1 + d.2, s.2)
  | 4 => (Builtin.bitNot s.1 - d.2, s.2)
  | _ => (-s.1 + d.2, s.2)
theorem tok_keys (w : World) {h : Heap} (X : (pre.heap_1 w.params).In h) : ∃ es n, (pre.heap_1 w.params).lookup 108 = some ⟨.type "dict", none, .dict es n, #[]⟩ ∧ KeysLit w.params es.toList := by
  refine (fun hz => hz ⟨rfl, rfl⟩ : ((PySem.Challenge.rw_we0025_01 = PySem.Challenge.rw_we0025_01 ∧ pre.heap_1 w.params = pre.heap_1 w.params) → _) → _) ?_
  k_fill
  intro _
  exact ⟨_, _, by k_is, by k_keys⟩
theorem tok_in {w : World} {A : Around} {E : Value → Shared → Prop} {s : Shared} {h₀ : Heap} {L : Addr} {m : Str → Option Value} {x : Str} {t : Tok} {r : Option Value} {Q : Value → Shared → Prop} (F : Fr h₀ L s.heap m) (X₀ : (pre.heap_1 w.params).In h₀) (e : nsIn (pre.heap_1 w.params) 108 x = some r)
    (h : Q (.bool r.isSome) { s with toks := s.toks + 1 }) : wpAny (model PySem.Challenge.rw_we0025_01.row.prog w) A (compareOp .In (.str x t) (.ref 108)) Q E s := by
  obtain ⟨es, n, hl, hk⟩ := tok_keys w X₀
  exact topIn_K F X₀ hl hk e (by decide) h
local macro_rules | `(tactic| walk_at "compareOp In str ref") => `(tactic| (k_here; k_dflt (refine' tok_in ?F ?X ?e ?_; (case F => k_asm); (case X => k_asm); (case e => k_is))))
local macro_rules | `(tactic| walk_at "eval Name") => `(tactic| (k_here; k_dflt (refine' ld ?k1 ?k2 ?_; (case k1 => k_asm); (case k2 => first | exact rfl | assumption); k_whole)))
local macro_rules | `(tactic| walk_at "call ref") => `(tactic| (k_here; (with_reducible show wpAny _ _ (call (Value.ref 65) [Value.str _ _]) _ _ _); k_dflt (refine' con_call (p257_reply _ _ _ _ _ _ (by assumption) (by assumption) (by assumption) (by assumption)) ?k1 ?k2 ?k3 ?k4 ?k5 ?kK ?kd ?ku ?_; (case k1 => k_asm); (case k2 => k_asm); (case k3 => k_asm); (case k4 => k_asm); (case k5 => k_asm); (case kK => first | exact rfl | assumption); (case kd => ktr_room); (case ku => ktr_units)); (intro v9 tl9 h9 tk9 R9 F9 N9 o9); (obtain ⟨⟨t9, e1⟩, e2⟩ := R9); subst e1; subst e2; (replace N9 := nil_news N9); clear o9; (try dsimp only [nameT]); (try dsimp only); (try k_fold)))
local macro_rules | `(tactic| walk_at "call ref") => `(tactic| (k_here; (with_reducible show wpAny _ _ (call (Value.ref 58) [Value.str _ _, Value.ref _]) _ _ _); k_dflt (refine' con_call (p229_reply _ _ _ _ _ _ _ _ _ (by assumption) (by assumption) (by assumption) (by assumption)) ?k1 ?k2 ?k3 ?k4 ?k5 ?kK ?kd ?ku ?_; (case k1 => k_asm); (case k2 => k_asm); (case k3 => k_asm); (case k4 => k_asm); (case k5 => k_asm); (case kK => first | exact rfl | assumption); (case kd => ktr_room); (case ku => ktr_units)); (intro v9 tl9 h9 tk9 R9 F9 N9 o9); (obtain ⟨l9, t9, e1, e2⟩ := R9); subst e1; subst e2; (replace N9 := one_news N9); (have l1 := one_lt o9); clear o9; (try k_lt l1); (try dsimp only); (try k_fold)))
local macro_rules | `(tactic| walk_at "call ref") => `(tactic| ((with_reducible show wpAny _ _ (call (Value.ref 107) _) _ _ _); refine stop_call ?_))
local macro_rules | `(tactic| walk_at "exec For") => `(tactic| refine stop_for ?_)
local macro_rules | `(tactic| walk_at "exec While Compare cons nil") => `(tactic| refine stop_while ?_)
local macro_rules | `(tactic| walk_at "WhlRest") => `(tactic| refine whl_turn ?_ ?_)
local macro_rules | `(tactic| walk_at "WhlPost") => `(tactic| dsimp only [WhlPost])
local macro_rules | `(tactic| walk_at "WhlIf") => `(tactic| first | refine WhlIf.yes (by decide +kernel) ?_ | refine WhlIf.no (by decide +kernel) ?_)
local macro_rules | `(tactic| walk_at "pyIter ref") => `(tactic| refine stop_iter ?_)
local macro_rules | `(tactic| k_all) => `(tactic| first | assumption | exact ne_of_ltA (by assumption) (by omega) | fail "k_all")
local macro_rules | `(tactic| walk_at "exec Raise some none") => `(tactic| (k_here; (with_reducible show wpAny _ _ (exec (Stmt.Raise (some (Expr.Name ("ZeroDivisionError" : Str) _)) none _) _) _ _ _); (with_reducible rename Fr _ _ _ _ => kF); k_dflt (refine' zde_raise ?hh ?hx ?_; (case hh => rfl); (case hx => (refine' name_B kF ?k1 ?k2 ?k3 ?k4 ?k5 ?_; (case k1 => k_asm); (case k2 => k_asm); (case k3 => k_is); (case k4 => boot_by_name); (case k5 => decide); exact ⟨rfl, rfl⟩)); (intro h' e' x'))))
inductive DoneInv (c : Nat) (st0 : List (Nat × Int)) (v : Int) (L : Addr) (oL : Obj) (Dl Lr I : Addr) (rs : List Value) (er : Nat) (rest : List (Addr × Obj)) (rem : List Value) (m : Str → Option Value) : List (Addr × Obj) → Prop
  | mk (sl : Array (Option Value)) (st : List (Nat × Int)) (V : Int) (rq : List Int) (vq : List Value) (e : Nat) (tv : Tok) (t1 t8 R : List (Addr × Obj)) (nL : ∀ p ∈ (Dl, W.listOf vq.toArray e) :: R, p.1 ≠ L) (i1 : RepAre c rem st) (i2 : st.foldl doneStep (V, rq) = st0.foldl doneStep (v, [])) (i3 : V.natAbs + 40 * st.length ≤ 2 ^ 90) (i4 : rq.length + st.length ≤ 60) (i5 : IntsAre vq rq)
    (i6 : TabOk 81 73 4 Q81 t1) (i7 : TabOk 88 88 4 Q88 t8) (i8 : ∀ p ∈ t1, p.1 ≠ Dl) (i9 : ∀ p ∈ t8, p.1 ≠ Dl) (j8 : ∀ p ∈ t1, p.1 ≠ I) (j9 : ∀ p ∈ t8, p.1 ≠ I) (i10 : m (Str.ofString "value") = some (.int V tv)) (i11 : m (Str.ofString "rests") = some (.ref Dl))
    (hR : t1 ++ (t8 ++ ((Lr, W.listOf rs.toArray er) :: rest)) = R) : DoneInv c st0 v L oL Dl Lr I rs er rest rem m ((L, { oL with slots := sl }) :: (Dl, W.listOf vq.toArray e) :: R)
def DoneIs (v : Int) (st : List (Nat × Int)) (Lr : Addr) (rs : List Value) (er : Nat) (rest : List (Addr × Obj)) : Value → List (Addr × Obj) → Prop := fun x led => ∃ (r Dl : Addr) (V : Int) (rq : List Int) (vq : List Value) (q1 : Tok) (e : Nat) (t1 t8 : List (Addr × Obj)),
  x = .ref r ∧ st.foldl doneStep (v, []) = (V, rq) ∧ IntsAre vq rq ∧ TabOk 81 73 4 Q81 t1 ∧ TabOk 88 88 4 Q88 t8 ∧ @LT.lt Nat _ 88 Dl ∧ @LT.lt Nat _ Dl r ∧
  led = (r, { cls := .type "tuple", data := .seq #[.int V q1, .ref Dl] }) :: (Dl, W.listOf vq.toArray e) :: (t1 ++ (t8 ++ ((Lr, W.listOf rs.toArray er) :: rest)))
theorem done_con (w : World) (t1 t8 rest : List (Addr × Obj)) (v : Int) (c : Nat) (rs : List Value) (st : List (Nat × Int)) (Lr : Addr) (er : Nat) (t : Tok) (h1 : TabOk 81 73 4 Q81 t1) (h8 : TabOk 88 88 4 Q88 t8) (hc : MarkOk c) (hrs : RepAre c rs st)
    (hL : Lr ≠ 81) (hL8 : Lr ≠ 88) (hr : ∀ p ∈ rest, p.1 ≠ 81) (hr8 : ∀ p ∈ rest, p.1 ≠ 88) (hv : v.natAbs + 40 * st.length ≤ 2 ^ 90) (hst : st.length ≤ 50) :
    ConD w 138 (t1 ++ (t8 ++ ((Lr, W.listOf rs.toArray er) :: rest))) [.int v t, .ref Lr] 200 2000 (DoneIs v st Lr rs er rest) := by
  intro dp un gd cn cs a ccd cl A₀ base h₀ L m s Q E p loose mean mg mb XB TB B F X N T hk hd hu hret
  revert X XB
  k_fill
  intro XB X
  refine wpAny_call ?_
  k_dflt (refine' code_top (binds := [(Str.ofString "value", .int v t), (Str.ofString "replies", .ref Lr)]) ?k1 ?k2 ?k3 ?k4 ?k5 ?kA ?kF ?kK ?k6 ?k7 ?k8 ?k9 ?kB ?_ ?c2 ?c3 ?c4 ?c5; (case kA => exact rfl); (case kF => exact rfl); (case kK => assumption); (case k1 => k_asm); (case k2 => k_asm); (case k3 => k_asm); (case k4 => k_asm); (case k5 => k_asm); (case k6 => k_is); (case k7 => k_is); (case k8 => ktr_room); (case k9 => exact BindsTo.of_eq rfl); (case c5 => decide); (case kB => exact locs rfl); (case c2 => exact rfl); (case c3 => exact rfl); (case c4 => exact rfl); k_whole; intro g' L' h' FG' F' N' B' X' T' D'; (try dsimp only); (try k_fold))
  generalize hT : t1 ++ (t8 ++ ((Lr, W.listOf rs.toArray er) :: rest)) = T9 at N'
  k_steps
  (rename Fr g' L' _ _ => F₀); (rename News g' L' _ _ => N₀); rename (∀ p ∈ T9, _ < _) => l₁
  rename_i Dl hh1 hh0
  have hLr : (Lr, W.listOf rs.toArray er) ∈ T9 := by rw [← hT]; exact List.mem_append_right _ (List.mem_append_right _ (.head _))
  have e88 : @LT.lt Nat _ 88 Dl := by
    obtain ⟨o88, m88⟩ := tab_mem h8
    exact l₁ (88, o88) (by rw [← hT]; exact List.mem_append_right _ (List.mem_append_left _ m88))
  obtain ⟨oL, -, -, hoL, -⟩ := D' L (.head _)
  obtain ⟨F₁, ⟨sl₁, N₁⟩, n₁⟩ := turn_out KtsTurn.refl hoL F₀ N₀
  clear F₀ N₀
  unfold Stop
  with_unfolding_all refine For_invVF F₁ rfl rfl ?_
  k_steps
  unfold Stop
  refine iter_listUnr (lo := W.listOf rs.toArray er) (vs := rs) rfl F₁ N₁ (.tail _ (.tail _ hLr)) rfl rfl fun I lI => ?_
  refine list_ind (DoneInv c st v L oL Dl Lr I rs er rest) ?_ ?_ _ _ _ ?_
  · rintro m₁ news₁ ⟨sl₂, st', V, rq, vq, e, tv, u1, u8, R, nL, i1, i2, i3, i4, i5, i6, i7, i8, i9, j8, j9, i10, i11, hR⟩ h₂ tk₂ F₂ N₂
    obtain ⟨gs, Ts, Fs, Bs, Ns⟩ := turn_in B' rfl hoL F₂ N₂ (.head _)
    have N₃ := Ns _ (fun p hp => ⟨.tail _ hp, nL p hp⟩)
    have Xs := XB.keeps Bs.stays
    have Tq := TB.keeps Bs.stays
    have Ts' : KtsTurn [L] g' gs := Ts
    clear F₁ N₁ F₂ N₂ Ns
    cases i1
    k_steps
    (rename Fr h₀ L _ _ => F₄); (rename News h₀ L _ _ => N₄); rename (_ < _ ∧ AllLt _ _) => l₃
    subst hR
    exact hret _ _ _ _ ⟨_, Dl, V, rq, vq, tv, e, u1, u8, rfl, i2.symm, i5, i6, i7, e88, l₃.1, rfl⟩ F₄ N₄
  · rintro v₁ rem₁ m₁ news₁ ⟨sl₂, st', V, rq, vq, e, tv, u1, u8, R, nL, i1, i2, i3, i4, i5, i6, i7, i8, i9, j8, j9, i10, i11, hR⟩ it₂ h₂ tk₂ hc₂ F₂ N₂
    obtain ⟨gs, Ts, Fs, Bs, Ns⟩ := turn_in B' rfl hoL F₂ N₂ (.tail _ (.head _))
    have ltI : @LT.lt Nat _ Dl I := lI _ (.tail _ (.head _))
    have neI : I ≠ L := Nat.ne_of_gt (lI _ (.head _))
    have N₃ := Ns ((I, it₂) :: (Dl, W.listOf vq.toArray e) :: R) (fun p hp => (List.mem_cons.mp hp).elim (fun q => by subst q; exact ⟨.head _, neI⟩) fun hp => ⟨.tail _ (.tail _ hp), nL p hp⟩)
    have Xs := XB.keeps Bs.stays
    have Tq := TB.keeps Bs.stays
    have Ts' : KtsTurn [L] g' gs := Ts
    have Ds := KtsDicts.turn D' Ts
    clear F₁ N₁ F₂ N₂ Ns
    have fD : ∀ p ∈ ((Lr, W.listOf rs.toArray er) :: rest), p.1 ≠ Dl := fun p hp => Nat.ne_of_lt (l₁ p (by rw [← hT]; exact List.mem_append_right _ (List.mem_append_right _ hp)))
    have fI : ∀ p ∈ ((Lr, W.listOf rs.toArray er) :: rest), p.1 ≠ I := fun p hp => Nat.ne_of_lt (lI p (.tail _ (.tail _ (by rw [← hT]; exact List.mem_append_right _ (List.mem_append_right _ hp)))))
    have r81 : ∀ p ∈ (I, it₂) :: (Dl, W.listOf vq.toArray e) :: ((Lr, W.listOf rs.toArray er) :: rest), p.1 ≠ 81 := List.forall_mem_cons.mpr ⟨Nat.ne_of_gt (Nat.lt_trans (Nat.lt_trans (by decide) e88) ltI), List.forall_mem_cons.mpr ⟨Nat.ne_of_gt (Nat.lt_trans (by decide) e88), List.forall_mem_cons.mpr ⟨hL, hr⟩⟩⟩
    have r88 : ∀ p ∈ (I, it₂) :: (Dl, W.listOf vq.toArray e) :: ((Lr, W.listOf rs.toArray er) :: rest), p.1 ≠ 88 := List.forall_mem_cons.mpr ⟨Nat.ne_of_gt (Nat.lt_trans e88 ltI), List.forall_mem_cons.mpr ⟨Nat.ne_of_gt e88, List.forall_mem_cons.mpr ⟨hL8, hr8⟩⟩⟩
    cases i1 with
    | @cons k p tr _ st' hk p0 p1 i1 =>
    have hl := (reply_len hk (p := p) (c := c) (by have ho := ports hc p0 p1; simp only [portOk, Bool.and_eq_true, decide_eq_true_eq] at ho; exact ho.1.1.1)).2
    have hvq : vq.length ≤ 100 := by rw [i5.length]; omega
    have gI : ∀ p ∈ R, p.1 ≠ I := by rw [← hR]; exact fun p hp => (List.mem_append.mp hp).elim (j8 p) fun hp => (List.mem_append.mp hp).elim (j9 p) (fI p)
    have hLR : (Lr, W.listOf rs.toArray er) ∈ R := by rw [← hR]; exact List.mem_append_right _ (List.mem_append_right _ (.head _))
    simp only [List.length_cons] at i3
    k_steps
    -- split
    obtain rfl | rfl | rfl | rfl | rfl | rfl := six_of hk
    · -- k = 0
      have hX : (V).natAbs ≤ V.natAbs + 1 := Nat.le_succ _
      unfold Stop
      (rename Fr gs L' _ _ => F₃)
      dsimp only [nameT] at F₃
      refine whl_start 5 ?_
      k_steps
      (rename News gs L' _ _ => N₃)
      by_cases hp : p = 0
      · have i2' : List.foldl doneStep (V, rq) st' = st.foldl doneStep (v, []) := by rw [← i2]; simp only [List.foldl_cons, doneStep, divStep, if_pos hp]
        unfold Stop
        refine wpAny_call ?_
        k_dflt (refine' code_def ?k1 ?k2 ?k3 ?k4 ?k5 ?kA ?kF ?kK ?k6 ?k7 ?k8 ?k9 ?kB ?_ ?c2 ?c3 ?c4 ?c5; (case kA => exact rfl); (case kF => exact rfl); (case kK => exact rfl); (case k1 => k_asm); (case k2 => k_asm); (case k3 => k_asm); (case k4 => k_asm); (case k5 => k_asm); (case k6 => k_is); (case k7 => k_is); (case k8 => ktr_room); (case k9 => exact BindsTo.of_eq rfl); (case c5 => decide); (case kB => exact locs rfl); (case c2 => exact rfl); (case c3 => exact rfl); (case c4 => exact rfl); k_whole; intro g5 L5 h5 FG5 F5 N5 B5 X5 T5; (try dsimp only); (try k_fold))
        k_steps
        all_goals (first | (exfalso; omega) | skip)
        (rename Fr _ L' _ _ => F₃); (rename KtsTurn _ g' _ => T₃); (rename News _ L' _ _ => N₆)
        obtain ⟨F₄, ⟨sl₄, N₄⟩, n₄⟩ := turn_out (show KtsTurn [L] g' _ from T₃) hoL F₃ N₆
        refine UnrEnd.intro F₄ N₄ ((L, { oL with slots := sl₄ }) :: (Dl, W.listOf vq.toArray e) :: R) (sub_cons (by k_mem) (sub_cons (by k_mem) (sub_cons (by k_mem) fun p hp => by repeat (first | exact hp | apply List.mem_cons_of_mem))))
          (List.forall_mem_cons.mpr ⟨neI.symm, List.forall_mem_cons.mpr ⟨Nat.ne_of_lt ltI, gI⟩⟩)
          ⟨.tail _ (.tail _ hLR), sl₄, st', (V), rq, _, _, _, u1, u8, R, fun p hp => n₄ p (by repeat (first | exact hp | apply List.mem_cons_of_mem)), i1, i2', by exact bd_step hX (by decide) i3, by simp only [List.length_cons, List.length_append, List.length_nil] at i4 ⊢; omega, i5, i6, i7, i8, i9, j8, j9, (by exact i10), (by exact i11), hR⟩
      · have i2' : List.foldl doneStep ((V).fdiv p, rq ++ [(V).fmod p]) st' = st.foldl doneStep (v, []) := by rw [← i2]; simp only [List.foldl_cons, doneStep, divStep, if_neg hp]
        have hq := Int.natAbs_fdiv_le_natAbs (V) p
        have N₅ : News gs L' _ (u1 ++ (u8 ++ ((I, it₂) :: (Dl, W.listOf vq.toArray e) :: (Lr, W.listOf rs.toArray er) :: rest))) := drop_news N₃ (fun q hq => by
          rw [← hR]
          simp only [List.mem_append, List.mem_cons] at hq ⊢
          rcases hq with h | h | h | h | h | h <;> simp only [h, true_or, or_true])
        unfold Stop
        k_dflt (refine' con_callG (idm_con w u1 u8 ((I, it₂) :: (Dl, W.listOf vq.toArray e) :: (Lr, W.listOf rs.toArray er) :: rest) (V) p _ _ i6 i7 hp (bd_port p0 p1).1 (bd_port p0 p1).2 (bd_idm hX i3).1 (bd_idm hX i3).2 r81 r88) ?k1 ?k2 ?k3 ?k4 ?k5 ?kK ?kd ?ku ?_; (case k1 => k_asm); (case k2 => k_asm); (case k3 => k_asm); (case k4 => k_asm); (case k5 => k_asm); (case kK => first | exact rfl | assumption); (case kd => ktr_room); (case ku => ktr_units))
        intro v9 led9 h9 tk9 R9 F9 N9
        obtain ⟨p9, q1, q2, t1', t8', rfl, g1, g8, rfl, o9, fr1, fr8⟩ := R9
        have a1 := fr1.off (a := Dl) (.tail _ (.head _)) i8
        have a8 := fr8.off (a := Dl) (.tail _ (.head _)) i9
        have b1 := fr1.off (a := I) (.head _) j8
        have b8 := fr8.off (a := I) (.head _) j9
        have pD : @LT.lt Nat _ Dl p9 := o9 _ (.tail _ (.head _))
        have N₆ : News gs L' h9 ((p9, { cls := .type "tuple", data := .seq #[.int ((V).fdiv p) q1, .int ((V).fmod p) q2] }) :: (I, it₂) :: (Dl, W.listOf vq.toArray e) :: (t1' ++ (t8' ++ ((Lr, W.listOf rs.toArray er) :: rest)))) := drop_news N9 (fun q hq => by
          simp only [List.mem_append, List.mem_cons] at hq ⊢
          rcases hq with h | h | h | h | h | h | h <;> simp only [h, true_or, or_true])
        have cD : ∀ p ∈ t1' ++ (t8' ++ ((Lr, W.listOf rs.toArray er) :: rest)), p.1 ≠ Dl := fun p hp => (List.mem_append.mp hp).elim (a1 p) fun hp => (List.mem_append.mp hp).elim (a8 p) (fD p)
        have cI : ∀ p ∈ t1' ++ (t8' ++ ((Lr, W.listOf rs.toArray er) :: rest)), p.1 ≠ I := fun p hp => (List.mem_append.mp hp).elim (b1 p) fun hp => (List.mem_append.mp hp).elim (b8 p) (fI p)
        have cL : (Lr, W.listOf rs.toArray er) ∈ t1' ++ (t8' ++ ((Lr, W.listOf rs.toArray er) :: rest)) := List.mem_append_right _ (List.mem_append_right _ (.head _))
        generalize hR' : t1' ++ (t8' ++ ((Lr, W.listOf rs.toArray er) :: rest)) = R' at N₆ cD cI cL
        clear N9 N₅ N₃
        (try dsimp only)
        (try k_fold)
        k_steps
        (rename Fr gs L' _ _ => F₃); (rename News gs L' _ _ => N₃)
        (try simp only [List.push_toArray] at N₃)
        obtain ⟨F₄, ⟨sl₄, N₄⟩, n₄⟩ := turn_out Ts' hoL F₃ N₃
        refine UnrEnd.intro F₄ N₄ ((L, { oL with slots := sl₄ }) :: (Dl, W.listOf (vq ++ [_]).toArray (e + 1)) :: R') (sub_cons (by k_mem) (sub_cons (by k_mem) (sub_cons (by k_mem) fun p hp => by repeat (first | exact hp | apply List.mem_cons_of_mem))))
          (List.forall_mem_cons.mpr ⟨neI.symm, List.forall_mem_cons.mpr ⟨Nat.ne_of_lt ltI, cI⟩⟩)
          ⟨.tail _ (.tail _ cL), sl₄, st', (V).fdiv p, rq ++ [(V).fmod p], _, _, _, t1', t8', R', fun p hp => n₄ p (by repeat (first | exact hp | apply List.mem_cons_of_mem)), i1, i2', by exact bd_two hq hX i3, by simp only [List.length_cons, List.length_append, List.length_nil] at i4 ⊢; omega, ints_app i5 (.cons _ _ .nil), g1, g8, a1, a8, b1, b8, (by exact rfl), (by exact i11), hR'⟩
    · -- k = 1
      have hX : (-V).natAbs ≤ V.natAbs + 1 := abs_neg V
      unfold Stop
      (rename Fr gs L' _ _ => F₃)
      dsimp only [nameT] at F₃
      refine whl_start 5 ?_
      k_steps
      (rename News gs L' _ _ => N₃)
      by_cases hp : p = 0
      · have i2' : List.foldl doneStep (-V, rq) st' = st.foldl doneStep (v, []) := by rw [← i2]; simp only [List.foldl_cons, doneStep, divStep, if_pos hp]
        unfold Stop
        refine wpAny_call ?_
        k_dflt (refine' code_def ?k1 ?k2 ?k3 ?k4 ?k5 ?kA ?kF ?kK ?k6 ?k7 ?k8 ?k9 ?kB ?_ ?c2 ?c3 ?c4 ?c5; (case kA => exact rfl); (case kF => exact rfl); (case kK => exact rfl); (case k1 => k_asm); (case k2 => k_asm); (case k3 => k_asm); (case k4 => k_asm); (case k5 => k_asm); (case k6 => k_is); (case k7 => k_is); (case k8 => ktr_room); (case k9 => exact BindsTo.of_eq rfl); (case c5 => decide); (case kB => exact locs rfl); (case c2 => exact rfl); (case c3 => exact rfl); (case c4 => exact rfl); k_whole; intro g5 L5 h5 FG5 F5 N5 B5 X5 T5; (try dsimp only); (try k_fold))
        k_steps
        all_goals (first | (exfalso; omega) | skip)
        (rename Fr _ L' _ _ => F₃); (rename KtsTurn _ g' _ => T₃); (rename News _ L' _ _ => N₆)
        obtain ⟨F₄, ⟨sl₄, N₄⟩, n₄⟩ := turn_out (show KtsTurn [L] g' _ from T₃) hoL F₃ N₆
        refine UnrEnd.intro F₄ N₄ ((L, { oL with slots := sl₄ }) :: (Dl, W.listOf vq.toArray e) :: R) (sub_cons (by k_mem) (sub_cons (by k_mem) (sub_cons (by k_mem) fun p hp => by repeat (first | exact hp | apply List.mem_cons_of_mem))))
          (List.forall_mem_cons.mpr ⟨neI.symm, List.forall_mem_cons.mpr ⟨Nat.ne_of_lt ltI, gI⟩⟩)
          ⟨.tail _ (.tail _ hLR), sl₄, st', (-V), rq, _, _, _, u1, u8, R, fun p hp => n₄ p (by repeat (first | exact hp | apply List.mem_cons_of_mem)), i1, i2', by exact bd_step hX (by decide) i3, by simp only [List.length_cons, List.length_append, List.length_nil] at i4 ⊢; omega, i5, i6, i7, i8, i9, j8, j9, (by exact rfl), (by exact i11), hR⟩
      · have i2' : List.foldl doneStep ((-V).fdiv p, rq ++ [(-V).fmod p]) st' = st.foldl doneStep (v, []) := by rw [← i2]; simp only [List.foldl_cons, doneStep, divStep, if_neg hp]
        have hq := Int.natAbs_fdiv_le_natAbs (-V) p
        have N₅ : News gs L' _ (u1 ++ (u8 ++ ((I, it₂) :: (Dl, W.listOf vq.toArray e) :: (Lr, W.listOf rs.toArray er) :: rest))) := drop_news N₃ (fun q hq => by
          rw [← hR]
          simp only [List.mem_append, List.mem_cons] at hq ⊢
          rcases hq with h | h | h | h | h | h <;> simp only [h, true_or, or_true])
        unfold Stop
        k_dflt (refine' con_callG (idm_con w u1 u8 ((I, it₂) :: (Dl, W.listOf vq.toArray e) :: (Lr, W.listOf rs.toArray er) :: rest) (-V) p _ _ i6 i7 hp (bd_port p0 p1).1 (bd_port p0 p1).2 (bd_idm hX i3).1 (bd_idm hX i3).2 r81 r88) ?k1 ?k2 ?k3 ?k4 ?k5 ?kK ?kd ?ku ?_; (case k1 => k_asm); (case k2 => k_asm); (case k3 => k_asm); (case k4 => k_asm); (case k5 => k_asm); (case kK => first | exact rfl | assumption); (case kd => ktr_room); (case ku => ktr_units))
        intro v9 led9 h9 tk9 R9 F9 N9
        obtain ⟨p9, q1, q2, t1', t8', rfl, g1, g8, rfl, o9, fr1, fr8⟩ := R9
        have a1 := fr1.off (a := Dl) (.tail _ (.head _)) i8
        have a8 := fr8.off (a := Dl) (.tail _ (.head _)) i9
        have b1 := fr1.off (a := I) (.head _) j8
        have b8 := fr8.off (a := I) (.head _) j9
        have pD : @LT.lt Nat _ Dl p9 := o9 _ (.tail _ (.head _))
        have N₆ : News gs L' h9 ((p9, { cls := .type "tuple", data := .seq #[.int ((-V).fdiv p) q1, .int ((-V).fmod p) q2] }) :: (I, it₂) :: (Dl, W.listOf vq.toArray e) :: (t1' ++ (t8' ++ ((Lr, W.listOf rs.toArray er) :: rest)))) := drop_news N9 (fun q hq => by
          simp only [List.mem_append, List.mem_cons] at hq ⊢
          rcases hq with h | h | h | h | h | h | h <;> simp only [h, true_or, or_true])
        have cD : ∀ p ∈ t1' ++ (t8' ++ ((Lr, W.listOf rs.toArray er) :: rest)), p.1 ≠ Dl := fun p hp => (List.mem_append.mp hp).elim (a1 p) fun hp => (List.mem_append.mp hp).elim (a8 p) (fD p)
        have cI : ∀ p ∈ t1' ++ (t8' ++ ((Lr, W.listOf rs.toArray er) :: rest)), p.1 ≠ I := fun p hp => (List.mem_append.mp hp).elim (b1 p) fun hp => (List.mem_append.mp hp).elim (b8 p) (fI p)
        have cL : (Lr, W.listOf rs.toArray er) ∈ t1' ++ (t8' ++ ((Lr, W.listOf rs.toArray er) :: rest)) := List.mem_append_right _ (List.mem_append_right _ (.head _))
        generalize hR' : t1' ++ (t8' ++ ((Lr, W.listOf rs.toArray er) :: rest)) = R' at N₆ cD cI cL
        clear N9 N₅ N₃
        (try dsimp only)
        (try k_fold)
        k_steps
        (rename Fr gs L' _ _ => F₃); (rename News gs L' _ _ => N₃)
        (try simp only [List.push_toArray] at N₃)
        obtain ⟨F₄, ⟨sl₄, N₄⟩, n₄⟩ := turn_out Ts' hoL F₃ N₃
        refine UnrEnd.intro F₄ N₄ ((L, { oL with slots := sl₄ }) :: (Dl, W.listOf (vq ++ [_]).toArray (e + 1)) :: R') (sub_cons (by k_mem) (sub_cons (by k_mem) (sub_cons (by k_mem) fun p hp => by repeat (first | exact hp | apply List.mem_cons_of_mem))))
          (List.forall_mem_cons.mpr ⟨neI.symm, List.forall_mem_cons.mpr ⟨Nat.ne_of_lt ltI, cI⟩⟩)
          ⟨.tail _ (.tail _ cL), sl₄, st', (-V).fdiv p, rq ++ [(-V).fmod p], _, _, _, t1', t8', R', fun p hp => n₄ p (by repeat (first | exact hp | apply List.mem_cons_of_mem)), i1, i2', by exact bd_two hq hX i3, by simp only [List.length_cons, List.length_append, List.length_nil] at i4 ⊢; omega, ints_app i5 (.cons _ _ .nil), g1, g8, a1, a8, b1, b8, (by exact rfl), (by exact i11), hR'⟩
    · -- k = 2
      have hX : (Builtin.bitNot V).natAbs ≤ V.natAbs + 1 := abs_not V
      unfold Stop
      (rename Fr gs L' _ _ => F₃)
      dsimp only [nameT] at F₃
      refine whl_start 5 ?_
      k_steps
      (rename News gs L' _ _ => N₃)
      by_cases hp : p = 0
      · have i2' : List.foldl doneStep (Builtin.bitNot V, rq) st' = st.foldl doneStep (v, []) := by rw [← i2]; simp only [List.foldl_cons, doneStep, divStep, if_pos hp]
        unfold Stop
        refine wpAny_call ?_
        k_dflt (refine' code_def ?k1 ?k2 ?k3 ?k4 ?k5 ?kA ?kF ?kK ?k6 ?k7 ?k8 ?k9 ?kB ?_ ?c2 ?c3 ?c4 ?c5; (case kA => exact rfl); (case kF => exact rfl); (case kK => exact rfl); (case k1 => k_asm); (case k2 => k_asm); (case k3 => k_asm); (case k4 => k_asm); (case k5 => k_asm); (case k6 => k_is); (case k7 => k_is); (case k8 => ktr_room); (case k9 => exact BindsTo.of_eq rfl); (case c5 => decide); (case kB => exact locs rfl); (case c2 => exact rfl); (case c3 => exact rfl); (case c4 => exact rfl); k_whole; intro g5 L5 h5 FG5 F5 N5 B5 X5 T5; (try dsimp only); (try k_fold))
        k_steps
        all_goals (first | (exfalso; omega) | skip)
        (rename Fr _ L' _ _ => F₃); (rename KtsTurn _ g' _ => T₃); (rename News _ L' _ _ => N₆)
        obtain ⟨F₄, ⟨sl₄, N₄⟩, n₄⟩ := turn_out (show KtsTurn [L] g' _ from T₃) hoL F₃ N₆
        refine UnrEnd.intro F₄ N₄ ((L, { oL with slots := sl₄ }) :: (Dl, W.listOf vq.toArray e) :: R) (sub_cons (by k_mem) (sub_cons (by k_mem) (sub_cons (by k_mem) fun p hp => by repeat (first | exact hp | apply List.mem_cons_of_mem))))
          (List.forall_mem_cons.mpr ⟨neI.symm, List.forall_mem_cons.mpr ⟨Nat.ne_of_lt ltI, gI⟩⟩)
          ⟨.tail _ (.tail _ hLR), sl₄, st', (Builtin.bitNot V), rq, _, _, _, u1, u8, R, fun p hp => n₄ p (by repeat (first | exact hp | apply List.mem_cons_of_mem)), i1, i2', by exact bd_step hX (by decide) i3, by simp only [List.length_cons, List.length_append, List.length_nil] at i4 ⊢; omega, i5, i6, i7, i8, i9, j8, j9, (by exact rfl), (by exact i11), hR⟩
      · have i2' : List.foldl doneStep ((Builtin.bitNot V).fdiv p, rq ++ [(Builtin.bitNot V).fmod p]) st' = st.foldl doneStep (v, []) := by rw [← i2]; simp only [List.foldl_cons, doneStep, divStep, if_neg hp]
        have hq := Int.natAbs_fdiv_le_natAbs (Builtin.bitNot V) p
        have N₅ : News gs L' _ (u1 ++ (u8 ++ ((I, it₂) :: (Dl, W.listOf vq.toArray e) :: (Lr, W.listOf rs.toArray er) :: rest))) := drop_news N₃ (fun q hq => by
          rw [← hR]
          simp only [List.mem_append, List.mem_cons] at hq ⊢
          rcases hq with h | h | h | h | h | h <;> simp only [h, true_or, or_true])
        unfold Stop
        k_dflt (refine' con_callG (idm_con w u1 u8 ((I, it₂) :: (Dl, W.listOf vq.toArray e) :: (Lr, W.listOf rs.toArray er) :: rest) (Builtin.bitNot V) p _ _ i6 i7 hp (bd_port p0 p1).1 (bd_port p0 p1).2 (bd_idm hX i3).1 (bd_idm hX i3).2 r81 r88) ?k1 ?k2 ?k3 ?k4 ?k5 ?kK ?kd ?ku ?_; (case k1 => k_asm); (case k2 => k_asm); (case k3 => k_asm); (case k4 => k_asm); (case k5 => k_asm); (case kK => first | exact rfl | assumption); (case kd => ktr_room); (case ku => ktr_units))
        intro v9 led9 h9 tk9 R9 F9 N9
        obtain ⟨p9, q1, q2, t1', t8', rfl, g1, g8, rfl, o9, fr1, fr8⟩ := R9
        have a1 := fr1.off (a := Dl) (.tail _ (.head _)) i8
        have a8 := fr8.off (a := Dl) (.tail _ (.head _)) i9
        have b1 := fr1.off (a := I) (.head _) j8
        have b8 := fr8.off (a := I) (.head _) j9
        have pD : @LT.lt Nat _ Dl p9 := o9 _ (.tail _ (.head _))
        have N₆ : News gs L' h9 ((p9, { cls := .type "tuple", data := .seq #[.int ((Builtin.bitNot V).fdiv p) q1, .int ((Builtin.bitNot V).fmod p) q2] }) :: (I, it₂) :: (Dl, W.listOf vq.toArray e) :: (t1' ++ (t8' ++ ((Lr, W.listOf rs.toArray er) :: rest)))) := drop_news N9 (fun q hq => by
          simp only [List.mem_append, List.mem_cons] at hq ⊢
          rcases hq with h | h | h | h | h | h | h <;> simp only [h, true_or, or_true])
        have cD : ∀ p ∈ t1' ++ (t8' ++ ((Lr, W.listOf rs.toArray er) :: rest)), p.1 ≠ Dl := fun p hp => (List.mem_append.mp hp).elim (a1 p) fun hp => (List.mem_append.mp hp).elim (a8 p) (fD p)
        have cI : ∀ p ∈ t1' ++ (t8' ++ ((Lr, W.listOf rs.toArray er) :: rest)), p.1 ≠ I := fun p hp => (List.mem_append.mp hp).elim (b1 p) fun hp => (List.mem_append.mp hp).elim (b8 p) (fI p)
        have cL : (Lr, W.listOf rs.toArray er) ∈ t1' ++ (t8' ++ ((Lr, W.listOf rs.toArray er) :: rest)) := List.mem_append_right _ (List.mem_append_right _ (.head _))
        generalize hR' : t1' ++ (t8' ++ ((Lr, W.listOf rs.toArray er) :: rest)) = R' at N₆ cD cI cL
        clear N9 N₅ N₃
        (try dsimp only)
        (try k_fold)
        k_steps
        (rename Fr gs L' _ _ => F₃); (rename News gs L' _ _ => N₃)
        (try simp only [List.push_toArray] at N₃)
        obtain ⟨F₄, ⟨sl₄, N₄⟩, n₄⟩ := turn_out Ts' hoL F₃ N₃
        refine UnrEnd.intro F₄ N₄ ((L, { oL with slots := sl₄ }) :: (Dl, W.listOf (vq ++ [_]).toArray (e + 1)) :: R') (sub_cons (by k_mem) (sub_cons (by k_mem) (sub_cons (by k_mem) fun p hp => by repeat (first | exact hp | apply List.mem_cons_of_mem))))
          (List.forall_mem_cons.mpr ⟨neI.symm, List.forall_mem_cons.mpr ⟨Nat.ne_of_lt ltI, cI⟩⟩)
          ⟨.tail _ (.tail _ cL), sl₄, st', (Builtin.bitNot V).fdiv p, rq ++ [(Builtin.bitNot V).fmod p], _, _, _, t1', t8', R', fun p hp => n₄ p (by repeat (first | exact hp | apply List.mem_cons_of_mem)), i1, i2', by exact bd_two hq hX i3, by simp only [List.length_cons, List.length_append, List.length_nil] at i4 ⊢; omega, ints_app i5 (.cons _ _ .nil), g1, g8, a1, a8, b1, b8, (by exact rfl), (by exact i11), hR'⟩
    · -- k = 3
      have hX : (V + p).natAbs ≤ V.natAbs + 21 := abs_add p0 p1
      unfold Stop
      (rename Fr gs L' _ _ => F₃)
      dsimp only [nameT] at F₃
      refine whl_start 5 ?_
      k_steps
      (rename Fr gs L' _ _ => F₃); (rename News gs L' _ _ => N₃)
      obtain ⟨F₄, ⟨sl₄, N₄⟩, n₄⟩ := turn_out Ts' hoL F₃ N₃
      refine UnrEnd.intro F₄ N₄ ((L, { oL with slots := sl₄ }) :: (Dl, W.listOf vq.toArray e) :: R) (sub_cons (by k_mem) (sub_cons (by k_mem) (sub_cons (by k_mem) fun p hp => by repeat (first | exact hp | apply List.mem_cons_of_mem))))
        (List.forall_mem_cons.mpr ⟨neI.symm, List.forall_mem_cons.mpr ⟨Nat.ne_of_lt ltI, gI⟩⟩)
        ⟨.tail _ (.tail _ hLR), sl₄, st', V + p, rq, _, _, _, u1, u8, R, fun p hp => n₄ p (by repeat (first | exact hp | apply List.mem_cons_of_mem)), i1, i2, by exact bd_step hX (by decide) i3, by simp only [List.length_cons, List.length_append, List.length_nil] at i4 ⊢; omega, i5, i6, i7, i8, i9, j8, j9, (by exact rfl), (by exact i11), hR⟩
    · -- k = 4
      have hX : (Builtin.bitNot V - p).natAbs ≤ V.natAbs + 21 := abs_nsub p0 p1
      unfold Stop
      (rename Fr gs L' _ _ => F₃)
      dsimp only [nameT] at F₃
      refine whl_start 5 ?_
      k_steps
      rename (_ ∧ _ ∨ _ ∧ _ ∧ _ ∨ _) => hj
      rcases hj with ⟨h, -⟩ | ⟨-, -, rfl⟩ | ⟨-, h, -⟩ <;> try (exact absurd h (by decide))
      (rename Fr gs L' _ _ => F₃); (rename News gs L' _ _ => N₃)
      obtain ⟨F₄, ⟨sl₄, N₄⟩, n₄⟩ := turn_out Ts' hoL F₃ N₃
      refine UnrEnd.intro F₄ N₄ ((L, { oL with slots := sl₄ }) :: (Dl, W.listOf vq.toArray e) :: R) (sub_cons (by k_mem) (sub_cons (by k_mem) (sub_cons (by k_mem) fun p hp => by repeat (first | exact hp | apply List.mem_cons_of_mem))))
        (List.forall_mem_cons.mpr ⟨neI.symm, List.forall_mem_cons.mpr ⟨Nat.ne_of_lt ltI, gI⟩⟩)
        ⟨.tail _ (.tail _ hLR), sl₄, st', Builtin.bitNot V - p, rq, _, _, _, u1, u8, R, fun p hp => n₄ p (by repeat (first | exact hp | apply List.mem_cons_of_mem)), i1, i2, by exact bd_step hX (by decide) i3, by simp only [List.length_cons, List.length_append, List.length_nil] at i4 ⊢; omega, i5, i6, i7, i8, i9, j8, j9, (by exact rfl), (by exact i11), hR⟩
    · -- k = 5
      have hX : (-V + p).natAbs ≤ V.natAbs + 21 := abs_nadd p0 p1
      unfold Stop
      (rename Fr gs L' _ _ => F₃)
      dsimp only [nameT] at F₃
      refine whl_start 5 ?_
      k_steps
      rename (_ ∧ _ ∨ _ ∧ _ ∧ _ ∨ _) => hj
      rcases hj with ⟨-, rfl⟩ | ⟨h, -⟩ | ⟨h, -⟩ <;> try (exact absurd rfl h)
      (rename Fr gs L' _ _ => F₃); (rename News gs L' _ _ => N₃)
      obtain ⟨F₄, ⟨sl₄, N₄⟩, n₄⟩ := turn_out Ts' hoL F₃ N₃
      refine UnrEnd.intro F₄ N₄ ((L, { oL with slots := sl₄ }) :: (Dl, W.listOf vq.toArray e) :: R) (sub_cons (by k_mem) (sub_cons (by k_mem) (sub_cons (by k_mem) fun p hp => by repeat (first | exact hp | apply List.mem_cons_of_mem))))
        (List.forall_mem_cons.mpr ⟨neI.symm, List.forall_mem_cons.mpr ⟨Nat.ne_of_lt ltI, gI⟩⟩)
        ⟨.tail _ (.tail _ hLR), sl₄, st', -V + p, rq, _, _, _, u1, u8, R, fun p hp => n₄ p (by repeat (first | exact hp | apply List.mem_cons_of_mem)), i1, i2, by exact bd_step hX (by decide) i3, by simp only [List.length_cons, List.length_append, List.length_nil] at i4 ⊢; omega, i5, i6, i7, i8, i9, j8, j9, (by exact rfl), (by exact i11), hR⟩
  · refine ⟨_, st, v, [], [], 0, _, t1, t8, T9, n₁, hrs, rfl, hv, by simp only [List.length_nil]; omega, .nil, h1, h8, ?_, ?_, ?_, ?_, rfl, rfl, hT⟩
    · exact fun p hp => Nat.ne_of_lt (l₁ p (by rw [← hT]; exact List.mem_append_left _ hp))
    · exact fun p hp => Nat.ne_of_lt (l₁ p (by rw [← hT]; exact List.mem_append_right _ (List.mem_append_left _ hp)))
    · exact fun p hp => Nat.ne_of_lt (lI p (.tail _ (.tail _ (by rw [← hT]; exact List.mem_append_left _ hp))))
    · exact fun p hp => Nat.ne_of_lt (lI p (.tail _ (.tail _ (by rw [← hT]; exact List.mem_append_right _ (List.mem_append_left _ hp)))))
end Mine
end
section
open PySem PySem.W PyProof.Rows
set_option Elab.async false
set_option maxRecDepth 100000
set_option maxHeartbeats 8000000
namespace Mine
structure FS where
  sign : Int
  more : Int
  whole : Int
  rest : Int
  noted : Nat
def flipF (s : FS) : FS := ⟨-s.sign, s.whole - 1 - s.more, s.whole, s.whole - 1 - s.rest, s.noted⟩
def invF (s : FS) : FS := ⟨-s.sign, -1 - s.more, s.whole, s.whole - 1 - s.rest, s.noted⟩
def divF (rq : List Int) (p : Int) (s : FS) : FS :=
  if p = 0 then s else if p < 0 then ⟨-s.sign, s.whole - 1 - s.more, s.whole * p.natAbs, s.whole - 1 - s.rest + s.whole * (-rq.getD s.noted 0), s.noted + 1⟩
  else ⟨s.sign, s.more, s.whole * p.natAbs, s.rest + s.whole * rq.getD s.noted 0, s.noted + 1⟩
def foldF (rq : List Int) (s : FS) (d : Nat × Int) : FS := match d.1 with
  | 0 => divF rq d.2 s
  | 1 => divF rq d.2 (flipF s)
  | 2 => divF rq d.2 (invF s)
  | 3 => ⟨s.sign, s.more + s.whole * d.2, s.whole, s.rest, s.noted⟩
  | 4 => ⟨-s.sign, -1 - s.more - s.whole * d.2, s.whole, s.whole - 1 - s.rest, s.noted⟩
  | _ => ⟨-s.sign, s.whole - 1 - s.more + s.whole * d.2, s.whole, s.whole - 1 - s.rest, s.noted⟩
inductive NumAre : List Value → List (Nat × Int) → Prop
  | nil : NumAre [] []
  | cons {k : Nat} {p n : Int} {t : Tok} {vs : List Value} {st : List (Nat × Int)} : k < 6 → n.fmod 6 = k → portOf n = p → NumAre vs st → NumAre (.int n t :: vs) ((k, p) :: st)
def cntD : List (Nat × Int) → Nat
  | [] => 0
  | d :: r => (if d.1 < 3 ∧ d.2 ≠ 0 then 1 else 0) + cntD r
theorem cnt_le (d : Nat × Int) (r : List (Nat × Int)) : cntD r ≤ cntD (d :: r) := by
  show cntD r ≤ (if d.1 < 3 ∧ d.2 ≠ 0 then 1 else 0) + cntD r
  exact Nat.le_add_left _ _
theorem cnt_div {k : Nat} {p : Int} {r : List (Nat × Int)} (hk : k < 3) (hp : p ≠ 0) : cntD ((k, p) :: r) = 1 + cntD r := by
  show (if k < 3 ∧ p ≠ 0 then 1 else 0) + cntD r = _
  rw [if_pos ⟨hk, hp⟩]
theorem w_lo {x p : Int} (h : 1 ≤ x) (hp : p ≠ 0) : 1 ≤ x * (p.natAbs : Int) := by
  have h1 : (1 : Int) ≤ (p.natAbs : Int) := by omega
  have h2 := Int.mul_le_mul h h1 (by decide) (by omega)
  rw [Int.mul_one] at h2
  exact h2
theorem w_hi {x p : Int} {j : Nat} (h : x ≤ 20 ^ j) (h0 : 1 ≤ x) (h1 : -20 ≤ p) (h2 : p ≤ 20) : x * (p.natAbs : Int) ≤ 20 ^ (j + 1) := by
  rw [Int.pow_succ]
  exact Int.mul_le_mul h (by omega) (by omega) (by omega)
theorem port_is (w : World) (news : List (Addr × Obj)) (n p : Int) (t : Tok) (h : portOf n = p) : Con w 124 news [.int n t] 1 8 (IsInt p) := by rw [← h]; exact port_con w news n t
theorem stop_for' {M : Model} {A : Around} {E : Value → Shared → Prop} {s : Shared} {env : Env} {x i : PySem.Expr} {body orelse : List Stmt} {Q : Flow → Shared → Prop} {pos : Pos}
    (h : Stop (wpAny M A (exec (.For x i body orelse pos) env) Q E s)) : wpAny M A (exec (.For x i body orelse pos) env) Q E s := h
theorem cnt_len : ∀ st : List (Nat × Int), cntD st ≤ st.length
  | [] => Nat.le_refl _
  | d :: r => by
    have := cnt_len r
    show (if d.1 < 3 ∧ d.2 ≠ 0 then 1 else 0) + cntD r ≤ r.length + 1
    split <;> omega
def deedT : Nat → Str
  | 0 => Str.ofString "\""
  | 1 => Str.ofString "~"
  | 2 => Str.ofString "+"
  | 3 => Str.ofString "-"
  | _ => Str.ofString "//"
inductive DeedsAre : List Value → List Nat → Prop
  | nil : DeedsAre [] []
  | cons {d : Nat} {x : Str} {t : Tok} {vs : List Value} {ds : List Nat} : d < 5 → x = deedT d → DeedsAre vs ds → DeedsAre (.str x t :: vs) (d :: ds)
def deedsOf : Nat → List Nat
  | 0 => [4]
  | 1 => [0, 4]
  | 2 => [1, 4]
  | 3 => [2]
  | 4 => [1, 3]
  | _ => [0, 2]
def deedF (rq : List Int) (p : Int) (s : FS) : Nat → FS
  | 0 => flipF s
  | 1 => invF s
  | 2 => ⟨s.sign, s.more + s.whole * p, s.whole, s.rest, s.noted⟩
  | 3 => ⟨s.sign, s.more - s.whole * p, s.whole, s.rest, s.noted⟩
  | _ => divF rq p s
theorem fold_deeds (rq : List Int) (p : Int) (s : FS) {k : Nat} (hk : k < 6) : foldF rq s (k, p) = (deedsOf k).foldl (deedF rq p) s := by
  obtain rfl | rfl | rfl | rfl | rfl | rfl := six_of hk
  all_goals rfl
def cnt4 (p : Int) : List Nat → Nat
  | [] => 0
  | d :: r => (if d = 4 ∧ p ≠ 0 then 1 else 0) + cnt4 p r
theorem cnt4_le (p : Int) (d : Nat) (r : List Nat) : cnt4 p r ≤ cnt4 p (d :: r) := by
  show cnt4 p r ≤ (if d = 4 ∧ p ≠ 0 then 1 else 0) + cnt4 p r
  exact Nat.le_add_left _ _
theorem cnt4_div {p : Int} {r : List Nat} (hp : p ≠ 0) : cnt4 p (4 :: r) = 1 + cnt4 p r := by
  show (if 4 = 4 ∧ p ≠ 0 then 1 else 0) + cnt4 p r = _
  rw [if_pos ⟨rfl, hp⟩]
theorem cnt_deeds {k : Nat} {p : Int} {r : List (Nat × Int)} (hk : k < 6) : cntD ((k, p) :: r) = cnt4 p (deedsOf k) + cntD r := by
  show (if k < 3 ∧ p ≠ 0 then 1 else 0) + cntD r = _
  congr 1
  by_cases hp : p = 0
  · obtain rfl | rfl | rfl | rfl | rfl | rfl := six_of hk
    all_goals simp [hp, deedsOf, cnt4]
  · obtain rfl | rfl | rfl | rfl | rfl | rfl := six_of hk
    all_goals simp [hp, deedsOf, cnt4]
theorem con_mono {w : World} {f : Addr} {news : List (Addr × Obj)} {vs : List Value} {d u : Nat} {R R' : Value → List (Addr × Obj) → Prop} (C : Con w f news vs d u R) (h : ∀ v tl, R v tl → R' v tl) : Con w f news vs d u R' := by
  intro dp un gd cn cs a ccd cl outer A₀ base h₀ L m s Q E p loose mean mg mb B F X N T hk hd hu hret
  exact C dp un gd cn cs a ccd cl outer A₀ base h₀ L m s Q E p loose mean mg mb B F X N T hk hd hu (fun v tl h' tk' r => hret v tl h' tk' (h v tl r))
theorem deeds_any (w : World) (news : List (Addr × Obj)) (n : Int) (t : Tok) (k : Nat) (hk : k < 6) (hn : n.fmod 6 = ((k : Nat) : Int)) :
    Con w 117 news [.int n t] 1 8 (fun v tl => ∃ (l : Addr) (vs : List Value), v = .ref l ∧ tl = [(l, W.listOf vs.toArray 0)] ∧ DeedsAre vs (deedsOf k)) := by
  refine con_mono (deeds_con w news n t k hk hn) ?_
  rintro v tl ⟨l, t, u, rfl, rfl⟩
  obtain rfl | rfl | rfl | rfl | rfl | rfl := six_of hk
  · exact ⟨l, [_], rfl, rfl, .cons (d := 4) (by decide) rfl .nil⟩
  · exact ⟨l, [_, _], rfl, rfl, .cons (d := 0) (by decide) rfl (.cons (d := 4) (by decide) rfl .nil)⟩
  · exact ⟨l, [_, _], rfl, rfl, .cons (d := 1) (by decide) rfl (.cons (d := 4) (by decide) rfl .nil)⟩
  · exact ⟨l, [_], rfl, rfl, .cons (d := 2) (by decide) rfl .nil⟩
  · exact ⟨l, [_, _], rfl, rfl, .cons (d := 1) (by decide) rfl (.cons (d := 3) (by decide) rfl .nil)⟩
  · exact ⟨l, [_, _], rfl, rfl, .cons (d := 0) (by decide) rfl (.cons (d := 2) (by decide) rfl .nil)⟩
local macro_rules | `(tactic| walk_at "subscriptTail") => `(tactic| (k_here; (with_reducible show wpAny _ _ (subscriptTail _ _ (Value.ref _) (Value.int _ _)) _ _ _); k_dflt (refine' ksa_sub ?k1 ?k2 ?k3 ?k4 ?k5 ?k6 ?_ ?k7; (case k1 => k_asm); (case k2 => k_mem); (case k3 => with_reducible assumption); (case k4 => omega); (case k5 => omega); (case k6 => omega); (case k7 => with_unfolding_all rfl); k_whole); intro _))
local macro_rules | `(tactic| walk_at "eval Name") => `(tactic| (k_here; k_dflt (refine' ld ?k1 ?k2 ?_; (case k1 => k_asm); (case k2 => first | exact rfl | assumption); k_whole)))
local macro_rules | `(tactic| walk_at "call ref") => `(tactic| (k_here; (with_reducible show wpAny _ _ (call (Value.ref 117) [Value.int _ _]) _ _ _); k_dflt (refine' con_call (deeds_any _ _ _ _ _ (by assumption) (by assumption)) ?k1 ?k2 ?k3 ?k4 ?k5 ?kK ?kd ?ku ?_; (case k1 => k_asm); (case k2 => k_asm); (case k3 => k_asm); (case k4 => k_asm); (case k5 => k_asm); (case kK => first | exact rfl | assumption); (case kd => ktr_room); (case ku => ktr_units)); (intro v9 tl9 h9 tk9 R9 F9 N9 o9); (obtain ⟨l9, vs9, e1, e2, hds9⟩ := R9); subst e1; subst e2; (replace N9 := one_news N9); (have l1 := one_lt o9); clear o9; (try k_lt l1); (try dsimp only); (try k_fold)))
local macro_rules | `(tactic| walk_at "call ref") => `(tactic| (k_here; (with_reducible show wpAny _ _ (call (Value.ref 124) [Value.int _ _]) _ _ _); k_dflt (refine' con_call (port_is _ _ _ _ _ (by assumption)) ?k1 ?k2 ?k3 ?k4 ?k5 ?kK ?kd ?ku ?_; (case k1 => k_asm); (case k2 => k_asm); (case k3 => k_asm); (case k4 => k_asm); (case k5 => k_asm); (case kK => first | exact rfl | assumption); (case kd => ktr_room); (case ku => ktr_units)); (intro v9 tl9 h9 tk9 R9 F9 N9 o9); (obtain ⟨⟨t9, e1⟩, e2⟩ := R9); subst e1; subst e2; (replace N9 := nil_news N9); clear o9; (try dsimp only); (try k_fold)))
local macro_rules | `(tactic| walk_at "exec For") => `(tactic| ((with_reducible show wpAny _ _ (exec (Stmt.For _ (PySem.Expr.Name _ _) _ _ _) _) _ _ _); refine stop_for' ?_))
inductive FoldInv (rq : List Int) (st0 : List (Nat × Int)) (Dl : Addr) (vq : List Value) (e : Nat) (T9 : List (Addr × Obj)) (rem : List Value) (m : Str → Option Value) : List (Addr × Obj) → Prop
  | mk (st : List (Nat × Int)) (sign more whole rest : Int) (noted : Nat) (t1 t2 t3 t4 t5 : Tok) (i1 : NumAre rem st) (i2 : st.foldl (foldF rq) ⟨sign, more, whole, rest, noted⟩ = st0.foldl (foldF rq) ⟨1, 0, 1, 0, 0⟩) (i3 : noted + cntD st ≤ cntD st0) (i4 : 1 ≤ whole) (i5 : whole ≤ 20 ^ noted)
    (i7 : m (Str.ofString "sign") = some (.int sign t1)) (i8 : m (Str.ofString "more") = some (.int more t2)) (i9 : m (Str.ofString "whole") = some (.int whole t3)) (i10 : m (Str.ofString "rest") = some (.int rest t4)) (i11 : m (Str.ofString "noted") = some (.int (noted : Int) t5)) (i12 : m (Str.ofString "rests") = some (.ref Dl)) :
    FoldInv rq st0 Dl vq e T9 rem m ((Dl, W.listOf vq.toArray e) :: T9)
inductive DeedInv (rq : List Int) (st0 st : List (Nat × Int)) (p : Int) (Dl : Addr) (vq : List Value) (e : Nat) (lp ip : Addr × Obj) (T9 : List (Addr × Obj)) (rem : List Value) (m : Str → Option Value) : List (Addr × Obj) → Prop
  | mk (ds : List Nat) (sign more whole rest : Int) (noted : Nat) (t1 t2 t3 t4 t5 t6 : Tok) (j1 : DeedsAre rem ds) (j2 : st.foldl (foldF rq) (ds.foldl (deedF rq p) ⟨sign, more, whole, rest, noted⟩) = st0.foldl (foldF rq) ⟨1, 0, 1, 0, 0⟩) (j3 : noted + (cnt4 p ds + cntD st) ≤ cntD st0) (j4 : 1 ≤ whole) (j5 : whole ≤ 20 ^ noted)
    (j7 : m (Str.ofString "sign") = some (.int sign t1)) (j8 : m (Str.ofString "more") = some (.int more t2)) (j9 : m (Str.ofString "whole") = some (.int whole t3)) (j10 : m (Str.ofString "rest") = some (.int rest t4)) (j11 : m (Str.ofString "noted") = some (.int (noted : Int) t5)) (j12 : m (Str.ofString "rests") = some (.ref Dl)) (j13 : m (Str.ofString "port") = some (.int p t6)) :
    DeedInv rq st0 st p Dl vq e lp ip T9 rem m (lp :: ip :: (Dl, W.listOf vq.toArray e) :: T9)
theorem whole_64 {whole : Int} {noted n : Nat} (h : whole ≤ 20 ^ noted) (hn : noted ≤ n) (hn' : n ≤ 12) : whole < 2 ^ 64 := by
  have h1 := Nat.pow_le_pow_right (n := 20) (by decide) (show noted ≤ 12 by omega)
  have h2 : (20 : Nat) ^ 12 < 2 ^ 64 := by decide
  have h3 : ((20 ^ noted : Nat) : Int) < ((2 ^ 64 : Nat) : Int) := Int.ofNat_lt.mpr (Nat.lt_of_le_of_lt h1 h2)
  rw [Int.natCast_pow, Int.natCast_pow] at h3
  exact Int.lt_of_le_of_lt h h3
theorem folded_con (w : World) (T9 : List (Addr × Obj)) (Na Dl : Addr) (vs vq : List Value) (en e : Nat) (rq : List Int) (st : List (Nat × Int)) (hN : (Na, W.listOf vs.toArray en) ∈ T9) (hvs : NumAre vs st) (hvq : IntsAre vq rq) (hc : cntD st ≤ rq.length) (hst : st.length ≤ 12) (hrq : rq.length ≤ 60) :
    ConG w 145 ((Dl, W.listOf vq.toArray e) :: T9) [.ref Na, .ref Dl] 20 100 (fun v led => ∃ (r : Addr) (t1 t2 t3 t4 t5 : Tok), v = .ref r ∧ led = (r, { cls := .type "tuple", data := .seq #[.int (st.foldl (foldF rq) ⟨1, 0, 1, 0, 0⟩).sign t1, .int (st.foldl (foldF rq) ⟨1, 0, 1, 0, 0⟩).more t2, .int (st.foldl (foldF rq) ⟨1, 0, 1, 0, 0⟩).whole t3, .int (st.foldl (foldF rq) ⟨1, 0, 1, 0, 0⟩).rest t4, .int ((st.foldl (foldF rq) ⟨1, 0, 1, 0, 0⟩).noted : Int) t5] }) :: (Dl, W.listOf vq.toArray e) :: T9) := by
  have hc12 := Nat.le_trans (cnt_len st) hst
  intro dp un gd cn cs a ccd cl outer A₀ base h₀ L m s Q E p loose mean mg mb B F X N T hk hd hu hret
  revert X
  k_fill
  intro X
  refine wpAny_call ?_
  k_dflt (refine' code_def (binds := [(Str.ofString "numbers", .ref Na), (Str.ofString "rests", .ref Dl)]) ?k1 ?k2 ?k3 ?k4 ?k5 ?kA ?kF ?kK ?k6 ?k7 ?k8 ?k9 ?kB ?_ ?c2 ?c3 ?c4 ?c5; (case kA => exact rfl); (case kF => exact rfl); (case kK => assumption); (case k1 => k_asm); (case k2 => k_asm); (case k3 => k_asm); (case k4 => k_asm); (case k5 => k_asm); (case k6 => k_is); (case k7 => k_is); (case k8 => ktr_room); (case k9 => exact BindsTo.of_eq rfl); (case c5 => decide); (case kB => exact locs rfl); (case c2 => exact rfl); (case c3 => exact rfl); (case c4 => exact rfl); k_whole; intro g' L' h' FG' F' N' B' X' T'; (try dsimp only); (try k_fold))
  k_steps
  (rename Fr g' L' _ _ => F₁); (rename News g' L' _ _ => N₀)
  have N₁ : News g' L' _ ((Dl, W.listOf vq.toArray e) :: T9) := drop_news N₀ fun p hp => .tail _ hp
  clear N₀
  unfold Stop
  with_unfolding_all refine For_invVF F₁ rfl rfl ?_
  with_unfolding_all refine' ld F₁ rfl ?_
  refine iter_listUnr (lo := W.listOf vs.toArray en) (vs := vs) rfl F₁ N₁ (.tail _ hN) rfl rfl fun I lI => ?_
  have hNa : Na ≠ I := Nat.ne_of_lt (lI _ (.tail _ hN))
  have hDI : Dl ≠ I := Nat.ne_of_lt (lI _ (.head _))
  have hTI : ∀ p ∈ T9, p.1 ≠ I := fun p hp => Nat.ne_of_lt (lI _ (.tail _ hp))
  refine list_ind (FoldInv rq st Dl vq e T9) ?_ ?_ _ _ _ ?_
  · rintro m₁ news₁ ⟨st', sign, more, whole, rst, noted, u1, u2, u3, u4, u5, i1, i2, i3, i4, i5, i7, i8, i9, i10, i11, i12⟩ h₂ tk₂ F₂ N₂
    clear F₁ N₁
    cases i1
    k_steps
    (rename Fr h₀ L _ _ => F₃); (rename News h₀ L _ _ => N₃)
    refine hret _ _ _ _ ⟨_, u1, u2, u3, u4, u5, rfl, ?_⟩ F₃ N₃
    rw [← i2]; rfl
  · rintro v₁ rem₁ m₁ news₁ ⟨st', sign, more, whole, rst, noted, u1, u2, u3, u4, u5, i1, i2, i3, i4, i5, i7, i8, i9, i10, i11, i12⟩ it₂ h₂ tk₂ hc₂ F₂ N₂
    clear F₁ N₁
    cases i1 with
    | @cons k p n tn _ st' hk hn hp i1 =>
    have hpr := port_range n
    rw [hp] at hpr
    k_steps
    (rename Fr g' L' _ _ => F₃); (rename News g' L' _ _ => N₃); rename (I < _ ∧ Dl < _ ∧ AllLt _ T9) => l₃; rename DeedsAre _ _ => hds; rename_i l9 vs9
    refine iter_listUnr rfl F₃ N₃ (.head _) rfl rfl fun I2 lI2 => ?_
    clear F₂ N₂ l₃
    refine list_ind (DeedInv rq st st' p Dl vq e (l9, W.listOf vs9.toArray 0) (I, it₂) T9) ?_ ?_ _ _ _ ?_
    · rintro m₂ news₂ ⟨ds, sign', more', whole', rst', noted', y1, y2, y3, y4, y5, y6, j1, j2, j3, j4, j5, j7, j8, j9, j10, j11, j12, j13⟩ h₃ tk₃ F₄ N₄
      clear F₃ N₃
      cases j1
      k_steps
      (rename Fr g' L' _ _ => F₅); (rename News g' L' _ _ => N₅)
      exact UnrEnd.intro F₅ N₅ ((Dl, W.listOf vq.toArray e) :: T9) (sub_cons (by k_mem) (sub_cons (by k_mem) fun p hp => by repeat (first | exact hp | apply List.mem_cons_of_mem))) (List.forall_mem_cons.mpr ⟨hDI, hTI⟩)
        ⟨.tail _ hN, st', sign', more', whole', rst', noted', _, _, _, _, _, i1, j2, Nat.le_trans (Nat.add_le_add_left (Nat.le_add_left _ _) _) j3, j4, j5, j7, j8, j9, j10, j11, j12⟩
    · rintro v₂ rem₂ m₂ news₂ ⟨ds, sign', more', whole', rst', noted', y1, y2, y3, y4, y5, y6, j1, j2, j3, j4, j5, j7, j8, j9, j10, j11, j12, j13⟩ it₃ h₃ tk₃ hc₃ F₄ N₄
      clear F₃ N₃
      have hw := whole_64 j5 (show noted' ≤ cntD st by omega) hc12
      have hm1 : ∀ z, IntMulOk whole' z := fun z => IntMulOk.of_left (intBits_le_64 (by omega) (by omega))
      cases j1 with
      | @cons d x tx _ ds hd hx j1 =>
      obtain rfl | rfl | rfl | rfl | rfl := five_of hd
      · subst hx
        k_steps
        (rename Fr g' L' _ _ => F₅); (rename News g' L' _ _ => N₅)
        refine UnrEnd.intro F₅ N₅ (_ :: (I, it₂) :: (Dl, W.listOf vq.toArray e) :: T9) (sub_cons (by k_mem) (sub_cons (by k_mem) (sub_cons (by k_mem) fun p hp => by repeat (first | exact hp | apply List.mem_cons_of_mem))))
          (List.forall_mem_cons.mpr ⟨Nat.ne_of_lt (lI2 _ (.head _)), List.forall_mem_cons.mpr ⟨Nat.ne_of_lt (lI2 _ (.tail _ (.head _))), List.forall_mem_cons.mpr ⟨Nat.ne_of_lt (lI2 _ (.tail _ (.tail _ (.head _)))), fun p hp => Nat.ne_of_lt (lI2 _ (.tail _ (.tail _ (.tail _ hp))))⟩⟩⟩) ⟨.head _, ds, -sign', whole' - 1 - more', whole', whole' - 1 - rst', noted', _, _, _, _, _, _, j1, j2, Nat.le_trans (Nat.add_le_add_left (Nat.add_le_add_right (cnt4_le _ _ _) _) _) j3, j4, j5, rfl, rfl, j9, rfl, j11, j12, j13⟩
      · subst hx
        k_steps
        (rename Fr g' L' _ _ => F₅); (rename News g' L' _ _ => N₅)
        refine UnrEnd.intro F₅ N₅ (_ :: (I, it₂) :: (Dl, W.listOf vq.toArray e) :: T9) (sub_cons (by k_mem) (sub_cons (by k_mem) (sub_cons (by k_mem) fun p hp => by repeat (first | exact hp | apply List.mem_cons_of_mem))))
          (List.forall_mem_cons.mpr ⟨Nat.ne_of_lt (lI2 _ (.head _)), List.forall_mem_cons.mpr ⟨Nat.ne_of_lt (lI2 _ (.tail _ (.head _))), List.forall_mem_cons.mpr ⟨Nat.ne_of_lt (lI2 _ (.tail _ (.tail _ (.head _)))), fun p hp => Nat.ne_of_lt (lI2 _ (.tail _ (.tail _ (.tail _ hp))))⟩⟩⟩) ⟨.head _, ds, -sign', -1 - more', whole', whole' - 1 - rst', noted', _, _, _, _, _, _, j1, j2, Nat.le_trans (Nat.add_le_add_left (Nat.add_le_add_right (cnt4_le _ _ _) _) _) j3, j4, j5, rfl, rfl, j9, rfl, j11, j12, j13⟩
      · subst hx
        k_steps
        (rename Fr g' L' _ _ => F₅); (rename News g' L' _ _ => N₅)
        refine UnrEnd.intro F₅ N₅ (_ :: (I, it₂) :: (Dl, W.listOf vq.toArray e) :: T9) (sub_cons (by k_mem) (sub_cons (by k_mem) (sub_cons (by k_mem) fun p hp => by repeat (first | exact hp | apply List.mem_cons_of_mem))))
          (List.forall_mem_cons.mpr ⟨Nat.ne_of_lt (lI2 _ (.head _)), List.forall_mem_cons.mpr ⟨Nat.ne_of_lt (lI2 _ (.tail _ (.head _))), List.forall_mem_cons.mpr ⟨Nat.ne_of_lt (lI2 _ (.tail _ (.tail _ (.head _)))), fun p hp => Nat.ne_of_lt (lI2 _ (.tail _ (.tail _ (.tail _ hp))))⟩⟩⟩) ⟨.head _, ds, sign', more' + whole' * p, whole', rst', noted', _, _, _, _, _, _, j1, j2, Nat.le_trans (Nat.add_le_add_left (Nat.add_le_add_right (cnt4_le _ _ _) _) _) j3, j4, j5, j7, rfl, j9, j10, j11, j12, j13⟩
      · subst hx
        k_steps
        (rename Fr g' L' _ _ => F₅); (rename News g' L' _ _ => N₅)
        refine UnrEnd.intro F₅ N₅ (_ :: (I, it₂) :: (Dl, W.listOf vq.toArray e) :: T9) (sub_cons (by k_mem) (sub_cons (by k_mem) (sub_cons (by k_mem) fun p hp => by repeat (first | exact hp | apply List.mem_cons_of_mem))))
          (List.forall_mem_cons.mpr ⟨Nat.ne_of_lt (lI2 _ (.head _)), List.forall_mem_cons.mpr ⟨Nat.ne_of_lt (lI2 _ (.tail _ (.head _))), List.forall_mem_cons.mpr ⟨Nat.ne_of_lt (lI2 _ (.tail _ (.tail _ (.head _)))), fun p hp => Nat.ne_of_lt (lI2 _ (.tail _ (.tail _ (.tail _ hp))))⟩⟩⟩) ⟨.head _, ds, sign', more' - whole' * p, whole', rst', noted', _, _, _, _, _, _, j1, j2, Nat.le_trans (Nat.add_le_add_left (Nat.add_le_add_right (cnt4_le _ _ _) _) _) j3, j4, j5, j7, rfl, j9, j10, j11, j12, j13⟩
      · obtain hp3 | hp3 | hp3 : p < 0 ∨ p = 0 ∨ 0 < p := by omega
        · have hcd := cnt4_div (p := p) (r := ds) (by omega)
          have hn1 : noted' < rq.length := by omega
          subst hx
          k_steps
          all_goals (first | (exfalso; omega) | skip)
          (rename Fr g' L' _ _ => F₅); (rename News g' L' _ _ => N₅)
          rw [show (if p < 0 then -p else p) = (p.natAbs : Int) by split <;> omega] at F₅
          refine UnrEnd.intro F₅ N₅ (_ :: (I, it₂) :: (Dl, W.listOf vq.toArray e) :: T9) (sub_cons (by k_mem) (sub_cons (by k_mem) (sub_cons (by k_mem) fun p hp => by repeat (first | exact hp | apply List.mem_cons_of_mem))))
            (List.forall_mem_cons.mpr ⟨Nat.ne_of_lt (lI2 _ (.head _)), List.forall_mem_cons.mpr ⟨Nat.ne_of_lt (lI2 _ (.tail _ (.head _))), List.forall_mem_cons.mpr ⟨Nat.ne_of_lt (lI2 _ (.tail _ (.tail _ (.head _)))), fun p hp => Nat.ne_of_lt (lI2 _ (.tail _ (.tail _ (.tail _ hp))))⟩⟩⟩) ⟨.head _, ds, -sign', whole' - 1 - more', whole' * (p.natAbs : Int), whole' - 1 - rst' + whole' * (-rq.getD noted' 0), noted' + 1, _, _, _, _, _, _, j1, by rw [← j2]; simp only [List.foldl_cons, deedF, divF, if_neg (show ¬ p = 0 by omega), if_pos hp3], by omega, w_lo j4 (by omega), w_hi j5 j4 hpr.1 hpr.2, rfl, rfl, rfl, rfl, rfl, j12, j13⟩
        · subst hx
          k_steps
          all_goals (first | (exfalso; omega) | skip)
          (rename Fr g' L' _ _ => F₅); (rename News g' L' _ _ => N₅)
          refine UnrEnd.intro F₅ N₅ (_ :: (I, it₂) :: (Dl, W.listOf vq.toArray e) :: T9) (sub_cons (by k_mem) (sub_cons (by k_mem) (sub_cons (by k_mem) fun p hp => by repeat (first | exact hp | apply List.mem_cons_of_mem))))
            (List.forall_mem_cons.mpr ⟨Nat.ne_of_lt (lI2 _ (.head _)), List.forall_mem_cons.mpr ⟨Nat.ne_of_lt (lI2 _ (.tail _ (.head _))), List.forall_mem_cons.mpr ⟨Nat.ne_of_lt (lI2 _ (.tail _ (.tail _ (.head _)))), fun p hp => Nat.ne_of_lt (lI2 _ (.tail _ (.tail _ (.tail _ hp))))⟩⟩⟩) ⟨.head _, ds, sign', more', whole', rst', noted', _, _, _, _, _, _, j1, by rw [← j2]; simp only [List.foldl_cons, deedF, divF, if_pos hp3], Nat.le_trans (Nat.add_le_add_left (Nat.add_le_add_right (cnt4_le _ _ _) _) _) j3, j4, j5, j7, j8, j9, j10, j11, j12, j13⟩
        · have hcd := cnt4_div (p := p) (r := ds) (by omega)
          have hn1 : noted' < rq.length := by omega
          subst hx
          k_steps
          all_goals (first | (exfalso; omega) | skip)
          (rename Fr g' L' _ _ => F₅); (rename News g' L' _ _ => N₅)
          rw [show (if p < 0 then -p else p) = (p.natAbs : Int) by split <;> omega] at F₅
          refine UnrEnd.intro F₅ N₅ (_ :: (I, it₂) :: (Dl, W.listOf vq.toArray e) :: T9) (sub_cons (by k_mem) (sub_cons (by k_mem) (sub_cons (by k_mem) fun p hp => by repeat (first | exact hp | apply List.mem_cons_of_mem))))
            (List.forall_mem_cons.mpr ⟨Nat.ne_of_lt (lI2 _ (.head _)), List.forall_mem_cons.mpr ⟨Nat.ne_of_lt (lI2 _ (.tail _ (.head _))), List.forall_mem_cons.mpr ⟨Nat.ne_of_lt (lI2 _ (.tail _ (.tail _ (.head _)))), fun p hp => Nat.ne_of_lt (lI2 _ (.tail _ (.tail _ (.tail _ hp))))⟩⟩⟩) ⟨.head _, ds, sign', more', whole' * (p.natAbs : Int), rst' + whole' * rq.getD noted' 0, noted' + 1, _, _, _, _, _, _, j1, by rw [← j2]; simp only [List.foldl_cons, deedF, divF, if_neg (show ¬ p = 0 by omega), if_neg (show ¬ p < 0 by omega)], by omega, w_lo j4 (by omega), w_hi j5 j4 hpr.1 hpr.2, j7, j8, rfl, rfl, rfl, j12, j13⟩
    · exact ⟨_, sign, more, whole, rst, noted, _, _, _, _, _, _, hds, by rw [← i2, List.foldl_cons, fold_deeds _ _ _ hk], by rw [← cnt_deeds hk]; exact i3, i4, i5, i7, i8, i9, i10, i11, i12, rfl⟩
  · exact ⟨st, 1, 0, 1, 0, 0, _, _, _, _, _, hvs, rfl, by omega, by decide, by decide, rfl, rfl, rfl, rfl, rfl, rfl⟩
end Mine
end
section
open PySem PySem.W PyProof.Rows
set_option Elab.async false
namespace Mine
/-- the number told in one division -/
structure OneDiv (x : Int) (v : Int × List Int) (s : FS) : Prop where
  e : s.sign * x + s.more = s.whole * v.1 + s.rest
  lo : 0 ≤ s.rest
  hi : s.rest < s.whole
  n : s.noted = v.2.length
theorem one_flip {x : Int} {v : Int × List Int} {s : FS} (h : OneDiv x v s) : OneDiv x (-v.1, v.2) (flipF s) := by
  obtain ⟨e, lo, hi, n⟩ := h
  unfold flipF
  refine ⟨?_, ?_, ?_, n⟩
  · show -s.sign * x + (s.whole - 1 - s.more) = s.whole * -v.1 + (s.whole - 1 - s.rest)
    rw [Int.neg_mul, Int.mul_neg]; omega
  · show 0 ≤ s.whole - 1 - s.rest; omega
  · show s.whole - 1 - s.rest < s.whole; omega
theorem one_inv {x : Int} {v : Int × List Int} {s : FS} (h : OneDiv x v s) : OneDiv x (Builtin.bitNot v.1, v.2) (invF s) := by
  obtain ⟨e, lo, hi, n⟩ := h
  unfold invF
  refine ⟨?_, ?_, ?_, n⟩
  · show -s.sign * x + (-1 - s.more) = s.whole * Builtin.bitNot v.1 + (s.whole - 1 - s.rest)
    rw [show Builtin.bitNot v.1 = -v.1 - 1 from by unfold Builtin.bitNot; omega, Int.mul_sub, Int.neg_mul, Int.mul_neg, Int.mul_one]; omega
  · show 0 ≤ s.whole - 1 - s.rest; omega
  · show s.whole - 1 - s.rest < s.whole; omega
theorem one_add {x : Int} {v : Int × List Int} {s : FS} (d : Int) (h : OneDiv x v s) : OneDiv x (v.1 + d, v.2) ⟨s.sign, s.more + s.whole * d, s.whole, s.rest, s.noted⟩ := by
  obtain ⟨e, lo, hi, n⟩ := h
  refine ⟨?_, lo, hi, n⟩
  show s.sign * x + (s.more + s.whole * d) = s.whole * (v.1 + d) + s.rest
  rw [Int.mul_add]; omega
theorem fs_at {rq ys : List Int} {r : Int} : (rq ++ [r] ++ ys).getD rq.length 0 = r := by
  rw [List.append_assoc, List.getD_eq_getElem?_getD, List.getElem?_append_right (Nat.le_refl _), Nat.sub_self]
  rfl
theorem one_core {x V k z : Int} {rq : List Int} {sg mo wh re : Int} {n : Nat} (hk : 0 < k) (h : OneDiv x (V, rq) ⟨sg, mo, wh, re, n⟩) : OneDiv x (V.fdiv k, rq ++ [z]) ⟨sg, mo, wh * k, re + wh * V.fmod k, n + 1⟩ := by
  obtain ⟨e, lo, hi, n⟩ := h
  dsimp only at e lo hi n
  have hv := Int.mul_fdiv_add_fmod V k
  have h0 := Int.fmod_nonneg_of_pos V hk
  have h1 := Int.fmod_lt_of_pos V hk
  generalize V.fmod k = r at *
  generalize V.fdiv k = q at *
  refine ⟨?_, ?_, ?_, by simp [n]⟩
  · show sg * x + mo = wh * k * q + (re + wh * r)
    rw [e, ← hv, Int.mul_add, Int.mul_assoc]; omega
  · have := Int.mul_nonneg (show 0 ≤ wh by omega) h0
    show 0 ≤ re + wh * r
    omega
  · have := Int.mul_le_mul_of_nonneg_left (show r ≤ k - 1 by omega) (show 0 ≤ wh by omega)
    rw [Int.mul_sub, Int.mul_one] at this
    show re + wh * r < wh * k
    omega
theorem one_div {x p : Int} {v : Int × List Int} {s : FS} {rq : List Int} (h : OneDiv x v s) (hr : ∃ ys, rq = (divStep p v).2 ++ ys) : OneDiv x (divStep p v) (divF rq p s) := by
  unfold divStep divF at *
  split
  · exact h
  · rename_i hp
    rw [if_neg hp] at hr
    obtain ⟨ys, rfl⟩ := hr
    obtain ⟨V, rq⟩ := v
    rw [h.n, fs_at]
    split
    · have h' := one_core (k := -p) (z := V.fmod p) (by omega) (one_flip h)
      obtain ⟨f1, f2⟩ := neg_fdiv (x := V) (y := p)
      have f3 : -(V.fmod p) = (-V).fmod (-p) := by omega
      dsimp only at h'
      rw [f1, h.n] at h'
      dsimp only
      rw [f3, show ((p.natAbs : Nat) : Int) = -p by omega]
      exact h'
    · have h' := one_core (k := p) (z := V.fmod p) (by omega) h
      rw [show ((p.natAbs : Nat) : Int) = p by omega]
      rw [h.n] at h'
      exact h'
theorem done_more (d : Nat × Int) (v : Int × List Int) : ∃ ys, (doneStep v d).2 = v.2 ++ ys := by
  have hd : ∀ (p : Int) (u : Int × List Int), ∃ ys, (divStep p u).2 = u.2 ++ ys := by
    intro p u
    unfold divStep
    split
    · exact ⟨[], (List.append_nil _).symm⟩
    · exact ⟨_, rfl⟩
  unfold doneStep
  split
  · exact hd _ _
  · exact hd _ _
  · exact hd _ _
  · exact ⟨[], (List.append_nil _).symm⟩
  · exact ⟨[], (List.append_nil _).symm⟩
  · exact ⟨[], (List.append_nil _).symm⟩
theorem done_mores (st : List (Nat × Int)) : ∀ v : Int × List Int, ∃ ys, (st.foldl doneStep v).2 = v.2 ++ ys := by
  induction st with
  | nil => intro v; exact ⟨[], (List.append_nil _).symm⟩
  | cons d st ih =>
    intro v
    obtain ⟨ys, e⟩ := ih (doneStep v d)
    obtain ⟨zs, e'⟩ := done_more d v
    exact ⟨zs ++ ys, by rw [List.foldl_cons, e, e', List.append_assoc]⟩
theorem one_step {x : Int} {v : Int × List Int} {s : FS} {rq : List Int} {d : Nat × Int} (h : OneDiv x v s) (hr : ∃ ys, rq = (doneStep v d).2 ++ ys) : OneDiv x (doneStep v d) (foldF rq s d) := by
  obtain ⟨k, p⟩ := d
  match k with
  | 0 => exact one_div h hr
  | 1 => exact one_div (one_flip h) hr
  | 2 => exact one_div (one_inv h) hr
  | 3 => exact one_add p h
  | 4 =>
    have h' := one_add (-p) (one_inv h)
    unfold invF at h'
    rw [Int.mul_neg] at h'
    exact h'
  | n + 5 => exact one_add p (one_flip h)
theorem one_all (st : List (Nat × Int)) : ∀ {x : Int} {v : Int × List Int} {s : FS} {rq : List Int}, OneDiv x v s → (∃ ys, rq = (st.foldl doneStep v).2 ++ ys) → OneDiv x (st.foldl doneStep v) (st.foldl (foldF rq) s) := by
  induction st with
  | nil => intro x v s rq h _; exact h
  | cons d st ih =>
    intro x v s rq h hr
    refine ih (one_step h ?_) hr
    obtain ⟨ys, e⟩ := hr
    obtain ⟨zs, e'⟩ := done_mores st (doneStep v d)
    exact ⟨zs ++ ys, by rw [e, List.foldl_cons, e', List.append_assoc]⟩
theorem one_law (st : List (Nat × Int)) (x V : Int) (rq : List Int) (h : st.foldl doneStep (x, []) = (V, rq)) : OneDiv x (V, rq) (st.foldl (foldF rq) ⟨1, 0, 1, 0, 0⟩) := by
  have h1 : OneDiv x (x, []) ⟨1, 0, 1, 0, 0⟩ := ⟨by show (1 : Int) * x + 0 = 1 * x + 0; rfl, by decide, by decide, rfl⟩
  have h2 := one_all st (rq := rq) h1 ⟨[], by rw [h, List.append_nil]⟩
  rw [h] at h2
  exact h2
theorem cnt_step (d : Nat × Int) (v : Int × List Int) : (doneStep v d).2.length = v.2.length + (if d.1 < 3 ∧ d.2 ≠ 0 then 1 else 0) := by
  obtain ⟨k, p⟩ := d
  have hd : ∀ (u : Int × List Int), (divStep p u).2.length = u.2.length + (if p ≠ 0 then 1 else 0) := by
    intro u
    unfold divStep
    split
    · rename_i h; simp [h]
    · rename_i h; simp [h]
  match k with
  | 0 => simpa [doneStep] using hd v
  | 1 => simpa [doneStep] using hd (-v.1, v.2)
  | 2 => simpa [doneStep] using hd (Builtin.bitNot v.1, v.2)
  | 3 => rfl
  | 4 => rfl
  | n + 5 => simp only [doneStep, show ¬ (n + 5 < 3) by omega, false_and, if_false, Nat.add_zero]
theorem cnt_all (st : List (Nat × Int)) : ∀ v : Int × List Int, (st.foldl doneStep v).2.length = v.2.length + cntD st := by
  induction st with
  | nil => intro v; rfl
  | cons d st ih =>
    intro v
    rw [List.foldl_cons, ih, cnt_step]
    exact Nat.add_assoc _ _ _
def stepOf (k : Int) : Nat × Int := ((k.fmod 6).toNat, portOf k)
theorem six_lt (k : Int) : (k.fmod 6).toNat < 6 ∧ k.fmod 6 = (((k.fmod 6).toNat : Nat) : Int) := by
  have h0 := Int.fmod_nonneg_of_pos k (b := 6) (by decide)
  have h1 := Int.fmod_lt_of_pos k (b := 6) (by decide)
  omega
theorem rep_are {c : Nat} : ∀ {ys : List Value} {ns : List Int}, StrsAre ys (ns.map fun k => replyT (k.fmod 6).toNat (portOf k) ⟨#[c]⟩) → RepAre c ys (ns.map stepOf)
  | _, [], .nil => .nil
  | _, k :: _, .cons _ _ r => .cons (six_lt k).1 (port_range k).1 (port_range k).2 (rep_are r)
theorem num_are : ∀ {vs : List Value} {ns : List Int}, IntsAre vs ns → NumAre vs (ns.map stepOf)
  | _, _, .nil => .nil
  | _, _, .cons k _ r => .cons (six_lt k).1 (six_lt k).2 rfl (num_are r)
theorem whole_step {rq : List Int} {s : FS} {d : Nat × Int} (h : 1 ≤ s.whole) (h0 : -20 ≤ d.2) (h1 : d.2 ≤ 20) : 1 ≤ (foldF rq s d).whole ∧ (foldF rq s d).whole ≤ s.whole * 20 := by
  obtain ⟨k, p⟩ := d
  have same : 1 ≤ s.whole ∧ s.whole ≤ s.whole * 20 := by omega
  have dv : ∀ u : FS, u.whole = s.whole → 1 ≤ (divF rq p u).whole ∧ (divF rq p u).whole ≤ s.whole * 20 := by
    intro u hu
    have big : p ≠ 0 → 1 ≤ u.whole * (p.natAbs : Int) ∧ u.whole * (p.natAbs : Int) ≤ s.whole * 20 := by
      intro hp
      rw [hu]
      refine ⟨w_lo h hp, Int.mul_le_mul_of_nonneg_left ?_ (by omega)⟩
      dsimp only at h0 h1
      omega
    unfold divF
    split
    · rw [hu]; exact same
    · rename_i hp
      split <;> exact big hp
  match k with
  | 0 => exact dv s rfl
  | 1 => exact dv (flipF s) rfl
  | 2 => exact dv (invF s) rfl
  | 3 => exact same
  | 4 => exact same
  | n + 5 => exact same
theorem whole_all {rq : List Int} (st : List (Nat × Int)) : ∀ {s : FS}, 1 ≤ s.whole → (∀ d ∈ st, -20 ≤ d.2 ∧ d.2 ≤ 20) → 1 ≤ (st.foldl (foldF rq) s).whole ∧ (st.foldl (foldF rq) s).whole ≤ s.whole * 20 ^ st.length := by
  induction st with
  | nil => intro s h _; exact ⟨h, by simp⟩
  | cons d st ih =>
    intro s h hd
    obtain ⟨h1, h2⟩ := whole_step (rq := rq) h (hd d (.head _)).1 (hd d (.head _)).2
    obtain ⟨i1, i2⟩ := ih h1 (fun e he => hd e (.tail _ he))
    refine ⟨i1, Int.le_trans i2 ?_⟩
    rw [List.length_cons, Int.pow_succ, Int.mul_comm (20 ^ st.length) 20, ← Int.mul_assoc]
    exact Int.mul_le_mul_of_nonneg_right h2 (Int.pow_nonneg (by decide))
theorem done_bd (st : List (Nat × Int)) : ∀ {v : Int × List Int}, (∀ d ∈ st, -20 ≤ d.2 ∧ d.2 ≤ 20) → (st.foldl doneStep v).1.natAbs ≤ v.1.natAbs + 40 * st.length := by
  induction st with
  | nil => intro v _; simp
  | cons d st ih =>
    intro v hd
    have h1 := ih (v := doneStep v d) (fun e he => hd e (.tail _ he))
    have h2 : (doneStep v d).1.natAbs ≤ v.1.natAbs + 40 := by
      have hp := hd d (.head _)
      obtain ⟨k, p⟩ := d
      dsimp only at hp
      have dv : ∀ u : Int × List Int, (divStep p u).1.natAbs ≤ u.1.natAbs := by
        intro u
        unfold divStep
        split
        · exact Nat.le_refl _
        · exact Int.natAbs_fdiv_le_natAbs u.1 p
      match k with
      | 0 => have := dv v; show (divStep p v).1.natAbs ≤ _; omega
      | 1 => have := dv (-v.1, v.2); dsimp only at this; show (divStep p (-v.1, v.2)).1.natAbs ≤ _; omega
      | 2 => have := dv (Builtin.bitNot v.1, v.2); dsimp only at this; have e : (Builtin.bitNot v.1).natAbs ≤ v.1.natAbs + 1 := (by unfold Builtin.bitNot; omega); show (divStep p (Builtin.bitNot v.1, v.2)).1.natAbs ≤ _; omega
      | 3 => show (v.1 + p).natAbs ≤ _; omega
      | 4 => have e : (Builtin.bitNot v.1).natAbs ≤ v.1.natAbs + 1 := (by unfold Builtin.bitNot; omega); show (Builtin.bitNot v.1 - p).natAbs ≤ _; omega
      | n + 5 => show (-v.1 + p).natAbs ≤ _; omega
    rw [List.foldl_cons, List.length_cons]
    omega
theorem x_bd {W V r x : Int} (e : x = W * V + r) (h0 : 1 ≤ W) (h1 : W < 2 ^ 29) (hV : V.natAbs ≤ 2 ^ 50) (r0 : 0 ≤ r) (r1 : r < W) : x < 2 ^ 100 ∧ -x < 2 ^ 100 := by
  have a := Int.mul_le_mul_of_nonneg_left (show V ≤ 2 ^ 50 by omega) (show 0 ≤ W by omega)
  have b := Int.mul_le_mul_of_nonneg_left (show -(2 ^ 50) ≤ V by omega) (show 0 ≤ W by omega)
  omega
theorem steps_bd (ns : List Int) : ∀ d ∈ ns.map stepOf, -20 ≤ d.2 ∧ d.2 ≤ 20 := by
  intro d hd
  obtain ⟨k, -, rfl⟩ := List.mem_map.mp hd
  exact port_range k
theorem law_facts {v0 V : Int} {rq : List Int} {z0 z1 z2 z3 z4 z5 : Int} {S : FS} (hv0 : v0.natAbs ≤ 2 ^ 41) (hfold : (List.map stepOf [z0, z1, z2, z3, z4, z5]).foldl doneStep (v0, []) = (V, rq)) (hS : (List.map stepOf [z0, z1, z2, z3, z4, z5]).foldl (foldF rq) ⟨1, 0, 1, 0, 0⟩ = S) :
    (S.noted : Int) = (rq.length : Int) ∧ S.whole ≠ 0 ∧ S.whole < 2 ^ 29 ∧ -S.whole < 2 ^ 29 ∧ S.sign * v0 + S.more < 2 ^ 100 ∧ -(S.sign * v0 + S.more) < 2 ^ 100 ∧ (S.sign * v0 + S.more).fdiv S.whole = V ∧ (S.sign * v0 + S.more).fmod S.whole = S.rest := by
  obtain ⟨ho1, ho2, ho3, ho4⟩ := one_law _ _ _ _ hfold
  have hV := done_bd (List.map stepOf [z0, z1, z2, z3, z4, z5]) (v := (v0, [])) (steps_bd _)
  rw [hfold] at hV
  have hW := whole_all (rq := rq) (List.map stepOf [z0, z1, z2, z3, z4, z5]) (s := ⟨1, 0, 1, 0, 0⟩) (by decide) (steps_bd _)
  rw [hS] at ho1 ho2 ho3 ho4 hW
  simp only [List.length_map, List.length_cons, List.length_nil] at hV hW
  have hW2 : S.whole < 2 ^ 29 := Int.lt_of_le_of_lt hW.2 (by decide)
  obtain ⟨hx1, hx2⟩ := x_bd ho1 hW.1 hW2 (by omega) ho2 ho3
  obtain ⟨hq1, hq2⟩ := fdm_unique (Int.lt_of_lt_of_le (by decide) hW.1) ho1 ho2 ho3
  exact ⟨congrArg Int.ofNat ho4, by omega, hW2, by omega, hx1, hx2, hq1, hq2⟩
theorem law_cnt {v0 V : Int} {rq : List Int} {z0 z1 z2 z3 z4 z5 : Int} (hfold : (List.map stepOf [z0, z1, z2, z3, z4, z5]).foldl doneStep (v0, []) = (V, rq)) : cntD (List.map stepOf [z0, z1, z2, z3, z4, z5]) ≤ rq.length ∧ rq.length ≤ 60 := by
  have h := cnt_all (List.map stepOf [z0, z1, z2, z3, z4, z5]) (v0, [])
  have h2 := cnt_len (List.map stepOf [z0, z1, z2, z3, z4, z5])
  rw [hfold] at h
  simp only [List.length_map, List.length_cons, List.length_nil] at h h2 ⊢
  omega
end Mine
end
section
open PySem PySem.W PyProof.Rows
set_option Elab.async false
set_option maxRecDepth 100000
set_option maxHeartbeats 2000000
namespace Mine
theorem stop_eval {M : Model} {A : Around} {E : Value → Shared → Prop} {s : Shared} {st : PySem.Expr} {env : Env} {Q : Value → Shared → Prop} (h : Stop (wpAny M A (eval st env) Q E s)) : wpAny M A (eval st env) Q E s := h
theorem stop_any {P : Prop} (h : Stop P) : P := h
theorem ints_from {p : Int → Prop} : ∀ {zs vs : List Value} {ns : List Int}, IntsAre vs ns → (∀ n ∈ ns, p n) → (∀ z ∈ zs, z ∈ vs) → ∃ ks, IntsAre zs ks ∧ ∀ k ∈ ks, p k
  | [], _, _, _, _, _ => ⟨[], .nil, fun _ h => nomatch h⟩
  | z :: zs, vs, ns, h, hp, hz => by
    obtain ⟨ks, h1, h2⟩ := ints_from h hp (fun y hy => hz y (.tail _ hy))
    have hz' := hz z (.head _)
    have : ∃ k t, z = .int k t ∧ p k := by
      clear h1 h2 ks hz
      induction h with
      | nil => cases hz'
      | cons n t hv ih =>
        rcases List.mem_cons.mp hz' with rfl | hz'
        · exact ⟨n, t, rfl, hp n (.head _)⟩
        · exact ih (fun k hk => hp k (.tail _ hk)) hz'
    obtain ⟨k, t, rfl, hk⟩ := this
    refine ⟨k :: ks, .cons k t h1, fun j hj => ?_⟩
    rcases List.mem_cons.mp hj with rfl | hj
    · exact hk
    · exact h2 j hj
theorem pick_sum {vs : List Value} {ns : List Int} {lo hi st : Option Int} {B : Int} (h : IntsAre vs ns) (hb : ∀ n ∈ ns, 0 ≤ n ∧ n < B) : ∃ ks, IntsAre (slicePick vs.toArray lo hi st).toList ks ∧ 0 ≤ ks.sum ∧ ks.sum ≤ B * (vs.length : Int) := by
  obtain ⟨ks, h1, h2⟩ := ints_from (zs := (slicePick vs.toArray lo hi st).toList) h hb (fun z hz => by
    unfold slicePick at hz
    obtain ⟨i, -, hi⟩ := List.mem_filterMap.mp hz
    have hi' : vs[i]? = some z := by simpa using hi
    exact List.mem_of_getElem? hi')
  refine ⟨ks, h1, ?_⟩
  have hl : ks.length ≤ vs.length := by
    rw [← h1.length, Array.length_toList]
    simpa using slicePick_size_le vs.toArray lo hi st
  have hs : 0 ≤ ks.sum ∧ ks.sum ≤ B * (ks.length : Int) := by
    clear h1 hl
    induction ks with
    | nil => simp
    | cons k ks ih =>
      obtain ⟨i1, i2⟩ := ih (fun j hj => h2 j (.tail _ hj))
      obtain ⟨k1, k2⟩ := h2 k (.head _)
      rw [List.sum_cons, List.length_cons, Int.natCast_add, Int.mul_add]
      omega
  refine ⟨hs.1, Int.le_trans hs.2 ?_⟩
  by_cases hk : ks = []
  · subst hk
    by_cases hv : vs = []
    · subst hv; simp
    · have : 0 ≤ B := by
        cases h with
        | nil => exact absurd rfl hv
        | cons n t _ => have := hb n (.head _); omega
      simpa using Int.mul_nonneg this (Int.natCast_nonneg _)
  · obtain ⟨k, ks', rfl⟩ := List.exists_cons_of_ne_nil hk
    have := h2 k (.head _)
    exact Int.mul_le_mul_of_nonneg_left (by omega) (by omega)
theorem reply_is (w : World) (news : List (Addr × Obj)) (n : Int) (mk : Str) (t u : Tok) (hm : mk.length = 1) :
    Con w 131 news [.int n t, .str mk u] 2 16 (IsStr (replyT (n.fmod 6).toNat (portOf n) mk)) := reply_con w news n mk t u _ (six_lt n).1 (six_lt n).2 hm
theorem mark_is (z : Int) : ∃ c : Nat, MarkOk c ∧ Txt.item (Str.ofString "|\"/!") (z.fmod 4) = ⟨#[c]⟩ := by
  have h0 := Int.fmod_nonneg_of_pos z (b := 4) (by decide)
  have h1 := Int.fmod_lt_of_pos z (b := 4) (by decide)
  generalize z.fmod 4 = r at *
  obtain rfl | rfl | rfl | rfl : r = 0 ∨ r = 1 ∨ r = 2 ∨ r = 3 := by omega
  · exact ⟨124, .inl rfl, by decide +kernel⟩
  · exact ⟨34, .inr (.inl rfl), by decide +kernel⟩
  · exact ⟨47, .inr (.inr (.inl rfl)), by decide +kernel⟩
  · exact ⟨33, .inr (.inr (.inr rfl)), by decide +kernel⟩
theorem tab_grown {P : Addr} {ln cl : Nat} {q : Str} {t : List (Addr × Obj)} (h : TabOk P ln cl q t) : ∃ ps, (P, tabObj ps) ∈ t := by
  cases h with
  | fresh => exact ⟨_, .head _⟩
  | used _ _ _ => exact ⟨_, .tail _ (.head _)⟩
theorem start_bd {z : Int} (h0 : 0 ≤ z) (h1 : z < 2 ^ 40) : (Builtin.bitNot (z.fdiv 2)).natAbs ≤ 2 ^ 41 ∧ (z.fdiv 2).natAbs ≤ 2 ^ 41 := by
  obtain ⟨e, q0, q1⟩ := fdm_spec z (y := 2) (by decide)
  generalize z.fdiv 2 = q at *
  generalize z.fmod 2 = r at *
  unfold Builtin.bitNot
  omega
theorem cons_of {α : Type} {ys : List α} {n : Nat} (h : ys.length = n + 1) : ∃ a r, ys = a :: r ∧ r.length = n := by
  cases ys with
  | nil => cases h
  | cons a r => exact ⟨a, r, rfl, Nat.succ.inj h⟩
inductive Eight (P : Int → Prop) : List Value → Prop
  | mk (z0 z1 z2 z3 z4 z5 z6 z7 : Int) (t0 t1 t2 t3 t4 t5 t6 t7 : Tok) (h6 : P z6) : Eight P [.int z0 t0, .int z1 t1, .int z2 t2, .int z3 t3, .int z4 t4, .int z5 t5, .int z6 t6, .int z7 t7]
theorem eight {ys : List Value} {P : Int → Prop} (hl : ys.length = 8) (hY : ∀ (i : Nat) (y : Value), ys[i]? = some y → ∃ z t, y = .int z t ∧ P z) : Eight P ys := by
  obtain ⟨a0, y1, rfl, l1⟩ := cons_of hl
  obtain ⟨a1, y2, rfl, l2⟩ := cons_of l1
  obtain ⟨a2, y3, rfl, l3⟩ := cons_of l2
  obtain ⟨a3, y4, rfl, l4⟩ := cons_of l3
  obtain ⟨a4, y5, rfl, l5⟩ := cons_of l4
  obtain ⟨a5, y6, rfl, l6⟩ := cons_of l5
  obtain ⟨a6, y7, rfl, l7⟩ := cons_of l6
  obtain ⟨a7, y8, rfl, l8⟩ := cons_of l7
  cases List.eq_nil_of_length_eq_zero l8
  obtain ⟨z0, t0, rfl, -⟩ := hY 0 _ rfl
  obtain ⟨z1, t1, rfl, -⟩ := hY 1 _ rfl
  obtain ⟨z2, t2, rfl, -⟩ := hY 2 _ rfl
  obtain ⟨z3, t3, rfl, -⟩ := hY 3 _ rfl
  obtain ⟨z4, t4, rfl, -⟩ := hY 4 _ rfl
  obtain ⟨z5, t5, rfl, -⟩ := hY 5 _ rfl
  obtain ⟨z6, t6, rfl, h6⟩ := hY 6 _ rfl
  obtain ⟨z7, t7, rfl, -⟩ := hY 7 _ rfl
  exact .mk _ _ _ _ _ _ _ _ _ _ _ _ _ _ _ _ h6
section
local macro_rules | `(tactic| walk_at "exec Assign cons ListComp") => `(tactic| ((with_reducible show wpAny _ _ (exec (Stmt.Assign _ (PySem.Expr.ListComp _ [⟨_, PySem.Expr.Call _ _ _ _, _, _⟩] _ _) _) _) _ _ _); refine stop_exec ?_))
local macro_rules | `(tactic| walk_at "eval ListComp") => `(tactic| ((with_reducible show wpAny _ _ (eval (PySem.Expr.ListComp (PySem.Expr.Call (PySem.Expr.Name ("_law_reply" : Str) _) _ _ _) _ _ _) _) _ _ _); refine stop_eval ?_))
local macro_rules | `(tactic| walk_at "eval IfExp") => `(tactic| ((with_reducible show wpAny _ _ (eval _ _) (fun _ _ => wpAny _ _ (storeName _ _ _) _ _ _) _ _); refine stop_eval ?_))
local macro_rules | `(tactic| walk_at "CompSrc") => `(tactic| ((with_reducible show LCg.CompSrc _ _ _ _ _ _ _ _ ("number" : Str) _ _ _ _ _); refine stop_any ?_))
local macro_rules | `(tactic| walk_at "call ref") => `(tactic| refine stop_call ?_)
local macro_rules | `(tactic| walk_at "GrownAll") => `(tactic| refine stop_any ?_)
local macro_rules | `(tactic| walk_at "call type:enumerate") => `(tactic| refine stop_call ?_)
local macro_rules | `(tactic| walk_at "call builtin:sum") => `(tactic| refine stop_call ?_)
local macro_rules | `(tactic| walk_at "subscriptTail Name Slice ref ref") => `(tactic| (k_here; (with_reducible show wpAny _ _ (subscriptTail _ (PySem.Expr.Slice _ _ (some _) _) (Value.ref _) (Value.ref _)) _ _ _); k_dflt (refine' kmk_slice3_lit ?F ?N ?l ?p ?q ?k ?o ?e ?_ ?s ?t ?z; (case F => k_asm); (case N => k_asm); (case l => kmk_list); (case p => kmk_part); (case q => kmk_part); (case k => kmk_part); (case o => decide); (case e => exact rfl); (case s => with_unfolding_all rfl); (case t => kmk_pure); (case z => kmk_size)); intro D' h' F' N' l1))
/- The names law_w.tw.. are taken on purpose: where they are taken the kit's quick look lays no twins of the row's own data.
The proof does not want those twins, and without them the compiled file stays small. -/
def law_w.tw908584282110016484 : Nat := 0
def law_w.tw18323928643978938652 : Nat := 0
def law_w.tw9149938370021202515 : Nat := 0
def law_w.tw3841515894279046315 : Nat := 0
def law_w.tw12700882536720370989 : Nat := 0
def law_w.tw6702563514216093258 : Nat := 0
def law_w.tw11356798496121015057 : Nat := 0
def law_w.tw17905767669358574402 : Nat := 0
def law_w.tw17386733408778784862 : Nat := 0
def law_w.tw15971762383964737040 : Nat := 0
def law_w.tw519817587710381860 : Nat := 0
def law_w.tw6167433193778951026 : Nat := 0
def law_w.tw9904407611250164605 : Nat := 0
def law_w.tw5762978025554335115 : Nat := 0
def law_w.tw13516766049046835963 : Nat := 0
def law_w.tw8472389747634594090 : Nat := 0
def law_w.tw8774226383004336276 : Nat := 0
def law_w.tw4470582486093685861 : Nat := 0
def law_w.tw343868433178911596 : Nat := 0
def law_w.tw16724603419882463805 : Nat := 0
def law_w.tw4269122211704333159 : Nat := 0
def law_w.tw4831226075788339175 : Nat := 0
def law_w.tw15511933558504632404 : Nat := 0
def law_w.tw8197350790442471477 : Nat := 0
def law_w.tw4720978286890611305 : Nat := 0
def law_w.tw17650889930245540875 : Nat := 0
def law_w.tw17775352182937513400 : Nat := 0
def law_w.tw13496840620695987235 : Nat := 0
def law_w.tw17072750214422470291 : Nat := 0
def law_w.tw10430886066021695781 : Nat := 0
def law_w.tw2895351705395442363 : Nat := 0
def law_w.tw9564770013968088969 : Nat := 0
def law_w.tw7818399227749438140 : Nat := 0
def law_w.tw7497727758837857352 : Nat := 0
def law_w.tw13926847295402817445 : Nat := 0
def law_w.tw10786501609392311507 : Nat := 0
def law_w.tw658248557939911226 : Nat := 0
def law_w.tw4327576685456506539 : Nat := 0
def law_w.tw1583825694654848680 : Nat := 0
def law_w.tw11035668781031181909 : Nat := 0
def law_w.tw7873803186459090975 : Nat := 0
def law_w.tw11922392889119242498 : Nat := 0
def law_w.tw1715645757812494620 : Nat := 0
def law_w.tw11871634674328138970 : Nat := 0
def law_w.tw526384110110609881 : Nat := 0
def law_w.tw4295679824800421615 : Nat := 0
def law_w.tw12500106642314072766 : Nat := 0
def law_w.tw16064700956100891680 : Nat := 0
def law_w.tw9135058236918745118 : Nat := 0
def law_w.tw6222471340540579438 : Nat := 0
def law_w.tw14381254306319304586 : Nat := 0
def law_w.tw2392076760733142484 : Nat := 0
def law_w.tw6097329086352264205 : Nat := 0
def law_w.tw10680117721616348721 : Nat := 0
def law_w.tw658281511379984409 : Nat := 0
def law_w.tw11815540236164284622 : Nat := 0
def law_w.tw2917350989071455604 : Nat := 0
def law_w.tw17058004912876188847 : Nat := 0
def law_w.tw10931611703500454407 : Nat := 0
def law_w.tw7950153884872195854 : Nat := 0
def law_w.tw13166628029281757679 : Nat := 0
def law_w.tw14414296492110753997 : Nat := 0
def law_w.tw7097022797495323326 : Nat := 0
def law_w.tw1422859783933727094 : Nat := 0
def law_w.tw17585351006424807792 : Nat := 0
def law_w.tw5197160162427851524 : Nat := 0
def law_w.tw145868911553314298 : Nat := 0
def law_w.tw18319631891047334592 : Nat := 0
def law_w.tw1734121488063725412 : Nat := 0
def law_w.tw2952371532216758265 : Nat := 0
def law_w.tw4375616467061938132 : Nat := 0
def law_w.tw16433006392672953673 : Nat := 0
def law_w.tw13058338482805642786 : Nat := 0
def law_w.tw17601647166858337195 : Nat := 0
def law_w.tw17802844045141044014 : Nat := 0
def law_w.tw8955294972223127115 : Nat := 0
def law_w.tw4283472694231660265 : Nat := 0
def law_w.tw3528944282860906934 : Nat := 0
def law_w.tw8703883062298457827 : Nat := 0
def law_w.tw15568118468489587139 : Nat := 0
def law_w.tw2588214516153403519 : Nat := 0
def law_w.tw11954994001167267189 : Nat := 0
def law_w.tw1725119927545013116 : Nat := 0
def law_w.tw8378196480078703183 : Nat := 0
def law_w.tw5093871186267868206 : Nat := 0
def law_w.tw8706980624845485287 : Nat := 0
def law_w.tw3551689605142075751 : Nat := 0
def law_w.tw6249351975847539405 : Nat := 0
def law_w.tw7020353590441907108 : Nat := 0
def law_w.tw8223680326213721276 : Nat := 0
def law_w.tw16899105477632657316 : Nat := 0
def law_w.tw16123205844218978893 : Nat := 0
def law_w.tw16976368127227883866 : Nat := 0
def law_w.tw8673768483921210944 : Nat := 0
def law_w.tw14759454081442801861 : Nat := 0
def law_w.tw14019310147725331688 : Nat := 0
def law_w.tw15961641089115061612 : Nat := 0
def law_w.tw18304135470431548337 : Nat := 0
def law_w.tw4288022386673842790 : Nat := 0
def law_w.tw8527111051382462584 : Nat := 0
def law_w.tw10590351964931769190 : Nat := 0
def law_w.tw18206069905916623187 : Nat := 0
def law_w.tw16828628109835167896 : Nat := 0
def law_w.tw710105728124734942 : Nat := 0
def law_w.tw15571946988733671115 : Nat := 0
def law_w.tw13248169900372189244 : Nat := 0
def law_w.tw15777453716955756963 : Nat := 0
def law_w.tw12029798835708354415 : Nat := 0
def law_w.tw4368495994343989333 : Nat := 0
def law_w.tw13283316798727029310 : Nat := 0
def law_w.tw7055493703413768548 : Nat := 0
def law_w.tw7136141029021608160 : Nat := 0
def law_w.tw1292947472362875040 : Nat := 0
def law_w.tw16971115013154000121 : Nat := 0
def law_w.tw8651731942117014396 : Nat := 0
def law_w.tw9393570745743083228 : Nat := 0
def law_w.tw10957804690260217252 : Nat := 0
def law_w.tw2799192635983554365 : Nat := 0
def law_w.tw17081297879119527853 : Nat := 0
def law_w.tw14034694205492867611 : Nat := 0
def law_w.tw389176285713185140 : Nat := 0
def law_w.tw15343077298934155539 : Nat := 0
def law_w.tw12303075089463700262 : Nat := 0
def law_w.tw17940303060566869383 : Nat := 0
def law_w.tw9052534423426398616 : Nat := 0
def law_w.tw4946030515961831145 : Nat := 0
def law_w.tw7177280571184721875 : Nat := 0
def law_w.tw4181843841262213333 : Nat := 0
def law_w.tw13264797982083870589 : Nat := 0
def law_w.tw13641764239605724349 : Nat := 0
def law_w.tw3314765244410149184 : Nat := 0
def law_w.tw40529144791647058 : Nat := 0
def law_w.tw2995430686839793600 : Nat := 0
def law_w.tw12697767537495148231 : Nat := 0
def law_w.tw11863353516289585964 : Nat := 0
def law_w.tw8665676235769590426 : Nat := 0
def law_w.tw2220379004980122239 : Nat := 0
def law_w.tw9456865075301044202 : Nat := 0
def law_w.tw6334800905658459122 : Nat := 0
def law_w.tw8240222443020983563 : Nat := 0
def law_w.tw7776962517783714822 : Nat := 0
def law_w.tw15395579370934418956 : Nat := 0
def law_w.tw9830764374380795853 : Nat := 0
def law_w.tw11974290920345762023 : Nat := 0
def law_w.tw14671866214702983311 : Nat := 0
def law_w.tw5156801715367101388 : Nat := 0
def law_w.tw4385314060366624320 : Nat := 0
def law_w.tw17654430537856184309 : Nat := 0
def law_w.tw10026448116097110916 : Nat := 0
def law_w.tw6366691465489354249 : Nat := 0
def law_w.tw2195040994093749064 : Nat := 0
def law_w.tw5461194508741518068 : Nat := 0
def law_w.tw10611661928608077709 : Nat := 0
def law_w.tw11539556534233449701 : Nat := 0
set_option maxHeartbeats 8000000 in
set_option Elab.async true in
theorem law_w : PySem.Challenge.rw_we0025_01.Holds := by
    w_on
    o_law
    o_head (kmHook pre.heap_1 [2, 3, 6, 15, 22, 23, 24, 25, 28, 35, 36, 37, 40, 47, 48, 49, 52, 54, 55, 57, 58, 59, 61, 62, 64, 65, 66, 68, 69, 71, 72, 73, 75, 76, 78, 79, 80, 82, 83, 85, 86, 87, 89, 90, 92, 93, 94, 96, 97, 99, 100, 101, 103, 104, 106, 107, 108, 111, 113, 114, 116, 117, 118, 120, 121, 123, 124, 125, 127, 128, 130, 131, 132, 134, 135, 137, 138, 139, 141, 142, 144, 145, 146, 149, 150] (fun _ => by kernel_rfl) [88, 81])
    (case hw => w_witness2)
    k_go0
    all_goals (try k_fold)
    k_steps
    unfold Stop
    rename_i w s₀ s₁ mg mb G Y fa o pm cd doc ho hcd hg X V T B TE TW xs hs hlay0 hL1 hr1 hl2 w6 w5 w4 w3 w2 hL ra w1 r0 hI hr hc63 hctrue hD h₁ tk₁ c1 c0 left right X0 X' T' K' cH l0 D1 ws hh2 hIw hCw hLw l1 hkl1 hkl g' hI8 hL8 D2 h1' tk1' o1' h2' oc F N d'
    have e1 : c1.data = .cell none := left
    clear left right X0 ho hcd ra w1 r0 hr hD hc63 hctrue hs hlay0 hL1 hr1 hl2 hT8 hT9
    obtain ⟨m, F⟩ : ∃ m, Fr (ghostOf s₁.heap [(92, 88), (85, 81)]) s₁.heap.objs.size h2' m := ⟨_, F⟩
    have hlen : ys.length ≤ 16 := by rw [hL8, List.length_map, hCw]; omega
    have hcell : ∀ n ∈ List.map (fun k' => k'.fmod (10 ^ Int.toNat 6)) (List.take 16 xs), 0 ≤ n ∧ n < 1000000 := by
      intro n hn
      obtain ⟨k, -, rfl⟩ := List.mem_map.mp hn
      exact ⟨Int.fmod_nonneg_of_pos _ (by decide), Int.fmod_lt_of_pos _ (by decide)⟩
    refine wpAny_Assign_Name ?_
    refine enum_comp F (by with_unfolding_all rfl) (by decide) (by rfl) (by decide) (by rfl) (by rfl) (by decide) ?_
    k_steps
    unfold Stop
    (rename Fr _ _ _ _ => F₁); (rename News _ _ _ _ => N₁)
    refine EnumSrc.made (vs := [.int 162 _, .int 154 _, .int 103 _, .int 120 _, .int 146 _, .int 89 _, .int 4052 _, .int 0 _]) (fun i y => ∃ z t, y = .int z t ∧ 0 ≤ z ∧ z < 2 ^ 40) rfl (Nat.le_of_ble_eq_true rfl) F₁ N₁ (.head _) (fun h i v hv => ?_) (fun D h tk ys F N o hl hY => ?_)
    · obtain ⟨c, tc, rfl, hc0, hc1, hi⟩ : ∃ c tc, v = .int c tc ∧ 0 ≤ c ∧ c ≤ 4052 ∧ i < 8 := by
        match i, hv with
        | 0, hv => cases hv; exact ⟨_, _, rfl, by decide, by decide, by decide⟩
        | 1, hv => cases hv; exact ⟨_, _, rfl, by decide, by decide, by decide⟩
        | 2, hv => cases hv; exact ⟨_, _, rfl, by decide, by decide, by decide⟩
        | 3, hv => cases hv; exact ⟨_, _, rfl, by decide, by decide, by decide⟩
        | 4, hv => cases hv; exact ⟨_, _, rfl, by decide, by decide, by decide⟩
        | 5, hv => cases hv; exact ⟨_, _, rfl, by decide, by decide, by decide⟩
        | 6, hv => cases hv; exact ⟨_, _, rfl, by decide, by decide, by decide⟩
        | 7, hv => cases hv; exact ⟨_, _, rfl, by decide, by decide, by decide⟩
        | n + 8, hv => cases hv
      clear F₁ N₁ hv l1 o1' hkl hkl1 hLw
      intro oC C e it D' oe oi oD m₂ h tk t E' hC ha hb F₁ N₁
      k_steps
      (rename Fr _ _ _ _ => F₂); (rename News _ _ _ _ => N₂)
      unfold Stop
      obtain ⟨ks, hk, hs0, hs1⟩ := pick_sum (lo := some (i : Int)) (hi := none) (st := some 8) hI8 hcell
      refine sumK rfl F₂ N₂ (News.isList N₂ (.head _)) hk fun h₃ tk₃ t₃ F₃ N₃ => ?_
      clear F₂ N₂
      k_steps
      (rename Fr _ _ _ _ => F₄); (rename News _ _ _ _ => N₄)
      refine EnumEnd.intro F₄ N₄ (fun p hp => by repeat (first | exact hp | apply List.mem_cons_of_mem)) ⟨_, _, rfl, by omega, by omega⟩
    · obtain ⟨z0, z1, z2, z3, z4, z5, z6, z7, t0, t1, t2, t3, t4, t5, t6, t7, hz6⟩ := eight hl hY
      have N₂ : News (ghostOf s₁.heap [(92, 88), (85, 81)]) s₁.heap.objs.size h [(D, LCg.lst [.int z0 t0, .int z1 t1, .int z2 t2, .int z3 t3, .int z4 t4, .int z5 t5, .int z6 t6, .int z7 t7]), (s₁.heap.objs.size + 1 + 1, c1), (88, tabObj #[]), (81, tabObj #[])] :=
        drop_news N fun p hp => by simp only [List.mem_cons] at hp ⊢; rcases hp with h | h | h | h <;> simp only [h, true_or, or_true]
      clear F₁ N₁ N hY hl hcell hlen hI8 hL8 hIw hCw hLw hkl hkl1 hI l1 o1'
      k_steps
      unfold Stop
      (rename Fr _ _ _ _ => F₃); (rename News _ _ _ _ => N₃)
      rename_i hA oC1 e2 Ds hB lDs hC
      have N₄ : News (ghostOf s₁.heap [(92, 88), (85, 81)]) s₁.heap.objs.size hC [(Ds, W.listOf #[.int z0 t0, .int z1 t1, .int z2 t2, .int z3 t3, .int z4 t4, .int z5 t5] 0), (D, LCg.lst [.int z0 t0, .int z1 t1, .int z2 t2, .int z3 t3, .int z4 t4, .int z5 t5, .int z6 t6, .int z7 t7]), (s₁.heap.objs.size + 1 + 1, oC1), (88, tabObj #[]), (81, tabObj #[])] := N₃
      clear N₃
      refine wpAny_mono (show wpAny _ _ _ (EnumEnd (ghostOf s₁.heap [(92, 88), (85, 81)]) s₁.heap.objs.size (fun y => if y = Str.ofString "steps" then some (Value.ref Ds) else m y) s₁ (fun v => ∃ z t, v = .int z t ∧ z.natAbs ≤ 2 ^ 41) [(Ds, W.listOf #[.int z0 t0, .int z1 t1, .int z2 t2, .int z3 t3, .int z4 t4, .int z5 t5] 0), (D, LCg.lst [.int z0 t0, .int z1 t1, .int z2 t2, .int z3 t3, .int z4 t4, .int z5 t5, .int z6 t6, .int z7 t7]), (s₁.heap.objs.size + 1 + 1, oC1), (88, tabObj #[]), (81, tabObj #[])]) _ _ from ?_) (fun v s' hv => ?_) (fun _ _ x => x)
      · k_steps
        · (rename Fr _ _ _ _ => F₅); (rename News _ _ _ _ => N₅)
          refine EnumEnd.intro F₅ N₅ (fun p hp => hp) ?_
          exact ⟨_, _, rfl, (start_bd hz6.1 hz6.2).1⟩
        · (rename Fr _ _ _ _ => F₅); (rename News _ _ _ _ => N₅)
          refine EnumEnd.intro F₅ N₅ (fun p hp => hp) ?_
          exact ⟨_, _, rfl, (start_bd hz6.1 hz6.2).2⟩
      obtain ⟨h5, tk5, rfl, ⟨v0, tv, rfl, hv0⟩, F₅, N₅⟩ := hv
      clear F₃ N₄
      k_steps
      unfold Stop
      (rename Fr _ _ _ _ => F₆); (rename News _ _ _ _ => N₆)
      refine LCg.ListComp_U (F₀ := F₆) (by with_unfolding_all rfl) (by decide) (by rfl) (by decide) (by rfl) ?_
      obtain ⟨c, hc, hM⟩ := mark_is z7
      k_steps
      unfold Stop
      (rename Fr _ _ _ _ => F₆); (rename News _ _ _ _ => N₆)
      refine LCg.CompSrc.ledger rfl F₆ N₆ (.head _) (Nat.le_of_ble_eq_true rfl) fun g' => ?_
      refine kct_list (vs := [.int z0 t0, .int z1 t1, .int z2 t2, .int z3 t3, .int z4 t4, .int z5 t5]) (fun k => replyT (k.fmod 6).toNat (portOf k) ⟨#[c]⟩) (.cons _ _ (.cons _ _ (.cons _ _ (.cons _ _ (.cons _ _ (.cons _ _ .nil)))))) ?_ ?_
      · intro k t I oI C oC D' m₂ ys h tk E' hk hC hx F₇ N₇ off ne _
        have off0 := off
        simp only [LCg.Off3, and_true] at off
        k_steps
        unfold Stop
        rw [show Txt.item (Str.ofString "|\"/!") (([z0, z1, z2, z3, z4, z5, z6, z7].getD (Int.toNat 7) 0).fmod 4) = ⟨#[c]⟩ from hM]
        k_dflt (refine' con_call (reply_is _ _ _ _ _ _ rfl) ?k1 ?k2 ?k3 ?k4 ?k5 ?kK ?kd ?ku ?_; (case k1 => k_asm); (case k2 => k_asm); (case k3 => k_asm); (case k4 => k_asm); (case k5 => k_asm); (case kK => first | exact rfl | assumption); (case kd => ktr_room); (case ku => ktr_units))
        intro v9 tl9 h9 tk9 R9 F9 N9 o9
        obtain ⟨⟨t9, rfl⟩, rfl⟩ := R9
        replace N9 := nil_news N9
        exact LCg.CompEnd.intro F9 N9 _ (fun p hp => hp) off0 (.inr ⟨_, .head _, rfl, _, rfl⟩) (kct_el rfl rfl rfl)
      · unfold KPfDone
        intro ys hY _
        have hrep := rep_are hY.strsOf
        unfold LCg.FinE
        intro Lr h tk F₇ N₇ o1
        clear F₆ N₆
        k_steps
        unfold Stop
        (rename Fr _ _ _ _ => F₈); (rename News _ _ _ _ => N₈)
        have sD : 88 < Ds := lDs (88, tabObj #[]) (by k_mem)
        have N₉ : News (ghostOf s₁.heap [(92, 88), (85, 81)]) s₁.heap.objs.size _ ([(81, tabObj #[])] ++ ([(88, tabObj #[])] ++ ((Lr, W.listOf ys.toArray ys.length) :: [(Ds, W.listOf #[.int z0 t0, .int z1 t1, .int z2 t2, .int z3 t3, .int z4 t4, .int z5 t5] 0)]))) :=
          drop_news N₈ fun p hp => by
            simp only [List.mem_append, List.mem_cons, List.not_mem_nil, or_false] at hp ⊢
            rcases hp with h | h | h | h <;> simp only [h, true_or, or_true]
        simp only [LCg.Off1, and_true] at o1
        k_dflt (refine' con_callD (done_con w [(81, tabObj #[])] [(88, tabObj #[])] [(Ds, W.listOf #[.int z0 t0, .int z1 t1, .int z2 t2, .int z3 t3, .int z4 t4, .int z5 t5] 0)] v0 c ys _ Lr ys.length _ .fresh .fresh hc hrep (Ne.symm o1.2.2.2.2) (Ne.symm o1.2.2.2.1) (fun p hp => by rw [List.mem_singleton.mp hp]; exact Nat.ne_of_gt (Nat.lt_trans (by decide) sD)) (fun p hp => by rw [List.mem_singleton.mp hp]; exact Nat.ne_of_gt sD) (Nat.le_trans (Nat.add_le_add_right hv0 _) (by simp only [List.length_map, List.length_cons, List.length_nil]; decide)) (by simp only [List.length_map, List.length_cons, List.length_nil]; decide)) ?kx ?kt ?k1 ?k2 ?k3 ?k4 ?k5 ?kK ?kd ?ku ?_; (case kx => k_asm); (case kt => k_asm); (case k1 => k_asm); (case k2 => k_asm); (case k3 => k_asm); (case k4 => k_asm); (case k5 => k_asm); (case kK => first | exact rfl | assumption); (case kd => ktr_room); (case ku => ktr_units))
        intro v9 led9 h9 tk9 R9 F9 N9
        obtain ⟨r1, Dl, V, rq, vq, q1, eq, u1, u8, rfl, hfold, hvq, g1, g8, l88, lDr, rfl⟩ := R9
        clear F₈ N₈ N₉
        obtain ⟨hcn, hrq⟩ := law_cnt hfold
        generalize hT9 : u1 ++ (u8 ++ [(Lr, W.listOf ys.toArray ys.length), (Ds, W.listOf #[.int z0 t0, .int z1 t1, .int z2 t2, .int z3 t3, .int z4 t4, .int z5 t5] 0)]) = T9 at N9
        have hDs : (Ds, W.listOf #[.int z0 t0, .int z1 t1, .int z2 t2, .int z3 t3, .int z4 t4, .int z5 t5] 0) ∈ T9 := by
          rw [← hT9]; exact List.mem_append_right _ (List.mem_append_right _ (.tail _ (.head _)))
        k_steps
        (rename Fr _ _ _ _ => F₈); (rename News _ _ _ _ => N₈)
        have N₉ : News (ghostOf s₁.heap [(92, 88), (85, 81)]) s₁.heap.objs.size _ ((Dl, W.listOf vq.toArray eq) :: T9) := drop_news N₈ fun p hp => .tail _ hp
        clear N₈
        unfold Stop
        k_dflt (refine' con_callG (folded_con w T9 Ds Dl [.int z0 t0, .int z1 t1, .int z2 t2, .int z3 t3, .int z4 t4, .int z5 t5] vq 0 eq rq _ hDs (num_are (.cons _ _ (.cons _ _ (.cons _ _ (.cons _ _ (.cons _ _ (.cons _ _ .nil))))))) hvq hcn (by simp only [List.length_map, List.length_cons, List.length_nil]; decide) hrq) ?k1 ?k2 ?k3 ?k4 ?k5 ?kK ?kd ?ku ?_; (case k1 => k_asm); (case k2 => k_asm); (case k3 => k_asm); (case k4 => k_asm); (case k5 => k_asm); (case kK => first | exact rfl | assumption); (case kd => ktr_room); (case ku => ktr_units))
        intro v9 led9 h9 tk9 R9 F9 N9
        obtain ⟨r2, y1, y2, y3, y4, y5, rfl, rfl⟩ := R9
        clear F₈ N₉
        generalize hS : List.foldl (foldF rq) ⟨1, 0, 1, 0, 0⟩ (List.map stepOf [z0, z1, z2, z3, z4, z5]) = S at *
        obtain ⟨hn9, hW0, hW2, hW3, hx1, hx2, hq1, hq2⟩ := law_facts hv0 hfold hS
        have hvl : vq.length ≤ 60 := by rw [hvq.length]; exact hrq
        clear hfold hS hcn hDs o1 sD
        k_steps
        all_goals (first | exact absurd hn9 (by assumption) | skip)
        (rename Fr _ _ _ _ => F₈); (rename News _ _ _ _ => N₈)
        have N₉ : News (ghostOf s₁.heap [(92, 88), (85, 81)]) s₁.heap.objs.size _ (u1 ++ (u8 ++ [])) := drop_news N₈ fun p hp => by
          rw [← hT9]
          simp only [List.mem_append, List.mem_cons, List.not_mem_nil, or_false] at hp ⊢
          rcases hp with h | h <;> simp only [h, true_or, or_true]
        clear N₈
        unfold Stop
        k_dflt (refine' con_callG (idm_con w u1 u8 [] (S.sign * v0 + S.more) S.whole _ _ g1 g8 hW0 hW2 hW3 hx1 hx2 (fun _ h => nomatch h) (fun _ h => nomatch h)) ?k1 ?k2 ?k3 ?k4 ?k5 ?kK ?kd ?ku ?_; (case k1 => k_asm); (case k2 => k_asm); (case k3 => k_asm); (case k4 => k_asm); (case k5 => k_asm); (case kK => first | exact rfl | assumption); (case kd => ktr_room); (case ku => ktr_units))
        intro v9 led9 h9 tk9 R9 F9 N9
        obtain ⟨p9, x1, x2, u1', u8', rfl, g1', g8', rfl, o9, -, -⟩ := R9
        rw [hq1, hq2] at N9
        clear F₈ N₉
        generalize hR : u1' ++ (u8' ++ []) = R at N9
        k_steps
        unfold Stop
        (rename News _ _ _ _ => N₁₀)
        obtain ⟨p88, m88⟩ := tab_grown g8'
        obtain ⟨p81, m81⟩ := tab_grown g1'
        subst hR
        exact ⟨GrownAt.of N₁₀ (.tail _ (.tail _ (List.mem_append_right _ (List.mem_append_left _ m88)))), GrownAt.of N₁₀ (.tail _ (.tail _ (List.mem_append_left _ m81))), trivial⟩
end
end Mine
end
set_option maxRecDepth 100000 in
theorem PySem.Challenge.cw_we0025_01_holds : PySem.Challenge.rw_we0025_01.Holds :=
  Mine.law_w
