import PyProof.Rows.All
import Wide.All
import OpenK.AllK
import Wide.FinOn
import PySem.Challenge.RW_pd0090_01
set_option Elab.async false
section
open PySem PySem.W PyProof.Rows
set_option maxRecDepth 100000
set_option maxHeartbeats 8000000
namespace Mine
open_top hd for PySem.Challenge.rw_pd0090_01
end Mine
end
section
open PySem PySem.W PySem.Spec PySem.Calls PyProof.Rows
set_option maxRecDepth 100000
namespace Mine

/-- the callee's end, as a mark at which the walk stops -/
def PEnd (R : Result → Shared → Prop) (v : Value) (s' : Shared) : Prop := R (.ok (.ret v)) s'

section
variable {prog : Program} {w : World} {A₀ A : Around} {s : Shared} {base h₀ : Heap} {outer : List Env} {L : Addr} {m mg mb : Str → Option Value} {env : Env} {K : Frag} {p : Program} {loose : List Str} {mean : ExcName → Option Value}
  {R : Result → Shared → Prop} {name qual : Str} {params : Arguments} {body : List Stmt} {scope : Scope} {dV kV doc pm cdv ct oc : Value} {an od : Option Addr} {osl : Array (Option Value)} {f : Addr} {args : Args} {binds : List (Str × Value)}

theorem enterP (B : Below A₀ base outer h₀) (F : Fr h₀ L s.heap m) (X₀ : K.In h₀) (T : Top p loose mean mg mb h₀) (hA : A.frames = some (env :: outer)) (hf : env.frame = some L) (hke : env.scope.kind = .function)
    (ho : K.lookup f = some ⟨oc, od, .func (fnOf name qual params body scope dV kV doc pm an cdv ct), osl⟩) (hcd : codeIn K cdv qual = true) (hroom : A.depth < recursionLimit)
    (hbind : BindsTo s (fnOf name qual params body scope dV kV doc pm an cdv ct) args binds) (hloc : ∀ y ∈ binds, scope.names.lookup y.1 = some .local)
    (h : ∀ g L' h₁, (∀ b o, s.heap.get? b = some o → g.get? b = some o) → Fr g L' h₁ (fun y => binds.reverse.lookup y) → News g L' h₁ [] → Below A base (env :: outer) g → K.In g → Top p loose mean mg mb g →
      wpAny (model prog w) (A.deeper (envOf qual scope L' f cdv)) (execs body (envOf qual scope L' f cdv))
        (fun fl s' => PEnd R (match fl with | .ret v => v | _ => .none) s')
        (fun e s' => wpAny (model prog w) (A.deeper (envOf qual scope L' f cdv)) (leaving (envOf qual scope L' f cdv) e) (fun _ s'' => R (.error e) s'') (fun e' s'' => R (.error e') s'') s')
        { s with heap := h₁, toks := s.toks + binds.length })
    (hco : scope.isCoroutine = false) (hgen : scope.isGenerator = false) (hk : scope.kind = .function)
    (hcell : ∀ x ∈ scope.names, x.2 ≠ .cell) : codeAny (model prog w) A (.call (.ref f) args) R s := by
  have X := X₀.keeps F.keep
  have B₁ := pushX B F hf hke
  refine codeAny_call_def (fd := fnOf name qual params body scope dV kV doc pm an cdv ct) (body := body) (binds := binds) hroom (X _ _ ho) rfl (T.nolimit.keeps F.keep) (codeRec_of X hcd) rfl hbind hcell hloc (fun h₁ hns hk₁ => ?_) hco hgen hk
  exact h s.heap s.heap.objs.size h₁ (fun _ _ e => e) ⟨hns, hk₁, Nat.le_refl _⟩ News.nil ⟨hA, B₁.stays, B₁.frames⟩ X (T.keeps F.keep)

theorem enterC (B : Below A₀ base outer h₀) (F : Fr h₀ L s.heap m) (X₀ : K.In h₀) (T : Top p loose mean mg mb h₀) (hA : A.frames = some (env :: outer)) (hf : env.frame = some L) (hke : env.scope.kind = .function)
    (ho : K.lookup f = some ⟨oc, od, .func (fnOf name qual params body scope dV kV doc pm an cdv ct), osl⟩) (hcd : codeIn K cdv qual = true) (hroom : A.depth < recursionLimit)
    (hbind : BindsTo s (fnOf name qual params body scope dV kV doc pm an cdv ct) args binds) (hkind : (binds.all fun y => scope.names.lookup y.1 == some .local || scope.names.lookup y.1 == some .cell) = true)
    (hnd : ((cellsFrom 0 scope.names []).map (·.1)).Nodup)
    (h : ∀ g L' h₁ tk cells, (∀ b o, s.heap.get? b = some o → g.get? b = some o) → Fr g L' h₁ (bindL (envOfC qual scope L' f cdv).kindOf binds fun _ => none) → News g L' h₁ cells →
      CellsAre (bindC (envOfC qual scope L' f cdv).kindOf binds fun _ => none) (cellsFrom (L' + 1) scope.names []) cells → Below A base (env :: outer) g → K.In g → Top p loose mean mg mb g →
      wpAny (model prog w) (A.deeper (envOfC qual scope L' f cdv)) (execs body (envOfC qual scope L' f cdv))
        (fun fl s' => PEnd R (match fl with | .ret v => v | _ => .none) s')
        (fun e s' => wpAny (model prog w) (A.deeper (envOfC qual scope L' f cdv)) (leaving (envOfC qual scope L' f cdv) e) (fun _ s'' => R (.error e) s'') (fun e' s'' => R (.error e') s'') s')
        { s with heap := h₁, toks := tk })
    (hco : scope.isCoroutine = false) (hgen : scope.isGenerator = false) (hk : scope.kind = .function) : codeAny (model prog w) A (.call (.ref f) args) R s := by
  have X := X₀.keeps F.keep
  have B₁ := pushX B F hf hke
  refine codeAny_call_function hroom (X _ _ ho) rfl hco hgen rfl (codeRec_of X hcd) (hbind _ _ _ _ ?_)
  refine wpAny_newFunctionEnv_cells hk (kindsX hkind _) fun env' he s' x => ?_
  subst he
  refine ⟨(T.nolimit.keeps F.keep).keeps x.toInCall.keep, codeAny_func ?_⟩
  obtain ⟨h₁, tk, rfl, _⟩ := x.done
  obtain ⟨cells, NC, Y⟩ := Cl.news (h₀ := s.heap) (Nat.le_refl _) fun n c hm => ⟨x.cell n c (lookup_of_mem_nodup (cellsFrom_names scope.names 0 (s.heap.objs.size + 1) [] [] rfl ▸ hnd) hm), x.above n c hm⟩
  exact h s.heap s.heap.objs.size h₁ tk cells (fun _ _ e => e) ⟨x.toInCall.ns, x.toInCall.keep, Nat.le_refl _⟩ NC Y ⟨hA, B₁.stays, B₁.frames⟩ X (T.keeps F.keep)
end
end Mine
end
section
open PySem PySem.W PySem.Spec PySem.Calls PyProof.Rows
set_option maxRecDepth 100000
set_option maxHeartbeats 8000000
namespace Mine

def PCall (w : World) (mean : ExcName → Option Value) (mg mb : Str → Option Value) (f : Addr) (d u : Nat) (Ok : Heap → Prop) (vs : List Value) (kw : List (Str × Value)) (R : Tok → Value) : Prop :=
  ∀ (dp un : Nat) (gd : Option (List Code)) (cn : Str) (cs : Scope) (a : Addr) (ccd : Value) (cl : List (Str × Addr)) (outer : List Env) (A₀ : Around) (base h₀ : Heap) (L : Addr) (m : Str → Option Value) (s : Shared) (Q E : Value → Shared → Prop),
    Below A₀ base outer h₀ → Fr h₀ L s.heap m → (hd.heap_39 w.params).In h₀ → Top hd.view_39 (looseW hd.view_39 [Str.ofString "b2a_base64", Str.ofString "b64encode"]) mean mg mb h₀ → cs.kind = .function → Ok s.heap →
    dp + d < recursionLimit → un + u < cLine →
    (∀ t h' tk', (∀ b o, s.heap.get? b = some o → h'.get? b = some o) → Q (R t) { s with heap := h', toks := tk' }) →
    wpAny (model Challenge.rw_pd0090_01.row.prog w) (ktrTop dp un gd cn cs L a ccd cl outer) (call (.ref f) vs kw) Q E s

theorem pend {s : Shared} {Q : Value → Shared → Prop} {R : Tok → Value} {g h' : Heap} {L' : Addr} {m' : Str → Option Value} {v : Value} {t : Tok} {tk' : Nat}
    (hret : ∀ t h' tk', (∀ b o, s.heap.get? b = some o → h'.get? b = some o) → Q (R t) { s with heap := h', toks := tk' })
    (kp : ∀ b o, s.heap.get? b = some o → g.get? b = some o) (F' : Fr g L' h' m') (e : v = R t) : Q v { s with heap := h', toks := tk' } := by
  subst e
  exact hret t h' tk' fun b o e => F'.keep b o (kp b o e)

theorem high_bit (w mean mg mb) (n : Int) (tn : Tok) : PCall w mean mg mb 35 1 8 (fun _ => True) [.int n tn] [] (fun t => .int ((Builtin.Int.intBits n : Int) - 1) t) := by
  w_top off
  k_with_none
  unfold PCall
  k_fill
  intro dp un gd cn cs a ccd cl outer A₀ base h₀ L m s Q E B F X T hk hok hd hu hret
  refine wpAny_call ?_
  (refine' enterP ?k1 ?k2 ?k3 ?k5 ?kA ?kF ?kK ?k6 ?k7 ?k8 ?k9 ?kB ?_ ?c2 ?c3 ?c4 ?c5; (case kA => exact rfl); (case kF => exact rfl); (case kK => assumption); (case k1 => k_asm); (case k2 => k_asm); (case k3 => k_asm); (case k5 => k_asm); (case k6 => k_is); (case k7 => k_is); (case k8 => ktr_room); (case k9 => exact BindsTo.of_eq rfl); (case c5 => decide); (case kB => exact locs rfl); (case c2 => exact rfl); (case c3 => exact rfl); (case c4 => exact rfl); k_whole; intro g' L' h' kp' F' N' B' X' T'; (try dsimp only); (try k_lift B'); (try k_fold))
  k_steps
  exact pend (s := s) (Q := Q) hret kp' (by assumption) rfl

theorem single_bit (w mean mg mb) (n : Int) (tn : Tok) : PCall w mean mg mb 28 1 8 (fun _ => True) [.int n tn] [] (fun _ => .bool (if n = 0 then false else (Builtin.bitAnd n (n - 1) == 0))) := by
  w_top off
  k_with_none
  unfold PCall
  k_fill
  intro dp un gd cn cs a ccd cl outer A₀ base h₀ L m s Q E B F X T hk hok hd hu hret
  refine wpAny_call ?_
  (refine' enterP ?k1 ?k2 ?k3 ?k5 ?kA ?kF ?kK ?k6 ?k7 ?k8 ?k9 ?kB ?_ ?c2 ?c3 ?c4 ?c5; (case kA => exact rfl); (case kF => exact rfl); (case kK => assumption); (case k1 => k_asm); (case k2 => k_asm); (case k3 => k_asm); (case k5 => k_asm); (case k6 => k_is); (case k7 => k_is); (case k8 => ktr_room); (case k9 => exact BindsTo.of_eq rfl); (case c5 => decide); (case kB => exact locs rfl); (case c2 => exact rfl); (case c3 => exact rfl); (case c4 => exact rfl); k_whole; intro g' L' h' kp' F' N' B' X' T'; (try dsimp only); (try k_lift B'); (try k_fold))
  k_steps
  · rename n = 0 => hz
    exact pend (s := s) (Q := Q) (t := 0) hret kp' (by assumption) (by rw [if_pos hz])
  · rename n ≠ 0 => hz
    exact pend (s := s) (Q := Q) (t := 0) hret kp' (by assumption) (by rw [if_neg hz])
end Mine
end
section
open PySem
namespace Mine

def num (l : List Int) : Int := l.foldl (fun a o => a * 256 + o) 0
theorem num_nil : num [] = 0 := rfl
theorem num_snoc (l : List Int) (o : Int) : num (l ++ [o]) = num l * 256 + o := by simp [num]
theorem snoc_ind {P : List Int → Prop} (h0 : P []) (h1 : ∀ l o, P l → P (l ++ [o])) : ∀ l, P l := by
  intro l
  have h : ∀ n, ∀ l : List Int, l.length = n → P l := by
    intro n
    induction n with
    | zero => intro l e; rw [List.length_eq_zero_iff.mp e]; exact h0
    | succ n ih =>
      intro l e
      have hne : l ≠ [] := by intro q; rw [q] at e; cases e
      rw [← List.dropLast_concat_getLast hne]
      exact h1 _ _ (ih _ (by rw [List.length_dropLast, e]; rfl))
  exact h _ l rfl
theorem num_bound : ∀ l : List Int, (∀ o ∈ l, 0 ≤ o ∧ o < 256) → 0 ≤ num l ∧ num l < 256 ^ l.length := by
  intro l
  induction l using snoc_ind with
  | h0 => intro _; exact ⟨Int.le_refl _, by show (0 : Int) < 256 ^ 0; decide⟩
  | h1 l o ih =>
    intro h
    obtain ⟨a, b⟩ := ih fun x hx => h x (List.mem_append_left _ hx)
    obtain ⟨c, d⟩ := h o (List.mem_append_right _ (.head _))
    rw [num_snoc, List.length_append, List.length_singleton, Int.pow_succ]
    omega

noncomputable def dig : Nat → Int → List Int
  | 0, _ => []
  | e + 1, M => dig e (M / 64) ++ [M % 64]
theorem dig_length : ∀ (e : Nat) (M : Int), (dig e M).length = e
  | 0, _ => rfl
  | e + 1, M => by rw [dig, List.length_append, dig_length e, List.length_singleton]
theorem dig_mem : ∀ (e : Nat) (M : Int) (d : Int), d ∈ dig e M → 0 ≤ d ∧ d < 64
  | 0, _, _, h => by cases h
  | e + 1, M, d, h => by
    rw [dig] at h
    rcases List.mem_append.mp h with h | h
    · exact dig_mem e _ d h
    · rw [List.mem_singleton.mp h]; omega

def B64L : List Int := [65, 66, 67, 68, 69, 70, 71, 72, 73, 74, 75, 76, 77, 78, 79, 80, 81, 82, 83, 84, 85, 86, 87, 88, 89, 90, 97, 98, 99, 100, 101, 102, 103, 104, 105, 106, 107, 108, 109, 110, 111, 112, 113, 114, 115, 116, 117, 118, 119, 120, 121, 122, 48, 49, 50, 51, 52, 53, 54, 55, 56, 57, 43, 47]
theorem b64c_ex (i : Int) : ∃ x : Int, x = B64L.getD i.toNat 0 := ⟨_, rfl⟩
noncomputable def b64c (i : Int) : Int := Classical.choose (b64c_ex i)
theorem b64c_def (i : Int) : b64c i = B64L.getD i.toNat 0 := Classical.choose_spec (b64c_ex i)

theorem bitOr_nat (x y : Int) (hx : 0 ≤ x) (hy : 0 ≤ y) : Builtin.bitOr x y = ((x.toNat ||| y.toNat : Nat) : Int) := by
  have e1 : Builtin.bitNot x = -x - 1 := rfl
  have e2 : Builtin.bitNot y = -y - 1 := rfl
  unfold Builtin.bitOr
  rw [e1, e2]
  unfold Builtin.bitAnd
  have d1 : decide (0 ≤ -x - 1) = false := decide_eq_false (by omega)
  have d2 : decide (0 ≤ -y - 1) = false := decide_eq_false (by omega)
  rw [d1, d2]
  have f1 : Builtin.bitNot (-x - 1) = x := by show -(-x - 1) - 1 = x; omega
  have f2 : Builtin.bitNot (-y - 1) = y := by show -(-y - 1) - 1 = y; omega
  simp only [f1, f2]
  show -(-(((x.toNat ||| y.toNat : Nat) : Int)) - 1) - 1 = _
  omega
theorem or_step (x b : Int) (hx : 0 ≤ x) (h0 : 0 ≤ b) (h1 : b < 256) : Builtin.bitOr (x * 2 ^ Int.toNat 8) b = x * 256 + b := by
  have e : x * 2 ^ Int.toNat 8 = x * 256 := rfl
  rw [e, bitOr_nat _ _ (by omega) h0]
  have e2 : (x * 256).toNat = 2 ^ 8 * x.toNat := by omega
  rw [e2, ← Nat.two_pow_add_eq_or_of_lt (by omega)]
  omega
theorem lc_step (x b N : Int) (hN : 0 ≤ N) (hx : x = N % 65536) (h0 : 0 ≤ b) (h1 : b < 256) :
    Builtin.bitAnd (Builtin.bitOr (x * 2 ^ Int.toNat 8) b) 65535 = (N * 256 + b) % 65536 := by
  rw [PyProof.Rows.bitAnd_m16, or_step x b (by omega) h0 h1]
  omega

/-- what holds between the turns of the inner while (pre: the octets taken, the one at hand included) -/
def B2aW (pre out : List Int) (lb : Int) : Prop :=
  0 ≤ num pre ∧ ∃ e : Nat, 6 * (e : Int) + lb = 8 * (pre.length : Int) ∧ out = (dig e (num pre / 2 ^ lb.toNat)).map b64c
def B2aI (pre out : List Int) (lb lc : Int) : Prop := B2aW pre out lb ∧ lc = num pre % 65536

theorem b2a_start : B2aI [] [] 0 0 := ⟨⟨Int.le_refl _, 0, rfl, rfl⟩, rfl⟩
theorem b2aW_length {pre out : List Int} {lb : Int} (h : B2aW pre out lb) (h0 : 0 ≤ lb) : out.length ≤ 2 * pre.length := by
  obtain ⟨_, e, he, rfl⟩ := h
  rw [List.length_map, dig_length]
  omega
theorem div_shift (N b : Int) (k : Nat) (h0 : 0 ≤ b) (h1 : b < 256) : (N * 256 + b) / 2 ^ (k + 8) = N / 2 ^ k := by
  have e : (2 : Int) ^ (k + 8) = 256 * 2 ^ k := by rw [Int.pow_add, Int.mul_comm]; rfl
  rw [e, ← Int.ediv_ediv_of_nonneg (by decide)]
  congr 1
  omega
theorem b2aW_start {pre out : List Int} {lb lc kN : Int} (h : B2aI pre out lb lc) (h0 : 0 ≤ lb) (h1 : 0 ≤ kN) (h2 : kN < 256) : B2aW (pre ++ [kN]) out (lb + 8) := by
  obtain ⟨⟨hn, e, he, ho⟩, _⟩ := h
  refine ⟨by rw [num_snoc]; omega, e, by rw [List.length_append, List.length_singleton]; omega, ?_⟩
  have q : (lb + 8).toNat = lb.toNat + 8 := by omega
  rw [num_snoc, q, div_shift _ _ _ h1 h2]
  exact ho
theorem mod_div_mod (N : Int) (k : Nat) (hk : k ≤ 10) (_hN : 0 ≤ N) : N % 65536 / 2 ^ k % 64 = N / 2 ^ k % 64 := by
  have hc : k = 0 ∨ k = 1 ∨ k = 2 ∨ k = 3 ∨ k = 4 ∨ k = 5 ∨ k = 6 ∨ k = 7 ∨ k = 8 ∨ k = 9 ∨ k = 10 := by omega
  rcases hc with rfl | rfl | rfl | rfl | rfl | rfl | rfl | rfl | rfl | rfl | rfl <;> simp only [Int.reducePow] <;> omega
theorem idx_step {N lc lb : Int} (hN : 0 ≤ N) (hlc : lc = N % 65536) (h6 : 6 ≤ lb) (h13 : lb ≤ 13) :
    Builtin.bitAnd (lc.fdiv (2 ^ (lb - 6).toNat)) 63 = N / 2 ^ (lb - 6).toNat % 64 := by
  rw [PyProof.Rows.bitAnd_m6, Int.fdiv_eq_ediv_of_nonneg _ (Int.le_of_lt (PySem.W.kbt_pos _)), hlc]
  exact mod_div_mod N _ (by omega) hN
theorem b2aW_turn {pre out : List Int} {lb lc : Int} (h : B2aW pre out lb) (hlc : lc = num pre % 65536) (h6 : 6 ≤ lb) (h13 : lb ≤ 13) :
    B2aW pre (out ++ [b64c (Builtin.bitAnd (lc.fdiv (2 ^ (lb - 6).toNat)) 63)]) (lb - 6) := by
  obtain ⟨hn, e, he, ho⟩ := h
  refine ⟨hn, e + 1, by omega, ?_⟩
  rw [idx_step hn hlc h6 h13, dig, List.map_append, ho]
  have q : lb.toNat = (lb - 6).toNat + 6 := by omega
  have r : (2 : Int) ^ lb.toNat = 2 ^ (lb - 6).toNat * 64 := by rw [q, Int.pow_add]; rfl
  rw [r, ← Int.ediv_ediv_of_nonneg (Int.le_of_lt (PySem.W.kbt_pos _))]
  rfl
theorem b2a_turn {pre out : List Int} {lb lc kN : Int} (h : B2aW (pre ++ [kN]) out lb) (hlc : lc = num pre % 65536) (hN : 0 ≤ num pre) (h0 : 0 ≤ kN) (h1 : kN < 256) :
    B2aI (pre ++ [kN]) out lb (Builtin.bitAnd (Builtin.bitOr (lc * 2 ^ Int.toNat 8) kN) 65535) :=
  ⟨h, by rw [lc_step lc kN (num pre) hN hlc h0 h1, num_snoc]⟩

def sgnN (l : List Int) : Nat := (8 * l.length + 5) / 6
def fillN (l : List Int) : Nat := 6 * sgnN l - 8 * l.length
noncomputable def digs (l : List Int) : List Int := dig (sgnN l) (num l * 2 ^ fillN l)
noncomputable def encL (l : List Int) : List Int := (digs l).map b64c ++ List.replicate (fillN l / 2) 61

theorem enc0 {ks out : List Int} {lb lc : Int} (h : B2aI ks out lb lc) (e0 : lb = 0) : out = encL ks := by
  subst e0
  obtain ⟨⟨hn, e, he, ho⟩, _⟩ := h
  have hs : sgnN ks = e := by unfold sgnN; omega
  have hf : fillN ks = 0 := by unfold fillN; rw [hs]; omega
  rw [encL, digs, hs, hf, ho]
  simp
theorem enc2 {ks out : List Int} {lb lc : Int} (h : B2aI ks out lb lc) (e2 : lb = 2) : out ++ [b64c (Builtin.bitAnd lc 3 * 2 ^ Int.toNat 4)] ++ [61] ++ [61] = encL ks := by
  subst e2
  obtain ⟨⟨hn, e, he, ho⟩, hlc⟩ := h
  have hs : sgnN ks = e + 1 := by unfold sgnN; omega
  have hf : fillN ks = 4 := by unfold fillN; rw [hs]; omega
  rw [encL, digs, hs, hf, ho, dig, PyProof.Rows.bitAnd_m2]
  have a : num ks * 2 ^ 4 / 64 = num ks / 2 ^ Int.toNat 2 := by show num ks * 16 / 64 = num ks / 4; omega
  have b : lc % 4 * 2 ^ Int.toNat 4 = num ks * 2 ^ 4 % 64 := by show lc % 4 * 16 = num ks * 16 % 64; omega
  rw [a, b, List.map_append]
  simp [List.replicate]
theorem enc4 {ks out : List Int} {lb lc : Int} (h : B2aI ks out lb lc) (e4 : lb = 4) : out ++ [b64c (Builtin.bitAnd lc 15 * 2 ^ Int.toNat 2)] ++ [61] = encL ks := by
  subst e4
  obtain ⟨⟨hn, e, he, ho⟩, hlc⟩ := h
  have hs : sgnN ks = e + 1 := by unfold sgnN; omega
  have hf : fillN ks = 2 := by unfold fillN; rw [hs]; omega
  rw [encL, digs, hs, hf, ho, dig, PyProof.Rows.bitAnd_m4]
  have a : num ks * 2 ^ 2 / 64 = num ks / 2 ^ Int.toNat 4 := by show num ks * 4 / 64 = num ks / 16; omega
  have b : lc % 16 * 2 ^ Int.toNat 2 = num ks * 2 ^ 2 % 64 := by show lc % 16 * 4 = num ks * 4 % 64; omega
  rw [a, b, List.map_append]
  simp [List.replicate]
theorem b2a_rest {ks out : List Int} {lb lc : Int} (h : B2aI ks out lb lc) (h0 : 0 ≤ lb) (h6 : lb < 6) (n2 : lb ≠ 2) (n4 : lb ≠ 4) : lb = 0 := by
  obtain ⟨⟨_, e, he, _⟩, _⟩ := h
  omega
theorem b64c_range (i : Int) : 0 ≤ b64c i ∧ b64c i < 128 := by
  rw [b64c_def]
  by_cases h : i.toNat < 64
  · have h9 : ∀ k : Fin 64, 0 ≤ B64L.getD k.val 0 ∧ B64L.getD k.val 0 < 128 := by decide +kernel
    exact h9 ⟨i.toNat, h⟩
  · have : B64L.getD i.toNat 0 = 0 := by rw [List.getD_eq_getElem?_getD, List.getElem?_eq_none (by show 64 ≤ i.toNat; omega)]; rfl
    rw [this]; omega
theorem enc_range (l : List Int) : ∀ n ∈ encL l, 0 ≤ n ∧ n < 128 := by
  intro n hn
  rcases List.mem_append.mp hn with h | h
  · obtain ⟨d, _, rfl⟩ := List.mem_map.mp h
    exact b64c_range d
  · rw [(List.mem_replicate.mp h).2]; omega
theorem enc_range256 (l : List Int) : ∀ n ∈ encL l, 0 ≤ n ∧ n < 256 := fun n hn => by have := enc_range l n hn; omega
end Mine
end
section
open PySem PySem.W PySem.Spec PySem.Calls PyProof.Rows
set_option maxRecDepth 100000
set_option maxHeartbeats 8000000
namespace Mine
theorem st_start : (0 : Int) ≤ 0 ∧ (0 : Int) < 6 ∧ (0 : Int) ≤ 0 ∧ (0 : Int) < 65536 ∧ ([] : List Int).length ≤ 2 * ([] : List Int).length ∧ B2aI [] [] 0 0 :=
  ⟨by omega, by omega, by omega, by omega, Nat.le_refl _, b2a_start⟩
theorem st_w0 {pre out : List Int} {lb lc kN : Int} (h : B2aI pre out lb lc) (h0 : 0 ≤ lb) (h6 : lb < 6) (k0 : 0 ≤ kN) (k1 : kN < 256) :
    0 ≤ lb + 8 ∧ lb + 8 ≤ 13 ∧ out.length ≤ 2 * (pre.length + 1) ∧ B2aW (pre ++ [kN]) out (lb + 8) :=
  ⟨by omega, by omega, by have := b2aW_length h.1 h0; omega, b2aW_start h h0 k0 k1⟩
theorem st_wt {pre out0 out : List Int} {lb0 lc0 kN lb : Int} (hI : B2aI pre out0 lb0 lc0) (k0 : 0 ≤ kN) (k1 : kN < 256) (h : B2aW (pre ++ [kN]) out lb) (h6 : 6 ≤ lb) (h13 : lb ≤ 13) :
    0 ≤ lb - 6 ∧ lb - 6 ≤ 13 ∧ (out ++ [b64c (Builtin.bitAnd ((Builtin.bitAnd (Builtin.bitOr (lc0 * 2 ^ Int.toNat 8) kN) 65535).fdiv (2 ^ (lb - 6).toNat)) 63)]).length ≤ 2 * (pre.length + 1) ∧
      B2aW (pre ++ [kN]) (out ++ [b64c (Builtin.bitAnd ((Builtin.bitAnd (Builtin.bitOr (lc0 * 2 ^ Int.toNat 8) kN) 65535).fdiv (2 ^ (lb - 6).toNat)) 63)]) (lb - 6) := by
  have q := b2aW_turn h (b2a_turn h hI.2 hI.1.1 k0 k1).2 h6 h13
  refine ⟨by omega, by omega, ?_, q⟩
  have := b2aW_length q (by omega)
  rw [List.length_append (as := pre), List.length_singleton] at this
  exact this
theorem st_end {pre out0 out : List Int} {lb0 lc0 kN lb : Int} (hI : B2aI pre out0 lb0 lc0) (k0 : 0 ≤ kN) (k1 : kN < 256) (h : B2aW (pre ++ [kN]) out lb) (h0 : 0 ≤ lb) (h6 : lb < 6) :
    0 ≤ lb ∧ lb < 6 ∧ 0 ≤ Builtin.bitAnd (Builtin.bitOr (lc0 * 2 ^ Int.toNat 8) kN) 65535 ∧ Builtin.bitAnd (Builtin.bitOr (lc0 * 2 ^ Int.toNat 8) kN) 65535 < 65536 ∧
      out.length ≤ 2 * (pre ++ [kN]).length ∧ B2aI (pre ++ [kN]) out lb (Builtin.bitAnd (Builtin.bitOr (lc0 * 2 ^ Int.toNat 8) kN) 65535) := by
  have q := b2a_turn h hI.2 hI.1.1 k0 k1
  have r := q.2
  exact ⟨h0, h6, by omega, by omega, b2aW_length h h0, q⟩
theorem rng0 {ks out : List Int} {lb lc : Int} (h : B2aI ks out lb lc) (h0 : 0 ≤ lb) (h6 : lb < 6) (n2 : lb ≠ 2) (n4 : lb ≠ 4) : ∀ n ∈ out, 0 ≤ n ∧ n < 256 := by
  rw [enc0 h (b2a_rest h h0 h6 n2 n4)]; exact enc_range256 ks
theorem rng2 {ks out : List Int} {lb lc : Int} (h : B2aI ks out lb lc) (e : lb = 2) : ∀ n ∈ out ++ [b64c (Builtin.bitAnd lc 3 * 2 ^ Int.toNat 4)] ++ [61] ++ [61], 0 ≤ n ∧ n < 256 := by
  rw [enc2 h e]; exact enc_range256 ks
theorem rng4 {ks out : List Int} {lb lc : Int} (h : B2aI ks out lb lc) (e : lb = 4) : ∀ n ∈ out ++ [b64c (Builtin.bitAnd lc 15 * 2 ^ Int.toNat 2)] ++ [61], 0 ≤ n ∧ n < 256 := by
  rw [enc4 h e]; exact enc_range256 ks
section
variable {prog : Program} {w : World} {A : Around} {E : Value → Shared → Prop} {s : Shared} {value slice : PySem.Expr} {b : Array UInt8} {i x : Int} {t u : Tok} {Q : Value → Shared → Prop}
theorem item_g (hb : KBw.bInts b = B64L) (h0 : 0 ≤ i) (h1 : i < 64) (h : ∀ t' k, Q (.int (b64c i) t') { s with toks := k })
    (hs : subscripted slice false (.bytes b t) (.int i u) = operate [.bytes b t, .int i u] (getItem (.bytes b t) (.int i u)) := by with_unfolding_all rfl)
    (ht : ∀ r, letTemporaryGo value (.bytes b t) r = pure () := by intro _; with_unfolding_all rfl) : wpAny (model prog w) A (subscriptTail value slice (.bytes b t) (.int i u)) Q E s :=
  KBw.item_K hb (by decide) h0 h1 (fun t' k _ _ => by rw [← b64c_def]; exact h t' k) hs ht
theorem i63 (x : Int) : 0 ≤ Builtin.bitAnd x 63 ∧ Builtin.bitAnd x 63 < 64 := by rw [bitAnd_m6]; omega
theorem i3 (x : Int) : 0 ≤ Builtin.bitAnd x 3 * 2 ^ Int.toNat 4 ∧ Builtin.bitAnd x 3 * 2 ^ Int.toNat 4 < 64 := by
  rw [bitAnd_m2]; show 0 ≤ x % 4 * 16 ∧ x % 4 * 16 < 64; omega
theorem i15 (x : Int) : 0 ≤ Builtin.bitAnd x 15 * 2 ^ Int.toNat 2 ∧ Builtin.bitAnd x 15 * 2 ^ Int.toNat 2 < 64 := by
  rw [bitAnd_m4]; show 0 ≤ x % 16 * 4 ∧ x % 16 * 4 < 64; omega
end
theorem intsA {vs : List Value} {ns : List Int} {n : Int} {t : Tok} (h : IntsAre vs ns) : IntsAre (vs ++ [.int n t]) (ns ++ [n]) := by
  induction h with
  | nil => exact .cons _ _ .nil
  | cons k t _ ih => exact .cons _ _ ih
theorem ab3 (x : Int) : (Builtin.bitAnd x 3).natAbs < 2 ^ 64 := by rw [bitAnd_m2]; omega
theorem ab15 (x : Int) : (Builtin.bitAnd x 15).natAbs < 2 ^ 64 := by rw [bitAnd_m4]; omega
local macro_rules | `(tactic| walk_at "binaryOp LShift int int") => `(tactic| ((with_reducible show wpAny _ _ (binaryOp _ (Value.int (Builtin.bitAnd _ _) _) (Value.int _ _)) _ _ _); first | refine lshift_int_small (by decide) (by decide) (ab3 _) ?_ | refine lshift_int_small (by decide) (by decide) (ab15 _) ?_))
local macro_rules | `(tactic| k_room) => `(tactic| ktr_room)
local macro_rules | `(tactic| walk_at "call type:type") => `(tactic| ((with_reducible show wpAny _ _ (call _ [Value.bytes _ _]) _ _ _); refine call_type_of (Tx := "bytes") rfl (by decide +kernel) ?_))
local macro_rules | `(tactic| kst_facts1) => `(tactic| exact IntsAre.nil)
local macro_rules | `(tactic| walk_at "subscriptTail") => `(tactic| (k_here; (with_reducible show wpAny _ _ (subscriptTail _ _ (Value.bytes _ _) (Value.int _ _)) _ _ _); (first | refine item_g (by decide +kernel) (i63 _).1 (i63 _).2 ?_ | refine item_g (by decide +kernel) (i3 _).1 (i3 _).2 ?_ | refine item_g (by decide +kernel) (i15 _).1 (i15 _).2 ?_); intro _ _))
local macro_rules | `(tactic| walk_at "call type:bytes") => `(tactic| (k_here; (with_reducible show wpAny _ _ (call (Value.type "bytes") [Value.ref _]) _ _ _); (rename News _ _ _ _ => nE'); (try simp only [List.push_toArray] at nE'); (refine' KBa.make_K ?kbaF ?kbaN ?kbah ?kbal ?kbai ?kbar ?kban ?_; (case kbaF => k_asm); (case kbaN => k_asm); (case kbah => rfl); (case kbal => exact News.isList nE' (.head _)); (case kbai => first | exact intsA (intsA (intsA (by assumption))) | exact intsA (intsA (by assumption)) | assumption); (case kbar => first | exact rng2 (by assumption) (by assumption) | exact rng4 (by assumption) (by assumption) | exact rng0 (by assumption) (by assumption) (by assumption) (by assumption) (by assumption)); (case kban => ((try simp only [List.length_append, List.length_cons, List.length_nil]); omega))); intro _ _ _ F' N' kbaIn))
theorem b2a (w mean mg mb) (b : Array UInt8) (tb : Tok) (ks : List Int) (hks : KBw.bInts b = ks) (hb : ks.length ≤ 10) : PCall w mean mg mb 57 2 24 (fun _ => True) [.bytes b tb] [(Str.ofString "newline", .bool false)] (fun t => .bytes (byteArr (encL ks)) t) := by
  w_top off
  k_with_none
  unfold PCall
  k_fill
  intro dp un gd cn cs a ccd cl outer A₀ base h₀ L m s Q E B F X T hk hok hd hu hret
  refine wpAny_call ?_
  (refine' enterP ?k1 ?k2 ?k3 ?k5 ?kA ?kF ?kK ?k6 ?k7 ?k8 ?k9 ?kB ?_ ?c2 ?c3 ?c4 ?c5; (case kA => exact rfl); (case kF => exact rfl); (case kK => assumption); (case k1 => k_asm); (case k2 => k_asm); (case k3 => k_asm); (case k5 => k_asm); (case k6 => k_is); (case k7 => k_is); (case k8 => ktr_room); (case k9 => first | exact BindsTo.of_eq rfl | exact binds_K (by k_in) rfl (by k_is) rfl rfl rfl); (case c5 => decide); (case kB => exact locs rfl); (case c2 => exact rfl); (case c3 => exact rfl); (case c4 => exact rfl); skip; intro g' L' h' kp' F' N' B' X' T'; (try dsimp only); (try k_lift B'); (try k_fold))
  k_with "state" => first | exact st_start | exact st_w0 (by assumption) (by assumption) (by assumption) (by assumption) (by assumption) | exact st_wt (by assumption) (by assumption) (by assumption) (by assumption) (by assumption) (by assumption) | exact st_end (by assumption) (by assumption) (by assumption) (by assumption) (by assumption) (by omega)
  k_with "pyIter bytes" => k_state (fun pre out lb lc => 0 ≤ lb ∧ lb < 6 ∧ 0 ≤ lc ∧ lc < 65536 ∧ out.length ≤ 2 * pre.length ∧ B2aI pre out lb lc) "out" "leftbits" "leftchar"
  k_with "exec While Compare cons nil" => k_while (fun _ out lb => 0 ≤ lb ∧ lb ≤ 13 ∧ out.length ≤ 2 * (kPre.length + 1) ∧ B2aW (kPre ++ [kN]) out lb) (fun _ out lb => lb.toNat) "out" "leftbits"
  k_steps
  · exact pend (s := s) (Q := Q) hret kp' (by assumption) (congrArg (fun x => Value.bytes (byteArr x) _) (enc2 (by assumption) (by assumption)))
  · exact pend (s := s) (Q := Q) hret kp' (by assumption) (congrArg (fun x => Value.bytes (byteArr x) _) (enc4 (by assumption) (by assumption)))
  · exact pend (s := s) (Q := Q) hret kp' (by assumption) (congrArg (fun x => Value.bytes (byteArr x) _) (enc0 (by assumption) (b2a_rest (by assumption) (by assumption) (by assumption) (by assumption) (by assumption))))
end Mine
end
section
open PySem PySem.W PySem.Spec PySem.Calls PyProof.Rows
set_option maxRecDepth 100000
set_option maxHeartbeats 8000000
namespace Mine
theorem PCall.useK {w : World} {mean : ExcName → Option Value} {mg mb : Str → Option Value} {f : Addr} {d u : Nat} {Ok : Heap → Prop} {vs : List Value} {kw : List (Str × Value)} {R : Tok → Value} (C : PCall w mean mg mb f d u Ok vs kw R)
    {dp un : Nat} {gd : Option (List Code)} {cn : Str} {cs : Scope} {a : Addr} {ccd : Value} {cl : List (Str × Addr)} {outer : List Env} {A₀ : Around} {base h₀ : Heap} {L : Addr} {m : Str → Option Value} {news : List (Addr × Obj)} {s : Shared} {Q E : Value → Shared → Prop}
    (B : Below A₀ base outer h₀) (F : Fr h₀ L s.heap m) (X : (hd.heap_39 w.params).In h₀) (N : News h₀ L s.heap news) (T : Top hd.view_39 (looseW hd.view_39 [Str.ofString "b2a_base64", Str.ofString "b64encode"]) mean mg mb h₀) (hk : cs.kind = .function) (ok : Ok s.heap)
    (hd : dp + d < recursionLimit) (hu : un + u < cLine)
    (ret : ∀ t h' tk', Fr h₀ L h' m → News h₀ L h' news → Q (R t) { s with heap := h', toks := tk' }) :
    wpAny (model Challenge.rw_pd0090_01.row.prog w) (ktrTop dp un gd cn cs L a ccd cl outer) (call (.ref f) vs kw) Q E s :=
  C _ _ _ _ _ _ _ _ _ _ _ _ _ _ _ _ _ B F X T hk ok hd hu fun t h' tk' kp => ret t h' tk' (F.keptAll kp) (N.grown kp)
local macro_rules | `(tactic| k_room) => `(tactic| ktr_room)
local macro_rules | `(tactic| walk_at "call ref") => `(tactic| (k_here; (k_dflt (refine' PCall.useK (b2a _ _ _ _ _ _ _ ?c1 ?c2) ?k1 ?k2 ?k3 ?k4 ?k5 ?k6 ?k7 ?k8 ?k9 ?_; (case c1 => assumption); (case c2 => assumption); (case k1 => k_asm); (case k2 => k_asm); (case k3 => k_asm); (case k4 => k_asm); (case k5 => k_asm); (case k6 => first | exact rfl | assumption); (case k7 => trivial); (case k8 => ktr_room); (case k9 => ktr_units))); intro t9 h9 tk9 F9 N9; (try dsimp only); (try k_fold)))
theorem benc (w mean mg mb) (b : Array UInt8) (tb : Tok) (ks : List Int) (hks : KBw.bInts b = ks) (hb : ks.length ≤ 10) : PCall w mean mg mb 65 3 32 (fun _ => True) [.bytes b tb] [] (fun t => .bytes (byteArr (encL ks)) t) := by
  w_top off
  k_with_none
  unfold PCall
  k_fill
  intro dp un gd cn cs a ccd cl outer A₀ base h₀ L m s Q E B F X T hk hok hd hu hret
  refine wpAny_call ?_
  (refine' enterP ?k1 ?k2 ?k3 ?k5 ?kA ?kF ?kK ?k6 ?k7 ?k8 ?k9 ?kB ?_ ?c2 ?c3 ?c4 ?c5; (case kA => exact rfl); (case kF => exact rfl); (case kK => assumption); (case k1 => k_asm); (case k2 => k_asm); (case k3 => k_asm); (case k5 => k_asm); (case k6 => k_is); (case k7 => k_is); (case k8 => ktr_room); (case k9 => first | exact BindsTo.of_eq rfl | exact binds_K (by k_in) rfl (by k_is) rfl rfl rfl); (case c5 => decide); (case kB => exact locs rfl); (case c2 => exact rfl); (case c3 => exact rfl); (case c4 => exact rfl); skip; intro g' L' h' kp' F' N' B' X' T'; (try dsimp only); (try k_lift B'); (try k_fold))
  k_steps
  exact pend (s := s) (Q := Q) hret kp' (by assumption) rfl
end Mine
end
section
open PySem PySem.W PySem.Spec PySem.Calls PyProof.Rows
set_option maxRecDepth 100000
namespace Mine
open Builtin

theorem forIn_asc {σ : Type} {n : Nat} (f : Nat → σ → Sem (ForInStep σ)) (g : Nat → σ) (hs : ∀ i, i < n → f i (g i) = pure (.yield (g (i + 1)))) :
    ∀ (k i : Nat), i + k = n → (forIn (List.range' i k) (g i) f : Sem σ) = pure (g n)
  | 0, i, e => by
    have : i = n := by omega
    subst this
    simp
  | k + 1, i, e => by
    rw [List.range'_succ, List.forIn_cons, hs i (by omega)]
    show (forIn (List.range' (i + 1) k) (g (i + 1)) f : Sem σ) = pure (g n)
    exact forIn_asc f g hs k (i + 1) (by omega)

theorem run_ascii (id : String) (b : Array UInt8) (hb : ∀ i, i < b.size → (b.getD i 0).toNat < 128) (hsz : b.size ≤ sizeLine) :
    _codecs.runDecoder id _codecs.asciiDecoder none true b 0 [] = pure (b.map (·.toNat), b.size) := by
  unfold _codecs.runDecoder
  simp only [Std.Legacy.Range.forIn_eq_forIn_range', Std.Legacy.Range.size]
  have hn : (b.size - 0 + 1 - 1) / 1 = b.size := by omega
  rw [hn]
  refine Eq.trans (b := (pure (b.size, ((b.toList.take b.size).map (·.toNat)).toArray, ({} : _codecs.Faults)) >>= fun s => pure (s.2.1, s.1))) (congrArg (fun (m : Sem (Nat × Array Nat × _codecs.Faults)) => m >>= fun s => pure (s.2.1, s.1)) (forIn_asc (g := fun i => (i, ((b.toList.take i).map (·.toNat)).toArray, ({} : _codecs.Faults))) _ ?_ b.size 0 (by omega))) ?_
  rotate_left
  · show (pure (((b.toList.take b.size).map (·.toNat)).toArray, b.size) : Sem (Array Nat × Nat)) = _
    have e : ((b.toList.take b.size).map (·.toNat)).toArray = b.map (·.toNat) := by
      rw [List.take_of_length_le (by simp)]
      rw [← Array.toList_map]
    rw [e]
  · intro i hi
    have h1 : ¬ ((((b.toList.take i).map (·.toNat)).toArray).size > sizeLine) := by
      simp only [List.size_toArray, List.length_map, List.length_take, Array.length_toList]
      omega
    have h2 : ¬ (i ≥ b.size) := by omega
    have h3 : _codecs.asciiDecoder.find true b i = .text [(b.getD i 0).toNat] (i + 1) := by
      show (if (b.getD i 0).toNat < 128 then _codecs.Found.char (b.getD i 0).toNat (i + 1) else _) = _
      rw [if_pos (hb i hi)]
      rfl
    have h4 : ((b.toList.take (i + 1)).map (·.toNat)).toArray = ((b.toList.take i).map (·.toNat)).toArray ++ #[(b.getD i 0).toNat] := by
      have hg : b.toList[i]? = some (b.getD i 0) := by
        simp [Array.getD, hi]
      rw [List.take_add_one, hg]
      simp
    simp only [h1, h2, h3, h4, if_false]
section
variable {c : UInt8} {cs : List UInt8} {b : Array UInt8} {t u : Tok} {x : PySem.Str} {n : Nat}
theorem road_asc {id : String} : _codecs.decodeRoad id b (PySem.Str.ofString "ascii") none [] = (_codecs.runDecoder id _codecs.asciiDecoder none true b 0 [] >>= fun r => mkStr ⟨r.1⟩) := by kernel_rfl
theorem entry_asc : «bytes.decode» ⟨[.bytes (c :: cs).toArray t, .str (PySem.Str.ofString "ascii") u], []⟩ = (mkStr (PySem.Str.ofString "utf-8") >>= fun _ => mkStr (PySem.Str.ofString "ascii") >>= fun e => mkStr (PySem.Str.ofString "bytes.decode") >>= fun d =>
    call (.builtin "_codecs.decode.text") [.bytes (c :: cs).toArray t, e, .none, d] >>= fun v => ret v) := by kernel_rfl
theorem entry_asc0 : «bytes.decode» ⟨[.bytes #[] t, .str (PySem.Str.ofString "ascii") u], []⟩ = (rule "bytes.decode.empty" >>= fun _ => retStr Str.empty) := by kernel_rfl
theorem meets_asc {t1 t2 : Tok} {d : PySem.Str} (hd : ∀ id, _codecs.runDecoder id _codecs.asciiDecoder none true b 0 [] = pure (x.cps, n)) :
    Meets («_codecs.decode.text» ⟨[.bytes b t, .str (PySem.Str.ofString "ascii") t1, .none, .str d t2], []⟩) (fun _ R s => x.length ≤ sizeLine ∧ R (.ok (.ret (.str x s.toks))) { s with toks := s.toks + 1 }) := by
  refine .of_wp fun prog w A R s hS => ?_
  obtain ⟨hsz, h⟩ := hS
  show wpAny _ _ (Bytes.bytesLike _ (.bytes b t) >>= fun r => _) _ _ s
  refine wpAny_bind (wpAny_of_eq KBd.like_eq ?_)
  refine wpAny_bind (wpAny_of_eq KBd.held_eq ?_)
  show wpAny _ _ (_codecs.decodeRoad _ b (PySem.Str.ofString "ascii") none [] >>= fun v => _) _ _ s
  rw [road_asc, hd]
  refine wpAny_bind (wpAny_bind (wpAny_pure ?_))
  exact wpAny_mkStr (wpAny_pure ⟨_, rfl, h⟩) hsz
theorem meets_dec (hd : ∀ id, _codecs.runDecoder id _codecs.asciiDecoder none true (c :: cs).toArray 0 [] = pure (x.cps, n)) :
    Meets («bytes.decode» ⟨[.bytes (c :: cs).toArray t, .str (PySem.Str.ofString "ascii") u], []⟩) (fun _ R s => x.length ≤ sizeLine ∧ ∀ t' k, R (.ok (.ret (.str x t'))) { s with toks := k }) := by
  refine .of_wp fun prog w A R s hS => ?_
  obtain ⟨hsz, h⟩ := hS
  rw [entry_asc]
  refine wpAny_bind (wpAny_mkStr ?_ (by decide))
  refine wpAny_bind (wpAny_mkStr ?_ (by decide))
  refine wpAny_bind (wpAny_mkStr ?_ (by decide))
  exact wpAny_bind (call_function_meets KBd.kind_text KBd.plain_text KBd.entry_text (KBd.args_text _ _ _ _) (meets_asc hd) ⟨hsz, wpAny_pure ⟨_, rfl, h _ _⟩⟩)
theorem meets_dec0 : Meets («bytes.decode» ⟨[.bytes #[] t, .str (PySem.Str.ofString "ascii") u], []⟩) (fun _ R s => ∀ t' k, R (.ok (.ret (.str Str.empty t'))) { s with toks := k }) := by
  refine .of_wp fun prog w A R s h => ?_
  rw [entry_asc0]
  refine wpAny_bind (wpAny_rule ?_)
  unfold retStr
  exact wpAny_bind (wpAny_mkStr (wpAny_pure ⟨_, rfl, h _ _⟩) (by decide))
theorem args_dec2 (a b : Value) : argsOk "bytes.decode" ⟨[a, b], []⟩ := by unfold argsOk; kernel_rfl
end
section
variable {prog : Program} {w : World} {A : Around} {E : Value → Shared → Prop} {s : Shared} {t u : Tok} {Q : Value → Shared → Prop}
theorem decode_asc {b : Array UInt8} (hb : ∀ i, i < b.size → (b.getD i 0).toNat < 128) (hsz : b.size ≤ 16777216) (h : ∀ t' k, Q (.str ⟨b.map (·.toNat)⟩ t') { s with toks := k }) :
    wpAny (model prog w) A (call (.builtin "bytes.decode") [.bytes b t, .str (PySem.Str.ofString "ascii") u]) Q E s := by
  have hl : b.size ≤ sizeLine := by rw [sizeLine_eq]; exact hsz
  obtain ⟨l⟩ := b
  cases l with
  | nil => exact call_meets FB.slot_bytes_decode (typeIs_bytes _ _ _) FB.entry_bytes_decode (args_dec2 _ _) meets_dec0 (fun t' k => by
      have e : (⟨Array.map (fun x : UInt8 => x.toNat) #[]⟩ : PySem.Str) = Str.empty := by simp [Str.empty]
      have := h t' k
      rw [e] at this
      exact this)
  | cons c cs =>
    refine call_meets FB.slot_bytes_decode (typeIs_bytes _ _ _) FB.entry_bytes_decode (args_dec2 _ _) (meets_dec (x := ⟨(c :: cs).toArray.map (·.toNat)⟩) (n := (c :: cs).toArray.size) fun id => run_ascii id _ hb hl) ⟨?_, h⟩
    show ((c :: cs).toArray.map (·.toNat)).size ≤ sizeLine
    rw [Array.size_map]
    exact hl
end
end Mine
end
section
open PySem PySem.W PySem.Spec PySem.Calls PyProof.Rows
set_option maxRecDepth 100000
namespace Mine
open Builtin Builtin.Str

theorem takeWhile_61 : ∀ (k : Nat) (l : List Nat), (∀ c ∈ l, c ≠ 61) → (List.replicate k 61 ++ l).takeWhile (fun c => (PySem.Str.ofString "=").cps.contains c) = List.replicate k 61 := by
  have q : ∀ c : Nat, (PySem.Str.ofString "=").cps.contains c = (c == 61) := by
    intro c
    have : (PySem.Str.ofString "=").cps = #[61] := by decide +kernel
    rw [this]
    simp
    first | rfl | exact Bool.eq_iff_iff.mpr ⟨fun h => by simpa using h, fun h => by simpa using h⟩ | exact eq_comm
  intro k l h
  induction k with
  | zero =>
    cases l with
    | nil => rfl
    | cons c r =>
      have hc : (c == 61) = false := by simpa using h c (.head _)
      simp only [List.replicate_zero, List.nil_append, List.takeWhile_cons, q, hc]
      rfl
  | succ k ih =>
    simp only [List.replicate_succ, List.cons_append, List.takeWhile_cons, q] at ih ⊢
    simpa using ih
theorem rstrip_eq (A : List Nat) (k : Nat) (h : ∀ c ∈ A, c ≠ 61) : Txt.rstripChars ⟨(A ++ List.replicate k 61).toArray⟩ (PySem.Str.ofString "=") = ⟨A.toArray⟩ := by
  have hw : (((⟨(A ++ List.replicate k 61).toArray⟩ : PySem.Str).cps.toList.drop 0).reverse.takeWhile (PySem.Str.ofString "=").cps.contains) = List.replicate k 61 := by
    show ((A ++ List.replicate k 61).reverse.takeWhile _) = _
    rw [List.reverse_append, List.reverse_replicate]
    exact takeWhile_61 k A.reverse (fun c hc => h c (List.mem_reverse.mp hc))
  have hlo : stripLo (PySem.Str.ofString "=").cps.contains false (⟨(A ++ List.replicate k 61).toArray⟩ : PySem.Str) = 0 := rfl
  have hhi : stripHi (PySem.Str.ofString "=").cps.contains true (⟨(A ++ List.replicate k 61).toArray⟩ : PySem.Str) 0 = A.length := by
    unfold stripHi
    rw [if_pos rfl, hw, List.length_replicate]
    show (A ++ List.replicate k 61).toArray.size - k = A.length
    rw [List.size_toArray, List.length_append, List.length_replicate]
    omega
  unfold Txt.rstripChars Txt.stripBy
  split
  · rename_i hs
    unfold stripSame at hs
    rw [hlo, hhi] at hs
    have : A.length = (A ++ List.replicate k 61).length := by
      have h2 := (Bool.and_eq_true_iff.mp hs).2
      have h3 : A.length = (⟨(A ++ List.replicate k 61).toArray⟩ : PySem.Str).length := by simpa using h2
      exact h3
    rw [List.length_append, List.length_replicate] at this
    have hk : k = 0 := by omega
    subst hk
    simp
  · unfold PySem.stripped
    rw [hlo, hhi]
    have e := StrLaws.strSub_toList (⟨(A ++ List.replicate k 61).toArray⟩ : PySem.Str) 0 A.length
    have e2 : (strSub (⟨(A ++ List.replicate k 61).toArray⟩ : PySem.Str) 0 A.length).cps = A.toArray := by
      apply Array.toList_inj.mp
      rw [e]
      simp
    rw [← e2]
theorem b64c_ne (d : Int) (h0 : 0 ≤ d) (h1 : d < 64) : (b64c d).toNat ≠ 61 := by
  rw [b64c_def]
  have h9 : ∀ k : Fin 64, (B64L.getD k.val 0).toNat ≠ 61 := by decide +kernel
  exact h9 ⟨d.toNat, by omega⟩
def alphT : PySem.Str := PySem.Str.ofString "ABCDEFGHIJKLMNOPQRSTUVWXYZabcdefghijklmnopqrstuvwxyz0123456789+/"
theorem index_eq (d : Int) (h0 : 0 ≤ d) (h1 : d < 64) : occurrences alphT ⟨#[(b64c d).toNat]⟩ 0 alphT.length 1 = [d.toNat] := by
  rw [b64c_def]
  have h9 : ∀ k : Fin 64, occurrences alphT ⟨#[(B64L.getD k.val 0).toNat]⟩ 0 alphT.length 1 = [k.val] := by decide +kernel
  exact h9 ⟨d.toNat, by omega⟩
end Mine
end
section
open PySem PySem.W PySem.Spec PySem.Calls PyProof.Rows
set_option maxRecDepth 100000
namespace Mine
section
variable {prog : Program} {w : World} {A : Around} {E : Value → Shared → Prop} {s : Shared} {env : Env} {h₀ : Heap} {xi xc : Str} {body : List Stmt} {Q : Flow → Shared → Prop}
theorem kst_enum {σ : Type} {D : List Int} {x : Str} {xv : Value} {m₀ : Str → Option Value} (Led : σ → List (Addr × Obj)) (ps : σ → List (Str × Value)) (Facts : σ → Prop) (stored : List Str) (P : List Int → σ → Prop) (c₀ : σ)
    (S : PairSrc prog w A E h₀ env ItemKind.str (signs x) xv s m₀ (Led c₀)) (hD : signs x = D.map fun d => (⟨#[(b64c d).toNat]⟩ : Str)) (hf : Facts c₀) (hk : ∀ p ∈ ps c₀, m₀ p.1 = some p.2) (hp : P [] c₀)
    (turn : ∀ (c : σ) pre post n t u' (u : Str → Option Value) h tk own, D = pre ++ n :: post → n ∈ D → OwnOff own ((Led c₀).map (·.1)) → Facts c → P pre c →
      Fr h₀ env.locals h (fun y => if y = xc then some (.str ⟨#[(b64c n).toNat]⟩ t) else if y = xi then some (.int (pre.length : Int) u') else kstB (fun z => if stored.contains z then u z else m₀ z) (ps c) y) → News h₀ env.locals h (Led c ++ own) →
      wpAny (model prog w) A (execs body env) (InvPostN h₀ env.locals (KstS Led ps Facts xc stored m₀ P (pre ++ [n])) own ((Led c₀).map (·.1)) { s with heap := h, toks := tk } Q) E { s with heap := h, toks := tk })
    (done : ∀ (c : σ) (u : Str → Option Value) h tk, Facts c → P D c → Fr h₀ env.locals h (fun y => if y = xc then u y else kstB (fun z => if stored.contains z then u z else m₀ z) (ps c) y) → News h₀ env.locals h (Led c) → Q .next { s with heap := h, toks := tk }) :
    wpAny (model prog w) A (pyIter xv) (fun it s₂ => PairAt3 prog w A h₀ env xi xc body Q E it s₂) E s := by
  refine S xi xc body Q (fun i m nx => KstS Led ps Facts xc stored m₀ P (D.take i) m nx) ⟨c₀, rfl, hf, hk, fun _ _ _ _ => rfl, by simpa using hp⟩ ?_ ?_
  · rintro i a t v m₁ news₁ s₁ own ⟨h, tk, rfl⟩ ha hv ⟨c, rfl, hf', h1, h2, hp'⟩ hadr hoff F₁ N₁
    rw [hD, List.getElem?_map] at ha
    obtain ⟨n, hn, rfl⟩ := Option.map_eq_some_iff.mp ha
    obtain ⟨u', rfl⟩ := ItemKind.str_is hv
    have hil : i < D.length := (List.getElem?_eq_some_iff.mp hn).1
    have hs : D.take (i + 1) = D.take i ++ [n] := by simp [List.take_add_one, hn]
    have hlen : (D.take i).length = i := by rw [List.length_take]; omega
    have e : D = D.take i ++ n :: D.drop (i + 1) := by
      have ht := List.take_append_drop (i + 1) D
      rw [hs, List.append_assoc] at ht
      exact ht.symm
    have F₂ : Fr h₀ env.locals h (fun y => if y = xc then some (.str ⟨#[(b64c n).toNat]⟩ u') else if y = xi then some (.int ((D.take i).length : Int) t) else kstB (fun z => if stored.contains z then m₁ z else m₀ z) (ps c) y) := by
      have em : (fun y => if y = xc then some (Value.str ⟨#[(b64c n).toNat]⟩ u') else if y = xi then some (.int ((D.take i).length : Int) t) else kstB (fun z => if stored.contains z then m₁ z else m₀ z) (ps c) y)
          = fun y => if y = xc then some (.str ⟨#[(b64c n).toNat]⟩ u') else if y = xi then some (.int (i : Int) t) else m₁ y := by
        funext y
        by_cases hy : y = xc
        · rw [if_pos hy, if_pos hy]
        · rw [if_neg hy, if_neg hy, kst_off h1 h2 hy, hlen]
      rw [em]
      exact F₁
    have N₂ : News h₀ env.locals h (Led c ++ own) := fun p hp => N₁ p (by
      rcases List.mem_append.mp hp with q | q
      · exact List.mem_append_right _ q
      · exact List.mem_append_left _ q)
    have ho : OwnOff own ((Led c₀).map (·.1)) := fun p hp b hb => by
      obtain ⟨q, hq, rfl⟩ := List.mem_map.mp hb
      exact hoff p hp q hq
    refine wpAny_mono (turn c (D.take i) (D.drop (i + 1)) n u' t m₁ h tk own e (List.mem_of_getElem? hn) ho hf' hp' F₂ N₂) (fun f s₂ hpost => ?_) fun _ _ e => e
    rw [hs]
    have up : InvEndN h₀ env.locals (KstS Led ps Facts xc stored m₀ P (D.take i ++ [n])) own ((Led c₀).map (·.1)) { s with heap := h, toks := tk } s₂ →
        LoopStep3 h₀ env.locals own (Led c) (KstS Led ps Facts xc stored m₀ P (D.take i ++ [n])) { s with heap := h, toks := tk } (fun v s' => Q (.ret v) s') (fun s' => Q .next s') .next s₂ := by
      rintro ⟨h', tk', m', news', nx, e', F', N', hn', ho', ha', hJ'⟩
      exact ⟨rfl, h', tk', m', nx, e', F', fun p hp => N' p (by
        rcases List.mem_append.mp hp with q | q
        · exact ho' p q
        · exact hn' p q), ha'.trans hadr.symm, hJ'⟩
    cases f with
    | ret v => exact hpost
    | brk => exact hpost
    | next => exact up hpost
    | cont => exact up hpost
  · rintro h' tk m' news' F' N' _ ⟨c, rfl, hf', h1, h2, hp'⟩
    have hlen : (signs x).length = D.length := by rw [hD, List.length_map]
    rw [hlen, List.take_length] at hp'
    exact done c m' h' tk hf' hp' (kst_frOut h1 h2 F') N'
end
theorem signs_txt (l : List Int) : signs (⟨(l.map Int.toNat).toArray⟩ : Str) = l.map fun c => (⟨#[c.toNat]⟩ : Str) := by
  unfold signs
  simp
end Mine
end
section
open PySem PySem.W PySem.Spec PySem.Calls PyProof.Rows
set_option maxRecDepth 100000
namespace Mine
open LSm (BoolsAre)
theorem boolsA {vs : List Value} {bs : List Bool} {b : Bool} (h : BoolsAre vs bs) : BoolsAre (vs ++ [.bool b]) (bs ++ [b]) := by
  induction h with
  | nil => exact .cons _ .nil
  | cons k _ ih => exact .cons _ ih
section
variable {prog : Program} {w : World} {A : Around} {h₀ : Heap} {L : Addr} {m : Str → Option Value} {env : Env} {elt : Expr} {x : Str} {scope : Scope} {cl : List (Str × Addr)} {s : Shared} {S : List (Addr × Obj) → Prop} {P : Nat → Value → Prop} {Fin : List Value → List (Addr × Obj) → Prop} {news : List (Addr × Obj)}
theorem kcb_rest {n : Nat} {ks : List Int} (g : Int → Bool) (hks : ks.length = n) (hP : ∀ i v, i < n → P i v → ∃ k t, ks[i]? = some k ∧ v = .int k t)
    (turn : ∀ k t I oI C oC D m₂ ys h tk (E' : Value → Shared → Prop), k ∈ ks → LCg.NsObj oC m₂ → m₂ x = some (.int k t) → Fr h₀ L h m → News h₀ L h ((I, oI) :: (C, oC) :: (D, LCg.lst ys) :: news) → LCg.Off3 I C D news → ((@Ne Nat I C) ∧ (@Ne Nat I D) ∧ (@Ne Nat C D)) →
      wpAny (model prog w) A (eval elt (compEnvC scope cl C env)) (LCg.CompEnd h₀ L m { s with heap := h, toks := tk } I oI C oC D (LCg.lst ys) S (fun y news' => KCfEl news 0 (.int 0 0) news' ∧ y = .bool (g k))) E' { s with heap := h, toks := tk })
    (fin : ∀ ys, BoolsAre ys (ks.map g) → Fin ys news) : LCg.CompRest prog w A h₀ L m env elt x scope cl s S P Fin n 0 [] news := by
  have key : ∀ (j i : Nat) (ys : List Value), i + j = n → BoolsAre ys ((ks.take i).map g) → LCg.CompRest prog w A h₀ L m env elt x scope cl s S P Fin j i ys news := by
    intro j
    induction j with
    | zero =>
      intro i ys hi hy
      have e : i = ks.length := by omega
      subst e
      rw [List.take_length] at hy
      exact LCg.CompRest.zero (fin ys hy)
    | succ j ih =>
      intro i ys hi hy
      refine LCg.CompRest.succ ?_
      intro v I oI C oC D m₂ h tk E' hv hC hx F N off ne
      obtain ⟨k, t, hk, hv'⟩ := hP i v (by omega) hv
      rw [hv'] at hx
      refine wpAny_mono (turn k t I oI C oC D m₂ ys h tk E' (List.mem_of_getElem? hk) hC hx F N off ne) (fun y s₂ hq => ?_) fun _ _ e => e
      obtain ⟨h', tk', nw, e, F', N', off', hS, ⟨hn, _⟩, hy'⟩ := hq
      rw [hn] at N' off' hS
      refine ⟨h', tk', news, e, F', N', off', hS, ?_⟩
      rw [hy']
      refine ih (i + 1) _ (by omega) ?_
      rw [List.take_add_one, hk]
      simpa using boolsA hy
  exact key n 0 [] (by omega) (by simp only [List.take_zero, List.map_nil]; exact .nil)
theorem kcb_range {n : Nat} {a : Int} (g : Int → Bool)
    (turn : ∀ k t I oI C oC D m₂ ys h tk (E' : Value → Shared → Prop), a ≤ k → k < a + (n : Int) → LCg.NsObj oC m₂ → m₂ x = some (.int k t) → Fr h₀ L h m → News h₀ L h ((I, oI) :: (C, oC) :: (D, LCg.lst ys) :: news) → LCg.Off3 I C D news → ((@Ne Nat I C) ∧ (@Ne Nat I D) ∧ (@Ne Nat C D)) →
      wpAny (model prog w) A (eval elt (compEnvC scope cl C env)) (LCg.CompEnd h₀ L m { s with heap := h, toks := tk } I oI C oC D (LCg.lst ys) S (fun y news' => KCfEl news 0 (.int 0 0) news' ∧ y = .bool (g k))) E' { s with heap := h, toks := tk })
    (fin : ∀ ys, BoolsAre ys ((rangeKs a n).map g) → Fin ys news) : LCg.CompRest prog w A h₀ L m env elt x scope cl s S (fun i v => ∃ t, v = .int (a + (i : Int)) t) Fin n 0 [] news :=
  kcb_rest (ks := rangeKs a n) g (rangeKs_length a n) (fun i v hi hv => by
    obtain ⟨t, e⟩ := hv
    exact ⟨a + (i : Int), t, by simp [rangeKs, hi], e⟩)
    (fun k t I oI C oC D m₂ ys h tk E' hk hC hx F N off ne => turn k t I oI C oC D m₂ ys h tk E' (mem_rangeKs hk).1 (mem_rangeKs hk).2 hC hx F N off ne) fin
theorem kcb_list {vs : List Value} {ns : List Int} (g : Int → Bool) (hi : IntsAre vs ns)
    (turn : ∀ k t I oI C oC D m₂ ys h tk (E' : Value → Shared → Prop), k ∈ ns → LCg.NsObj oC m₂ → m₂ x = some (.int k t) → Fr h₀ L h m → News h₀ L h ((I, oI) :: (C, oC) :: (D, LCg.lst ys) :: news) → LCg.Off3 I C D news → ((@Ne Nat I C) ∧ (@Ne Nat I D) ∧ (@Ne Nat C D)) →
      wpAny (model prog w) A (eval elt (compEnvC scope cl C env)) (LCg.CompEnd h₀ L m { s with heap := h, toks := tk } I oI C oC D (LCg.lst ys) S (fun y news' => KCfEl news 0 (.int 0 0) news' ∧ y = .bool (g k))) E' { s with heap := h, toks := tk })
    (fin : ∀ ys, BoolsAre ys (ns.map g) → Fin ys news) : LCg.CompRest prog w A h₀ L m env elt x scope cl s S (fun i v => vs.toArray[i]? = some v) Fin vs.toArray.size 0 [] news :=
  kcb_rest (ks := ns) g (by rw [List.size_toArray]; exact hi.length.symm) (fun i v _ hv => by
    obtain ⟨k, t, e, hk⟩ := IntsAre.at hi i v (by simpa using hv)
    exact ⟨k, t, hk, e⟩) turn fin
end
theorem bools_reads {h : Heap} : ∀ {vs : List Value} {bs : List Bool}, BoolsAre vs bs → ∃ as, ReadsAll h vs (bs.map PyData.bool) as
  | _, _, .nil => ⟨[], .nil⟩
  | _, _, .cons b r => by
    obtain ⟨as, ra⟩ := bools_reads (h := h) r
    exact ⟨_, .cons (.bool b) ra⟩
theorem bools_all : ∀ bs : List Bool, (bs.map PyData.bool).all Shape.bool.has = true
  | [] => rfl
  | b :: r => by rw [List.map_cons, List.all_cons, bools_all r]; rfl
theorem cnt_pow (n : Int) (h : 0 ≤ n ∧ n < 64) : countIn (.bool true) (([1, 2, 4, 8, 16, 32].map fun k : Int => decide (k ≤ n)).map PyData.bool) = (Builtin.Int.intBits n : Int) := by
  have h9 : ∀ k : Fin 64, countIn (.bool true) (([1, 2, 4, 8, 16, 32].map fun j : Int => decide (j ≤ (k.val : Int))).map PyData.bool) = (Builtin.Int.intBits (k.val : Int) : Int) := by decide +kernel
  have := h9 ⟨n.toNat, by omega⟩
  have e : ((n.toNat : Nat) : Int) = n := by omega
  simp only [e] at this
  exact this
theorem cnt_rule {prog : Program} {w : World} {A : Around} {E : Value → Shared → Prop} {s : Shared} {h₀ : Heap} {L D : Addr} {ys : List Value} {news : List (Addr × Obj)} {n : Int} {Q : Value → Shared → Prop}
    (N : News h₀ L s.heap news) (hm : (D, LCg.lst ys) ∈ news) (hb : BoolsAre ys ([1, 2, 4, 8, 16, 32].map fun k : Int => decide (k ≤ n))) (hn : 0 ≤ n ∧ n < 64)
    (h : Q (.int (Builtin.Int.intBits n : Int) s.toks) { s with toks := s.toks + 1 }) : wpAny (model prog w) A (call (.builtin "list.count") [.ref D, .bool true]) Q E s := by
  obtain ⟨as, ra⟩ := bools_reads (h := s.heap) hb
  refine count_list_bools (vs := ys) ⟨_, (N _ hm).1, rfl, ys.length, rfl⟩ ra (bools_all _) ?_
  rw [cnt_pow n hn]
  exact h
end Mine
end
section
open PySem PySem.W PySem.Spec PySem.Calls PyProof.Rows
set_option maxRecDepth 100000
namespace Mine
open Builtin.Int (intBits)

def rd (l : List Int) : Int := l.foldl (fun a d => a * 64 + d) 0
theorem rd_snoc (l : List Int) (d : Int) : rd (l ++ [d]) = rd l * 64 + d := by simp [rd]
theorem rd_bound : ∀ l : List Int, (∀ d ∈ l, 0 ≤ d ∧ d < 64) → 0 ≤ rd l ∧ rd l < 64 ^ l.length := by
  intro l
  induction l using snoc_ind with
  | h0 => intro _; exact ⟨Int.le_refl _, by show (0 : Int) < 64 ^ 0; decide⟩
  | h1 l o ih =>
    intro h
    obtain ⟨a, b⟩ := ih fun x hx => h x (List.mem_append_left _ hx)
    obtain ⟨c, d⟩ := h o (List.mem_append_right _ (.head _))
    rw [rd_snoc, List.length_append, List.length_singleton, Int.pow_succ]
    omega
theorem rd_dig : ∀ (e : Nat) (M : Int), 0 ≤ M → M < 64 ^ e → rd (dig e M) = M
  | 0, M, h0, h1 => by
    have : (64 : Int) ^ 0 = 1 := rfl
    show (0 : Int) = M
    omega
  | e + 1, M, h0, h1 => by
    rw [Int.pow_succ] at h1
    rw [dig, rd_snoc, rd_dig e (M / 64) (by omega) (by omega)]
    omega

theorem ib_pos {R : Int} (h : 0 < R) : 1 ≤ intBits R := by
  rcases Nat.eq_zero_or_pos (intBits R) with e | e
  · have := (intBits_le_iff (m := 0) (x := R)).mp (by omega)
    simp at this
    omega
  · exact e
theorem ib_double {R p : Int} (hR : 0 < R) (h0 : 0 ≤ p) (h1 : p < 2) : intBits (R * 2 + p) = intBits R + 1 := by
  have key : ∀ m, intBits (R * 2 + p) ≤ m + 1 ↔ intBits R ≤ m := by
    intro m
    rw [intBits_le_iff, intBits_le_iff, Nat.pow_succ]
    omega
  have a := (key (intBits R)).mpr (Nat.le_refl _)
  have b := ib_pos hR
  have c : ¬ intBits (R * 2 + p) ≤ intBits R := by
    intro h
    have := (key (intBits R - 1)).mp (by omega)
    omega
  omega
theorem ib_step {R p : Int} (hR : 0 < R) (h0 : 0 ≤ p) (h1 : p < 64) : intBits (R * 64 + p) = intBits R + 6 := by
  have e : R * 64 + p = ((((((R * 2 + p / 32) * 2 + p / 16 % 2) * 2 + p / 8 % 2) * 2 + p / 4 % 2) * 2 + p / 2 % 2) * 2 + p % 2) := by omega
  rw [e, ib_double (by omega) (by omega) (by omega), ib_double (by omega) (by omega) (by omega), ib_double (by omega) (by omega) (by omega), ib_double (by omega) (by omega) (by omega), ib_double (by omega) (by omega) (by omega), ib_double (by omega) (by omega) (by omega)]
theorem ib_shift {N : Int} (hN : 0 < N) : ∀ k : Nat, intBits (N * 2 ^ k) = intBits N + k
  | 0 => by simp
  | k + 1 => by
    have e : N * 2 ^ (k + 1) = N * 2 ^ k * 2 + 0 := by rw [Int.pow_succ, ← Int.mul_assoc]; omega
    have hp : 0 < N * 2 ^ k := Int.mul_pos hN (kbt_pos k)
    rw [e, ib_double hp (by omega) (by omega), ib_shift hN k]
    omega

def sbI (n : Int) : Bool := if n = 0 then false else (Builtin.bitAnd n (n - 1) == 0)
theorem sb_double (N : Int) : sbI (N * 2) = sbI N := by
  unfold sbI
  by_cases h : N = 0
  · subst h; rfl
  · rw [if_neg h, if_neg (by omega)]
    have e := kbt_halves (N * 2) (N * 2 - 1)
    have a : N * 2 / 2 = N := by omega
    have b : (N * 2 - 1) / 2 = N - 1 := by omega
    rw [a, b, if_neg (by omega)] at e
    rw [e]
    rw [Bool.eq_iff_iff, beq_iff_eq, beq_iff_eq]
    omega
theorem sb_shift (N : Int) : ∀ k : Nat, sbI (N * 2 ^ k) = sbI N
  | 0 => by simp
  | k + 1 => by rw [Int.pow_succ, ← Int.mul_assoc, sb_double, sb_shift N k]
theorem sb_step0 (R : Int) : sbI (R * 64 + 0) = sbI R := by
  have e : R * 64 + 0 = R * 2 ^ 6 := by show R * 64 + 0 = R * 64; omega
  rw [e, sb_shift]
theorem and_half {x y : Int} : 2 * Builtin.bitAnd (x / 2) (y / 2) ≤ Builtin.bitAnd x y := by
  have e := kbt_halves x y
  split at e <;> omega
theorem and_self' {R : Int} (h : 0 ≤ R) : Builtin.bitAnd R R = R := by
  unfold Builtin.bitAnd
  rw [decide_eq_true h]
  show ((R.toNat &&& R.toNat : Nat) : Int) = R
  rw [Nat.and_self]
  omega
theorem sb_step1 {R p : Int} (hR : 0 < R) (h0 : 0 < p) (h1 : p < 64) : sbI (R * 64 + p) = false := by
  unfold sbI
  rw [if_neg (by omega)]
  have a1 := and_half (x := R * 64 + p) (y := R * 64 + p - 1)
  have a2 := and_half (x := (R * 64 + p) / 2) (y := (R * 64 + p - 1) / 2)
  have a3 := and_half (x := (R * 64 + p) / 2 / 2) (y := (R * 64 + p - 1) / 2 / 2)
  have a4 := and_half (x := (R * 64 + p) / 2 / 2 / 2) (y := (R * 64 + p - 1) / 2 / 2 / 2)
  have a5 := and_half (x := (R * 64 + p) / 2 / 2 / 2 / 2) (y := (R * 64 + p - 1) / 2 / 2 / 2 / 2)
  have a6 := and_half (x := (R * 64 + p) / 2 / 2 / 2 / 2 / 2) (y := (R * 64 + p - 1) / 2 / 2 / 2 / 2 / 2)
  have e1 : (R * 64 + p) / 2 / 2 / 2 / 2 / 2 / 2 = R := by omega
  have e2 : (R * 64 + p - 1) / 2 / 2 / 2 / 2 / 2 / 2 = R := by omega
  rw [e1, e2, and_self' (by omega)] at a6
  rw [beq_eq_false_iff_ne]
  omega
theorem in_sb (n : Int) (h : 0 ≤ n ∧ n < 64) : ([1, 2, 4, 8, 16, 32] : List Int).any (· == n) = sbI n := by
  have h9 : ∀ k : Fin 64, ([1, 2, 4, 8, 16, 32] : List Int).any (· == (k.val : Int)) = sbI (k.val : Int) := by decide +kernel
  have := h9 ⟨n.toNat, by omega⟩
  have e : ((n.toNat : Nat) : Int) = n := by omega
  simp only [e] at this
  exact this

/-- what holds between the turns of the loop over the signs -/
def SgP (cnt : Int) (pre : List Int) (read high : Int) (bs : List Bool) : Prop :=
  read = rd pre ∧ (read = 0 → high = -1) ∧ (0 < read → high = 8 * cnt - 6 * (pre.length : Int) - 1 + (intBits read : Int)) ∧ (bs = [] ↔ read = 0) ∧ (bs == [true]) = sbI read
theorem sg_start (cnt : Int) : SgP cnt [] 0 (-1) [] := ⟨rfl, fun _ => rfl, fun h => by omega, ⟨fun _ => rfl, fun _ => rfl⟩, rfl⟩
section
variable {cnt read high n : Int} {pre : List Int} {bs : List Bool}
theorem sg_zero (h : SgP cnt pre read high bs) (hr : 0 ≤ read) (hn : n = 0) : SgP cnt (pre ++ [n]) (read * 64 + n) high bs := by
  subst hn
  obtain ⟨h1, h2, h3, h4, h5⟩ := h
  refine ⟨by rw [rd_snoc, h1], fun e => h2 (by omega), fun e => ?_, ⟨fun e => by have := h4.mp e; omega, fun e => h4.mpr (by omega)⟩, by rw [h5, sb_step0]⟩
  have hp : 0 < read := by omega
  rw [h3 hp, ib_step hp (by omega) (by omega), List.length_append, List.length_singleton]
  omega
theorem app_ne {b : Bool} (h : bs ≠ []) : (bs ++ [b] == [true]) = false := by
  cases bs with
  | nil => exact absurd rfl h
  | cons c r =>
    rw [beq_eq_false_iff_ne]
    intro q
    have := congrArg List.length q
    simp at this
theorem sg_keep (h : SgP cnt pre read high bs) (hr : 0 ≤ read) (h0 : 0 < n) (h1' : n < 64) (hh : 0 ≤ high) : SgP cnt (pre ++ [n]) (read * 64 + n) high (bs ++ [sbI n]) := by
  obtain ⟨h1, h2, h3, h4, h5⟩ := h
  have hp : 0 < read := by
    rcases Int.lt_or_eq_of_le hr with q | q
    · exact q
    · have := h2 q.symm; omega
  refine ⟨by rw [rd_snoc, h1], fun e => by omega, fun _ => ?_, ⟨fun e => by simp at e, fun e => by omega⟩, ?_⟩
  · rw [h3 hp, ib_step hp (by omega) h1', List.length_append, List.length_singleton]
    omega
  · rw [sb_step1 hp h0 h1']
    exact app_ne fun q => by have := h4.mp q; omega
theorem sg_new (h : SgP cnt pre read high bs) (hr : 0 ≤ read) (h0 : 0 < n) (h1' : n < 64) (hh : high < 0) (hl : 6 * ((pre.length : Int) + 1) ≤ 8 * cnt + 5) :
    SgP cnt (pre ++ [n]) (read * 64 + n) (8 * cnt - 6 * (pre.length : Int) - 7 + (intBits n : Int)) (bs ++ [sbI n]) := by
  obtain ⟨h1, h2, h3, h4, h5⟩ := h
  have hz : read = 0 := by
    rcases Int.lt_or_eq_of_le hr with q | q
    · have := h3 q
      have := ib_pos q
      omega
    · exact q.symm
  have hb : bs = [] := h4.mpr hz
  subst hb hz
  have e : (0 : Int) * 64 + n = n := by omega
  refine ⟨by rw [rd_snoc, ← h1], fun e => by omega, fun _ => ?_, ⟨fun e => by simp at e, fun e => by omega⟩, ?_⟩
  · rw [e, List.length_append, List.length_singleton]
    omega
  · rw [e]
    show ([sbI n] == [true]) = sbI n
    cases sbI n <;> rfl
end
theorem sg_final {ns : List Int} {read high : Int} {bs : List Bool} (hr : ∀ n ∈ ns, 0 ≤ n ∧ n < 256) (h : SgP (ns.length : Int) (digs ns) read high bs) :
    read = num ns * 2 ^ fillN ns ∧ (intBits (num ns) : Int) - 1 = high ∧ sbI (num ns) = (bs == [true]) := by
  obtain ⟨h1, h2, h3, h4, h5⟩ := h
  obtain ⟨n0, n1⟩ := num_bound ns hr
  have hM0 : 0 ≤ num ns * 2 ^ fillN ns := Int.mul_nonneg n0 (Int.le_of_lt (kbt_pos _))
  have hpw : (256 : Int) ^ ns.length * 2 ^ fillN ns = 64 ^ sgnN ns := by
    have a : (256 : Int) ^ ns.length = 2 ^ (8 * ns.length) := by rw [Int.pow_mul]; rfl
    have b : (64 : Int) ^ sgnN ns = 2 ^ (6 * sgnN ns) := by rw [Int.pow_mul]; rfl
    rw [a, b, ← Int.pow_add]
    congr 1
    unfold fillN sgnN
    omega
  have hM1 : num ns * 2 ^ fillN ns < 64 ^ sgnN ns := by
    rw [← hpw]
    exact Int.mul_lt_mul_of_pos_right n1 (kbt_pos _)
  have e1 : read = num ns * 2 ^ fillN ns := by rw [h1]; exact rd_dig _ _ hM0 hM1
  refine ⟨e1, ?_, by rw [h5, e1, sb_shift]⟩
  rcases Int.lt_or_eq_of_le n0 with q | q
  · have hp : 0 < read := by rw [e1]; exact Int.mul_pos q (kbt_pos _)
    have := h3 hp
    rw [e1, ib_shift q] at this
    have hl : (digs ns).length = sgnN ns := dig_length _ _
    rw [hl] at this
    have hf : 6 * (sgnN ns : Int) - 8 * (ns.length : Int) = (fillN ns : Int) := by unfold fillN sgnN; omega
    omega
  · have hz : read = 0 := by rw [e1, ← q]; omega
    rw [h2 hz, ← q]
    rfl
theorem rd_84 {ns pre post : List Int} {n : Int} (e : digs ns = pre ++ n :: post) (hb : ns.length ≤ 10) : 0 ≤ rd (pre ++ [n]) ∧ rd (pre ++ [n]) < 19342813113834066795298816 := by
  have hl : (digs ns).length = sgnN ns := dig_length _ _
  have hl2 := congrArg List.length e
  rw [hl, List.length_append, List.length_cons] at hl2
  have hs : sgnN ns ≤ 14 := by unfold sgnN; omega
  obtain ⟨a, b⟩ := rd_bound (pre ++ [n]) (fun d hd => dig_mem _ _ _ (by
    show d ∈ digs ns
    rw [e]
    rcases List.mem_append.mp hd with x | x
    · exact List.mem_append_left _ x
    · rw [List.mem_singleton.mp x]; exact List.mem_append_right _ (.head _)))
  have c : (64 : Int) ^ (pre ++ [n]).length ≤ 64 ^ 14 := by
    have := Nat.pow_le_pow_right (n := 64) (by decide) (show (pre ++ [n]).length ≤ 14 by rw [List.length_append, List.length_singleton]; omega)
    exact_mod_cast this
  have d : (64 : Int) ^ 14 = 19342813113834066795298816 := by decide
  omega
end Mine
end
section
open PySem PySem.W PySem.Spec PySem.Calls PyProof.Rows PyProof.V PySem.SeqAt
set_option maxRecDepth 100000
namespace Mine
open LSm (BoolsAre)
theorem readsAll_of_bools {h : Heap} : ∀ {vs : List Value} {bs : List Bool}, BoolsAre vs bs → ReadsAll h vs (bs.map PyData.bool) []
  | _, _, .nil => .nil
  | _, _, .cons b r => by
    have := ReadsAll.cons (Reads.bool (h := h) b) (readsAll_of_bools (h := h) r)
    simpa using this
theorem reads_of_bools {h : Heap} {a : Addr} {vs : List Value} {bs : List Bool} (hl : h.IsList a vs.toArray) (hi : BoolsAre vs bs) : Reads h (.ref a) (.list (bs.map PyData.bool)) [a] := by
  obtain ⟨o, ho, hc, n, hd⟩ := hl
  exact Reads.list ho hc hd (by simpa using readsAll_of_bools hi)
theorem canLayAll0_bools : ∀ bs : List Bool, PyData.canLayAll0 (bs.map PyData.bool) = true
  | [] => by simp [PyData.canLayAll0]
  | n :: r => by simp [PyData.canLayAll0, PyData.canLay0, canLayAll0_bools r]
theorem depthAll_bools : ∀ bs : List Bool, PyData.depthAll (bs.map PyData.bool) ≤ 1
  | [] => by simp [PyData.depthAll]
  | n :: r => by
    have := depthAll_bools r
    simp only [List.map_cons, PyData.depthAll, PyData.depth]
    omega
theorem shaped_bools (bs : List Bool) : shaped (.list (bs.map PyData.bool)) = true := by
  have h1 := depthAll_bools bs
  have h2 : PyData.depth (.list (bs.map PyData.bool)) ≤ 64 := by simp only [PyData.depth]; omega
  show (PyData.canLay0 (.list (bs.map PyData.bool)) && decide (PyData.depth (.list (bs.map PyData.bool)) ≤ 64)) = true
  rw [Bool.and_eq_true]
  exact ⟨by simp only [PyData.canLay0]; exact canLayAll0_bools bs, decide_eq_true h2⟩
theorem noMix_bools : ∀ ns ms : List Bool, noMixAll (ns.map PyData.bool) (ms.map PyData.bool) = true
  | [], [] => by simp [noMixAll]
  | [], _ :: _ => by simp [noMixAll]
  | _ :: _, [] => by simp [noMixAll]
  | _ :: r, _ :: q => by simp [noMixAll, noMix, noMix_bools r q]
theorem same_bools : ∀ ns ms : List Bool, PySem.Spec.sameAll (ns.map PyData.bool) (ms.map PyData.bool) = (ns == ms)
  | [], [] => by simp [PySem.Spec.sameAll]
  | [], _ :: _ => by simp [PySem.Spec.sameAll]
  | _ :: _, [] => by simp [PySem.Spec.sameAll]
  | n :: r, k :: q => by
    simp only [List.map_cons, PySem.Spec.sameAll, PySem.Spec.same, same_bools r q]
    rfl
theorem eq_boolsK {prog : Program} {w : World} {A : Around} {E : Value → Shared → Prop} {s : Shared} {a b : Addr} {vs us : List Value} {ns ms : List Bool} {Q : Value → Shared → Prop} (hl : s.heap.IsList a vs.toArray) (hi : BoolsAre vs ns) (hl' : s.heap.IsList b us.toArray) (hi' : BoolsAre us ms) (hu : A.units + 64 < cLine)
    (h : Q (.bool (ns == ms)) s) : wpAny (model prog w) A (compareOp .Eq (.ref a) (.ref b)) Q E s :=
  eq_dataH_same (reads_of_bools hl hi) (reads_of_bools hl' hi') (shaped_bools ns) (shaped_bools ms) hu (by simp only [noMix]; exact noMix_bools ns ms) (by simp only [PySem.Spec.same]; rw [same_bools]; exact h)
theorem eq_true1 {prog : Program} {w : World} {A : Around} {E : Value → Shared → Prop} {s : Shared} {h₀ : Heap} {L a b : Addr} {vs : List Value} {n nb : Nat} {bs : List Bool} {news : List (Addr × Obj)} {Q : Value → Shared → Prop} (N : News h₀ L s.heap news) (ha : (a, W.listOf vs.toArray n) ∈ news) (hb : (b, W.listOf #[.bool true] nb) ∈ news) (hi : BoolsAre vs bs) (hu : A.units + 64 < cLine)
    (h : Q (.bool (bs == [true])) s) : wpAny (model prog w) A (compareOp .Eq (.ref a) (.ref b)) Q E s :=
  eq_boolsK (us := [.bool true]) ⟨_, (N _ ha).1, rfl, n, rfl⟩ hi ⟨_, (N _ hb).1, rfl, nb, rfl⟩ (.cons _ .nil) hu h
theorem mul_fill {a b : Int} {x : Int} (h : a - b ≤ 5) : IntMulOk x (2 ^ (a - b).toNat) := by
  refine IntMulOk.of_right ?_
  have e : (a - b).toNat ≤ 5 := by omega
  generalize (a - b).toNat = k at e
  rw [intBits_le_iff]
  rcases (show k = 0 ∨ k = 1 ∨ k = 2 ∨ k = 3 ∨ k = 4 ∨ k = 5 by omega) with rfl | rfl | rfl | rfl | rfl | rfl <;> decide
end Mine
end
section
open PySem PySem.W PySem.Spec PySem.Calls PyProof.Rows
set_option maxRecDepth 100000
set_option maxHeartbeats 8000000
namespace Mine
theorem byteArr_ints : ∀ (ns : List Int), (∀ n ∈ ns, 0 ≤ n ∧ n < 256) → KBw.bInts (byteArr ns) = ns := by
  intro ns h
  unfold KBw.bInts byteArr
  rw [List.map_map]
  conv => rhs; rw [← List.map_id ns]
  refine List.map_congr_left fun n hn => ?_
  have := h n hn
  show ((n.toNat.toUInt8.toNat : Nat) : Int) = n
  rw [UInt8.toNat_ofNat']
  omega
def txtOf (l : List Int) : Str := ⟨(l.map Int.toNat).toArray⟩
theorem byteArr_txt (l : List Int) (h : ∀ n ∈ l, 0 ≤ n ∧ n < 128) : (⟨(byteArr l).map (·.toNat)⟩ : Str) = txtOf l := by
  unfold txtOf byteArr
  congr 1
  rw [List.map_toArray, List.map_map]
  congr 1
  refine List.map_congr_left fun n hn => ?_
  have := h n hn
  show n.toNat.toUInt8.toNat = n.toNat
  rw [UInt8.toNat_ofNat']
  omega
theorem txt_length (l : List Int) : (txtOf l).length = l.length := by simp [txtOf, Str.length]
theorem byteArr_lt (l : List Int) (h : ∀ n ∈ l, 0 ≤ n ∧ n < 128) : ∀ i, i < (byteArr l).size → ((byteArr l).getD i 0).toNat < 128 := by
  intro i hi
  have hi' : i < l.length := by rwa [byteArr_size] at hi
  have e : (byteArr l).getD i 0 = (l[i]).toNat.toUInt8 := by
    unfold byteArr
    simp [Array.getD, hi']
  have := h l[i] (List.getElem_mem hi')
  rw [e, UInt8.toNat_ofNat']
  omega
theorem decode_enc {prog : Program} {w : World} {A : Around} {E : Value → Shared → Prop} {s : Shared} {t u : Tok} {Q : Value → Shared → Prop} {ns : List Int} (hsz : (encL ns).length ≤ 16777216) (h : ∀ t' k, Q (.str (txtOf (encL ns)) t') { s with toks := k }) :
    wpAny (model prog w) A (call (.builtin "bytes.decode") [.bytes (byteArr (encL ns)) t, .str (PySem.Str.ofString "ascii") u]) Q E s :=
  decode_asc (byteArr_lt _ (enc_range ns)) (by rw [byteArr_size]; exact hsz) (by rw [byteArr_txt _ (enc_range ns)]; exact h)
theorem enc_length (ns : List Int) : (encL ns).length = 4 * ((ns.length + 2) / 3) := by
  unfold encL digs fillN
  rw [List.length_append, List.length_map, dig_length, List.length_replicate]
  unfold sgnN
  omega
noncomputable def sgnT (ns : List Int) : List Int := (digs ns).map b64c
theorem sgnT_length (ns : List Int) : (sgnT ns).length = (8 * ns.length + 5) / 6 := by
  unfold sgnT digs
  rw [List.length_map, dig_length]
  rfl
theorem sgn_ne (ns : List Int) : ∀ c ∈ (sgnT ns).map Int.toNat, c ≠ 61 := by
  intro c hc
  obtain ⟨x, hx, rfl⟩ := List.mem_map.mp hc
  obtain ⟨d, hd, rfl⟩ := List.mem_map.mp hx
  obtain ⟨h0, h1⟩ := dig_mem _ _ _ hd
  exact b64c_ne d h0 h1
theorem enc_txt (ns : List Int) : txtOf (encL ns) = ⟨((sgnT ns).map Int.toNat ++ List.replicate (fillN ns / 2) 61).toArray⟩ := by
  unfold txtOf encL sgnT
  rw [List.map_append, List.map_replicate]
  rfl
theorem rstrip_enc {prog : Program} {w : World} {A : Around} {E : Value → Shared → Prop} {s : Shared} {t u : Tok} {Q : Value → Shared → Prop} {ns : List Int} (hsz : (encL ns).length ≤ 16777216) (h : ∀ t' k, Q (.str (txtOf (sgnT ns)) t') { s with toks := k }) :
    wpAny (model prog w) A (call (.builtin "str.rstrip") [.str (txtOf (encL ns)) t, .str (PySem.Str.ofString "=") u]) Q E s := by
  refine SC.rstripChars (fun t' k => ?_) (by rw [txt_length, sizeLine_eq]; exact hsz)
  have e : Txt.rstripChars (txtOf (encL ns)) (PySem.Str.ofString "=") = txtOf (sgnT ns) := by
    rw [enc_txt, rstrip_eq _ _ (sgn_ne ns)]
    rfl
  rw [e]
  exact h t' k
theorem st_num0 : (0 : Int) = num [] ∧ (0 : Int) ≤ 0 ∧ (0 : Int) < 1208925819614629174706176 := ⟨rfl, by omega, by omega⟩
theorem num_80 {l : List Int} (hr : ∀ n ∈ l, 0 ≤ n ∧ n < 256) (hb : l.length ≤ 10) : 0 ≤ num l ∧ num l < 1208925819614629174706176 := by
  obtain ⟨a, b⟩ := num_bound l hr
  have c : (256 : Int) ^ l.length ≤ 256 ^ 10 := by
    have := Nat.pow_le_pow_right (n := 256) (by decide) hb
    exact_mod_cast this
  have d : (256 : Int) ^ 10 = 1208925819614629174706176 := by decide
  omega
theorem st_num {ns pre post : List Int} {n number : Int} (e : ns = pre ++ n :: post) (hr : ∀ n ∈ ns, 0 ≤ n ∧ n < 256) (hb : ns.length ≤ 10) (h : number = num pre) :
    number * 256 + n = num (pre ++ [n]) ∧ 0 ≤ number * 256 + n ∧ number * 256 + n < 1208925819614629174706176 := by
  have q : number * 256 + n = num (pre ++ [n]) := by rw [num_snoc, h]
  have r := num_80 (l := pre ++ [n]) (fun o ho => hr o (by
    rw [e]
    rcases List.mem_append.mp ho with x | x
    · exact List.mem_append_left _ x
    · rw [List.mem_singleton.mp x]; exact List.mem_append_right _ (.head _))) (by
    have := congrArg List.length e
    rw [List.length_append, List.length_cons] at this
    rw [List.length_append, List.length_singleton]
    omega)
  rw [← q] at r
  exact ⟨q, r⟩
theorem sbI_def (n : Int) : sbI n = if n = 0 then false else (Builtin.bitAnd n (n - 1) == 0) := rfl
abbrev SgS := List Value × List Bool × Nat × Int × Nat × Int × Nat × Obj × Option Value
theorem sign_loop {prog : Program} {w : World} {A : Around} {E : Value → Shared → Prop} {s : Shared} {env : Env} {h₀ : Heap} {body : List Stmt} {Q : Flow → Shared → Prop} {ns : List Int} {xv : Value} {m₀ : Str → Option Value} {lm ca : Addr} {oc : Obj} {v₀ : Option Value} {tr th : Tok}
    (S : PairSrcL prog w A E h₀ env.locals ItemKind.str (signs (txtOf (sgnT ns))) xv s m₀ [(lm, W.listOf #[] 0), (ca, oc)]) (ho : oc.data = .cell v₀) (hr : m₀ (Str.ofString "read") = some (.int 0 tr)) (hh : m₀ (Str.ofString "high") = some (.int (-1) th))
    (turn : ∀ (c : SgS) pre post n t u' (u : Str → Option Value) h tk own, digs ns = pre ++ n :: post → (0 ≤ n ∧ n < 64) → OwnOff own [lm, ca] → (LSm.BoolsAre c.1 c.2.1 ∧ c.2.2.2.2.2.2.2.1.data = .cell c.2.2.2.2.2.2.2.2) → (pre.length < (digs ns).length) → (0 ≤ c.2.2.2.1 ∧ c.2.2.2.1 < 19342813113834066795298816 ∧ c.2.1.length ≤ pre.length ∧ SgP (ns.length : Int) pre c.2.2.2.1 c.2.2.2.2.2.1 c.2.1) →
      Fr h₀ env.locals h (fun y => if y = Str.ofString "sign" then some (.str ⟨#[(b64c n).toNat]⟩ t) else if y = Str.ofString "k" then some (.int (pre.length : Int) u') else kstB (fun z => if [Str.ofString "k", Str.ofString "powers"].contains z then u z else m₀ z) [(Str.ofString "read", .int c.2.2.2.1 c.2.2.2.2.1), (Str.ofString "high", .int c.2.2.2.2.2.1 c.2.2.2.2.2.2.1)] y) → News h₀ env.locals h ([(lm, W.listOf c.1.toArray c.2.2.1), (ca, c.2.2.2.2.2.2.2.1)] ++ own) →
      wpAny (model prog w) A (execs body env) (InvPostN h₀ env.locals (KstS (fun c : SgS => [(lm, W.listOf c.1.toArray c.2.2.1), (ca, c.2.2.2.2.2.2.2.1)]) (fun c => [(Str.ofString "read", .int c.2.2.2.1 c.2.2.2.2.1), (Str.ofString "high", .int c.2.2.2.2.2.1 c.2.2.2.2.2.2.1)]) (fun c => LSm.BoolsAre c.1 c.2.1 ∧ c.2.2.2.2.2.2.2.1.data = .cell c.2.2.2.2.2.2.2.2) (Str.ofString "sign") [Str.ofString "k", Str.ofString "powers"] m₀
        (fun pre c => 0 ≤ c.2.2.2.1 ∧ c.2.2.2.1 < 19342813113834066795298816 ∧ c.2.1.length ≤ pre.length ∧ SgP (ns.length : Int) pre c.2.2.2.1 c.2.2.2.2.2.1 c.2.1) (pre ++ [n])) own [lm, ca] { s with heap := h, toks := tk } Q) E { s with heap := h, toks := tk })
    (done : ∀ (c : SgS) (u : Str → Option Value) h tk, (LSm.BoolsAre c.1 c.2.1 ∧ c.2.2.2.2.2.2.2.1.data = .cell c.2.2.2.2.2.2.2.2) → (0 ≤ c.2.2.2.1 ∧ c.2.2.2.1 < 19342813113834066795298816 ∧ c.2.1.length ≤ (digs ns).length ∧ SgP (ns.length : Int) (digs ns) c.2.2.2.1 c.2.2.2.2.2.1 c.2.1) →
      Fr h₀ env.locals h (fun y => if y = Str.ofString "sign" then u y else kstB (fun z => if [Str.ofString "k", Str.ofString "powers"].contains z then u z else m₀ z) [(Str.ofString "read", .int c.2.2.2.1 c.2.2.2.2.1), (Str.ofString "high", .int c.2.2.2.2.2.1 c.2.2.2.2.2.2.1)] y) → News h₀ env.locals h [(lm, W.listOf c.1.toArray c.2.2.1), (ca, c.2.2.2.2.2.2.2.1)] → Q .next { s with heap := h, toks := tk }) :
    wpAny (model prog w) A (pyIter xv) (fun it s₂ => PairAt3 prog w A h₀ env (Str.ofString "k") (Str.ofString "sign") body Q E it s₂) E s := by
  refine kst_enum (σ := SgS) (D := digs ns) (fun c : SgS => [(lm, W.listOf c.1.toArray c.2.2.1), (ca, c.2.2.2.2.2.2.2.1)]) (fun c => [(Str.ofString "read", .int c.2.2.2.1 c.2.2.2.2.1), (Str.ofString "high", .int c.2.2.2.2.2.1 c.2.2.2.2.2.2.1)]) (fun c => LSm.BoolsAre c.1 c.2.1 ∧ c.2.2.2.2.2.2.2.1.data = .cell c.2.2.2.2.2.2.2.2) [Str.ofString "k", Str.ofString "powers"]
    (fun pre c => 0 ≤ c.2.2.2.1 ∧ c.2.2.2.1 < 19342813113834066795298816 ∧ c.2.1.length ≤ pre.length ∧ SgP (ns.length : Int) pre c.2.2.2.1 c.2.2.2.2.2.1 c.2.1) ([], [], 0, 0, tr, -1, th, oc, v₀) (S.at env rfl) ?_ ?_ ?_ ?_ ?_ ?_
  · unfold sgnT txtOf
    rw [signs_txt, List.map_map]
    rfl
  · exact ⟨.nil, ho⟩
  · intro p hp
    rcases List.mem_cons.mp hp with rfl | hp
    · exact hr
    · rw [List.mem_singleton.mp hp]; exact hh
  · show (0 : Int) ≤ 0 ∧ (0 : Int) < 19342813113834066795298816 ∧ ([] : List Bool).length ≤ ([] : List Int).length ∧ SgP (ns.length : Int) [] 0 (-1) []
    exact ⟨by omega, by omega, Nat.le_refl _, sg_start _⟩
  · intro c pre post n t u' u h tk own e hn ho hf hp F N
    exact turn c pre post n t u' u h tk own e (dig_mem _ _ _ hn) ho hf (by rw [e, List.length_append, List.length_cons]; omega) hp F N
  · intro c u h tk hf hp F N
    exact done c u h tk hf hp F N
theorem index_rule {prog : Program} {w : World} {A : Around} {E : Value → Shared → Prop} {s : Shared} {t u : Tok} {Q : Value → Shared → Prop} {d : Int} (h : 0 ≤ d ∧ d < 64) (hq : Q (.int d s.toks) { s with toks := s.toks + 1 }) :
    wpAny (model prog w) A (call (.builtin "str.index") [.str (Str.ofString "ABCDEFGHIJKLMNOPQRSTUVWXYZabcdefghijklmnopqrstuvwxyz0123456789+/") t, .str ⟨#[(b64c d).toNat]⟩ u]) Q E s := by
  refine SC.index (rest := []) (index_eq d h.1 h.2) ?_
  have e : ((d.toNat : Nat) : Int) = d := by omega
  rw [e]
  exact hq
theorem no1 {ns : List Int} (h : ((txtOf (encL ns)).length : Int) ≠ ((ns.length : Int) + 2).fdiv 3 * 4) : False := by
  rw [txt_length, enc_length, Int.fdiv_eq_ediv_of_nonneg _ (by decide)] at h
  omega
theorem no2 {ns : List Int} (h : ((txtOf (encL ns)).length : Int) - ((txtOf (sgnT ns)).length : Int) ≠ (6 * ((txtOf (sgnT ns)).length : Int) - 8 * (ns.length : Int)).fdiv 2) : False := by
  rw [txt_length, enc_length, txt_length, sgnT_length, Int.fdiv_eq_ediv_of_nonneg _ (by decide)] at h
  omega
theorem in_pow {prog : Program} {w : World} {A : Around} {E : Value → Shared → Prop} {s : Shared} {l : Addr} {vs : List Value} {n : Int} {t : Tok} {Q : Value → Shared → Prop}
    (hl : s.heap.IsList l vs.toArray) (hi : IntsAre vs [1, 2, 4, 8, 16, 32]) (hn : 0 ≤ n ∧ n < 64) (h : Q (.bool (sbI n)) s) : wpAny (model prog w) A (compareOp .In (.int n t) (.ref l)) Q E s :=
  in_list_ints hl hi (by rw [in_sb n hn]; exact h)
theorem app_size {ns pre post : List Int} {n : Int} {vs : List Value} {bs : List Bool} (hb : LSm.BoolsAre vs bs) (hl : bs.length ≤ pre.length) (hd : digs ns = pre ++ n :: post) (hn : ns.length ≤ 10) : vs.toArray.size ≤ sizeLine := by
  have e1 : vs.length = bs.length := by
    clear hl
    induction hb with
    | nil => rfl
    | cons _ _ ih => rw [List.length_cons, List.length_cons, ih]
  have e2 : (digs ns).length = sgnN ns := dig_length _ _
  have e3 := congrArg List.length hd
  rw [e2, List.length_append, List.length_cons] at e3
  unfold sgnN at e3
  rw [List.size_toArray, sizeLine_eq]
  omega
theorem upd_mark {a b d c m k : Addr} {oa ob od oc om om' ok : Obj} {own : List (Addr × Obj)} (h1 : @LT.lt Nat _ b a ∧ @LT.lt Nat _ d a ∧ @LT.lt Nat _ c a ∧ @LT.lt Nat _ m a ∧ @LT.lt Nat _ k a ∧ AllLt a own)
    (h2 : @LT.lt Nat _ d b ∧ @LT.lt Nat _ c b ∧ @LT.lt Nat _ m b ∧ @LT.lt Nat _ k b ∧ AllLt b own) (h3 : @Ne Nat c d ∧ @Ne Nat m d ∧ @Ne Nat k d ∧ LCg.Off1 d own) (h4 : @LT.lt Nat _ m c ∧ @LT.lt Nat _ k c ∧ AllLt c own) (h5 : @LT.lt Nat _ k m) (h6 : OwnOff own [m, k]) :
    Upd m om om' ((a, oa) :: (b, ob) :: (d, od) :: (c, oc) :: (m, om) :: (k, ok) :: own) ((a, oa) :: (b, ob) :: (d, od) :: (c, oc) :: (m, om') :: (k, ok) :: own) :=
  .tail (Nat.ne_of_gt h1.2.2.2.1) (.tail (Nat.ne_of_gt h2.2.2.1) (.tail (Ne.symm h3.2.1) (.tail (Nat.ne_of_gt h4.1) (.head (List.forall_mem_cons.mpr ⟨Nat.ne_of_lt h5, h6.ne (.head _)⟩)))))
local macro_rules | `(tactic| walk_at "call builtin:list.append") => `(tactic| (k_here; (refine' append_K ?k1 ?k2 ?k3 ?_ ?z); (case k1 => k_asm); (case k2 => k_asm); (case k3 => exact upd_mark (by assumption) (by assumption) (by assumption) (by assumption) (by assumption) (by assumption)); (case z => exact app_size (by assumption) (by assumption) (by assumption) (by assumption)); intro h' F' N'; (try dsimp only at N'); (try k_sweep)))
theorem st_z {ns pre post : List Int} {n read high : Int} {bs : List Bool} (hD : digs ns = pre ++ n :: post) (hn : 0 ≤ n ∧ n < 64) (hb : ns.length ≤ 10) (hr : 0 ≤ read) (hl : bs.length ≤ pre.length) (h : SgP (ns.length : Int) pre read high bs) (hz : ¬ 0 < n) :
    0 ≤ read * 64 + n ∧ read * 64 + n < 19342813113834066795298816 ∧ bs.length ≤ (pre ++ [n]).length ∧ SgP (ns.length : Int) (pre ++ [n]) (read * 64 + n) high bs := by
  have q := sg_zero h hr (show n = 0 by omega)
  have r := rd_84 hD hb
  rw [← q.1] at r
  exact ⟨r.1, r.2, by rw [List.length_append]; omega, q⟩
theorem st_k {ns pre post : List Int} {n read high : Int} {bs : List Bool} (hD : digs ns = pre ++ n :: post) (hn : 0 ≤ n ∧ n < 64) (hb : ns.length ≤ 10) (hr : 0 ≤ read) (hl : bs.length ≤ pre.length) (h : SgP (ns.length : Int) pre read high bs) (hz : 0 < n) (hh : 0 ≤ high) :
    0 ≤ read * 64 + n ∧ read * 64 + n < 19342813113834066795298816 ∧ (bs ++ [sbI n]).length ≤ (pre ++ [n]).length ∧ SgP (ns.length : Int) (pre ++ [n]) (read * 64 + n) high (bs ++ [sbI n]) := by
  have q := sg_keep h hr hz hn.2 hh
  have r := rd_84 hD hb
  rw [← q.1] at r
  exact ⟨r.1, r.2, by rw [List.length_append, List.length_append, List.length_singleton, List.length_singleton]; omega, q⟩
theorem st_n {ns pre post : List Int} {n read high : Int} {bs : List Bool} (hD : digs ns = pre ++ n :: post) (hn : 0 ≤ n ∧ n < 64) (hb : ns.length ≤ 10) (hr : 0 ≤ read) (hl : bs.length ≤ pre.length) (h : SgP (ns.length : Int) pre read high bs) (hz : 0 < n) (hh : ¬ 0 ≤ high) :
    0 ≤ read * 64 + n ∧ read * 64 + n < 19342813113834066795298816 ∧ (bs ++ [sbI n]).length ≤ (pre ++ [n]).length ∧ SgP (ns.length : Int) (pre ++ [n]) (read * 64 + n) (8 * (ns.length : Int) - 6 * (pre.length : Int) - 7 + (Builtin.Int.intBits n : Int)) (bs ++ [sbI n]) := by
  have hl2 := congrArg List.length hD
  have hl3 : (digs ns).length = sgnN ns := dig_length _ _
  rw [hl3, List.length_append, List.length_cons] at hl2
  unfold sgnN at hl2
  have q := sg_new h hr hz hn.2 (by omega) (by omega)
  have r := rd_84 hD hb
  rw [← q.1] at r
  exact ⟨r.1, r.2, by rw [List.length_append, List.length_append, List.length_singleton, List.length_singleton]; omega, q⟩
theorem same_in {z : Str} {u m₀ : Str → Option Value} {x4 x5 : Option Value} {a b a1 b1 : Value} (h1 : z ≠ Str.ofString "sign") (h2 : ∀ p ∈ [(Str.ofString "read", a), (Str.ofString "high", b)], z ≠ p.1) (h3 : [Str.ofString "k", Str.ofString "powers"].contains z = false) :
    (if z = Str.ofString "sign" then x4 else if z = Str.ofString "k" then x5 else kstB (fun z => if [Str.ofString "k", Str.ofString "powers"].contains z then u z else m₀ z) [(Str.ofString "read", a1), (Str.ofString "high", b1)] z) = m₀ z := by
  have c1 : z ≠ Str.ofString "read" := h2 _ (.head _)
  have c2 : z ≠ Str.ofString "high" := h2 _ (.tail _ (.head _))
  have c3 : z ≠ Str.ofString "k" := by
    intro e
    subst e
    simp at h3
  rw [if_neg h1, if_neg c3]
  unfold kstB
  rw [if_neg c1]
  unfold kstB
  rw [if_neg c2]
  show (if [Str.ofString "k", Str.ofString "powers"].contains z = true then u z else m₀ z) = m₀ z
  rw [if_neg (by rw [h3]; exact Bool.false_ne_true)]
theorem same_z {z : Str} {u m₀ : Str → Option Value} {x2 x3 x4 x5 : Option Value} {a b a1 b1 : Value} (h1 : z ≠ Str.ofString "sign") (h2 : ∀ p ∈ [(Str.ofString "read", a), (Str.ofString "high", b)], z ≠ p.1) (h3 : [Str.ofString "k", Str.ofString "powers"].contains z = false) :
    (if z = Str.ofString "read" then x2 else if z = Str.ofString "powers" then x3 else (fun z => if z = Str.ofString "sign" then x4 else if z = Str.ofString "k" then x5 else kstB (fun z => if [Str.ofString "k", Str.ofString "powers"].contains z then u z else m₀ z) [(Str.ofString "read", a1), (Str.ofString "high", b1)] z) z) = m₀ z := by
  have c1 : z ≠ Str.ofString "read" := h2 _ (.head _)
  have c3 : z ≠ Str.ofString "powers" := by
    intro e
    subst e
    simp at h3
  rw [if_neg c1, if_neg c3]
  exact same_in h1 h2 h3
theorem same_h {z : Str} {u m₀ : Str → Option Value} {x1 x2 x3 x4 x5 : Option Value} {a b a1 b1 : Value} (h1 : z ≠ Str.ofString "sign") (h2 : ∀ p ∈ [(Str.ofString "read", a), (Str.ofString "high", b)], z ≠ p.1) (h3 : [Str.ofString "k", Str.ofString "powers"].contains z = false) :
    (if z = Str.ofString "high" then x1 else if z = Str.ofString "read" then x2 else if z = Str.ofString "powers" then x3 else (fun z => if z = Str.ofString "sign" then x4 else if z = Str.ofString "k" then x5 else kstB (fun z => if [Str.ofString "k", Str.ofString "powers"].contains z then u z else m₀ z) [(Str.ofString "read", a1), (Str.ofString "high", b1)] z) z) = m₀ z := by
  have c2 : z ≠ Str.ofString "high" := h2 _ (.tail _ (.head _))
  rw [if_neg c2]
  exact same_z h1 h2 h3
local macro_rules | `(tactic| walk_at "InvEndN") => `(tactic| (goal_has Mine.SgP; (try dsimp only); (rename News _ _ _ _ => nE'); (try simp only [List.push_toArray] at nE'); (refine' kst_end (σ := SgS) ⟨_, _, _, _, _, _, _, _, _⟩ (by assumption) nE' ?e1 ?e2 (by rfl) ?e4 ?e5 ?e6 ?e7); (case e1 => kst_in); (case e2 => (intro p hp; kst_mem)); (case e4 => (dsimp only; exact ⟨by assumption, by assumption⟩)); (case e5 => kst_all); (case e6 => (intro z h1 h2 h3; first | exact same_h h1 h2 h3 | exact same_z h1 h2 h3)); (case e7 => (dsimp only; first | exact st_k (by assumption) (by assumption) (by assumption) (by assumption) (by assumption) (by assumption) (by assumption) (by assumption) | exact st_n (by assumption) (by assumption) (by assumption) (by assumption) (by assumption) (by assumption) (by assumption) (by assumption) | exact st_z (by assumption) (by assumption) (by assumption) (by assumption) (by assumption) (by assumption) (by assumption)))))
theorem fill_le (ns : List Int) : 6 * ((txtOf (sgnT ns)).length : Int) - 8 * (ns.length : Int) ≤ 5 := by rw [txt_length, sgnT_length]; omega
theorem fill_eq (ns : List Int) : (6 * ((txtOf (sgnT ns)).length : Int) - 8 * (ns.length : Int)).toNat = fillN ns := by
  rw [txt_length, sgnT_length]; unfold fillN sgnN; omega
theorem fin1 {ns : List Int} {read high : Int} {bs : List Bool} (hr : ∀ n ∈ ns, 0 ≤ n ∧ n < 256) (h : SgP (ns.length : Int) (digs ns) read high bs) :
    read = num ns * 2 ^ (6 * ((txtOf (sgnT ns)).length : Int) - 8 * (ns.length : Int)).toNat ∧ (Builtin.Int.intBits (num ns) : Int) - 1 = high ∧ sbI (num ns) = (bs == [true]) := by
  rw [fill_eq]
  exact sg_final hr h
section
variable {prog : Program} {w : World} {A : Around} {E : Value → Shared → Prop} {s : Shared} {Q : Value → Shared → Prop}
theorem eq_tt {a b : Int} {t u : Tok} (e : a = b) (h : Q (.bool true) s) : wpAny (model prog w) A (compareOp .Eq (.int a t) (.int b u)) Q E s := by
  subst e
  refine PyProof.Rows.eq_int ?_
  rw [beq_self_eq_true]
  exact h
theorem is_tt {a b : Bool} (e : a = b) (h : Q (.bool true) s) : wpAny (model prog w) A (compareOp .Is (.bool a) (.bool b)) Q E s := by
  subst e
  exact wpAny_is_self (by rfl) h
end
local macro_rules | `(tactic| walk_at "binaryOp Mult int int") => `(tactic| ((with_reducible show wpAny _ _ (binaryOp _ (Value.int _ _) (Value.int (2 ^ Int.toNat (_ - _)) _)) _ _ _); (refine PyProof.Rows.mul_int ?_ (mul_fill (fill_le _)))))
local macro_rules | `(tactic| walk_at "compareOp Eq int int") => `(tactic| (refine eq_tt (by assumption) ?_))
local macro_rules | `(tactic| walk_at "compareOp Is bool bool") => `(tactic| (refine is_tt (by assumption) ?_))
theorem units_ok {dp un : Nat} {gd : Option (List Code)} {cn : Str} {cs : Scope} {L a : Addr} {ccd : Value} {cl : List (Str × Addr)} {outer : List Env} {env : Env} (hu : un + 100 < cLine) : ((ktrTop dp un gd cn cs L a ccd cl outer).deeper env).units + 64 < cLine := by
  rw [units_deeper]
  show un + 3 + 64 < cLine
  omega
local macro_rules | `(tactic| walk_at "compareOp Eq ref ref") => `(tactic| (k_here; (k_dflt (refine' eq_true1 ?k1 ?k2 ?k3 ?k4 ?k5 ?_; (case k1 => k_asm); (case k2 => exact List.Mem.tail _ (List.Mem.head _)); (case k3 => exact List.Mem.head _); (case k4 => assumption); (case k5 => exact units_ok (by assumption))))))
local macro_rules | `(tactic| walk_at "compareOp In int ref") => `(tactic| (refine in_pow (by assumption) (by assumption) (by assumption) ?_))
local macro_rules | `(tactic| walk_at "compareOp IsNot bool bool") => `(tactic| (refine wpAny_isNot_self (by rfl) ?_))
local macro_rules | `(tactic| walk_at "truthy bool") => `(tactic| ((with_reducible show wpAny _ _ (truthy (Value.bool (_ != _))) _ _ _); (rw [bne_self_eq_false])))
local macro_rules | `(tactic| walk_at "CompSrc") => `(tactic| k_extra "CompSrc")
local macro_rules | `(tactic| walk_at "And") => `(tactic| ((with_reducible show KCfEl _ _ _ _ ∧ _); exact ⟨⟨rfl, 0, rfl⟩, rfl⟩))
local macro_rules | `(tactic| walk_at "call builtin:list.count") => `(tactic| (k_here; (refine cnt_rule (by k_asm) (by k_mem) (by assumption) (by assumption) ?_)))
local macro_rules | `(tactic| walk_at "call builtin:str.index") => `(tactic| (k_here; (refine index_rule (by assumption) ?_)))
local macro_rules | `(tactic| walk_at "call builtin:str.rstrip") => `(tactic| (k_here; (refine rstrip_enc (by rw [enc_length]; omega) ?_); intro _ _))
local macro_rules | `(tactic| k_room) => `(tactic| ktr_room)
local macro_rules | `(tactic| walk_at "call ref") => `(tactic| (k_here; (k_dflt (refine' PCall.useK (benc _ _ _ _ _ _ _ ?c1 ?c2) ?k1 ?k2 ?k3 ?k4 ?k5 ?k6 ?k7 ?k8 ?k9 ?_; (case c1 => exact byteArr_ints _ (by assumption)); (case c2 => assumption); (case k1 => k_asm); (case k2 => k_asm); (case k3 => k_asm); (case k4 => k_asm); (case k5 => k_asm); (case k6 => first | exact rfl | assumption); (case k7 => trivial); (case k8 => ktr_room); (case k9 => ktr_units))); intro t9 h9 tk9 F9 N9; (try dsimp only); (try k_fold)))
local macro_rules | `(tactic| walk_at "call ref") => `(tactic| (k_here; (with_reducible show wpAny _ _ (call (Value.ref _) [Value.int _ _]) _ _ _); (k_dflt (first
  | (refine' PCall.useK (single_bit _ _ _ _ _ _) ?k1 ?k2 ?k3 ?k4 ?k5 ?k6 ?k7 ?k8 ?k9 ?_; (case k1 => k_asm); (case k2 => k_asm); (case k3 => k_asm); (case k4 => k_asm); (case k5 => k_asm); (case k6 => first | exact rfl | assumption); (case k7 => trivial); (case k8 => ktr_room); (case k9 => ktr_units))
  | (refine' PCall.useK (high_bit _ _ _ _ _ _) ?k1 ?k2 ?k3 ?k4 ?k5 ?k6 ?k7 ?k8 ?k9 ?_; (case k1 => k_asm); (case k2 => k_asm); (case k3 => k_asm); (case k4 => k_asm); (case k5 => k_asm); (case k6 => first | exact rfl | assumption); (case k7 => trivial); (case k8 => ktr_room); (case k9 => ktr_units)))); intro t9 h9 tk9 F9 N9; (try dsimp only); (try simp only [← sbI_def]); (try k_fold)))
local macro_rules | `(tactic| walk_at "call builtin:bytes.decode") => `(tactic| (k_here; (refine decode_enc (by rw [enc_length]; omega) ?_); intro _ _))
theorem lawH (w mean mg mb) (l : Addr) (vs : List Value) (ns : List Int) (hi : IntsAre vs ns) (hr : ∀ n ∈ ns, 0 ≤ n ∧ n < 256) (hb : ns.length ≤ 10) : PCall w mean mg mb 70 4 100 (fun h => h.IsList l vs.toArray) [.ref l] [] (fun _ => .bool true) := by
  w_top off
  k_with_none
  unfold PCall
  k_fill
  intro dp un gd cn cs a ccd cl outer A₀ base h₀ L m s Q E B F X T hk hok hd hu hret
  refine wpAny_call ?_
  (refine' enterC ?k1 ?k2 ?k3 ?k5 ?kA ?kF ?kK ?k6 ?k7 ?k8 ?k9 ?kB ?kD ?_ ?c2 ?c3 ?c4; (case kA => exact rfl); (case kF => exact rfl); (case kK => assumption); (case k1 => k_asm); (case k2 => k_asm); (case k3 => k_asm); (case k5 => k_asm); (case k6 => k_is); (case k7 => k_is); (case k8 => ktr_room); (case k9 => first | exact BindsTo.of_eq rfl | exact binds_K (by k_in) rfl (by k_is) rfl rfl rfl); (case kB => exact rfl); (case kD => decide +kernel); (case c2 => exact rfl); (case c3 => exact rfl); (case c4 => exact rfl); k_whole; intro g' L' h' tk' cells' kp' F' N' Y' B' X' T'; (have hlg : g'.IsList l vs.toArray := (by obtain ⟨o9, ho9, r9⟩ := hok; exact ⟨o9, kp' _ _ ho9, r9⟩)); k_cells Y'; (try simp only [List.cons_append, List.nil_append] at N'); (try dsimp only); (try k_lift B'); (try k_fold))
  have hlW : (txtOf (encL ns)).length = 4 * ((ns.length + 2) / 3) := by rw [txt_length, enc_length]
  have hlG : (txtOf (sgnT ns)).length = (8 * ns.length + 5) / 6 := by rw [txt_length, sgnT_length]
  k_with "state" => first | exact st_num0 | exact st_num (by assumption) (by assumption) (by assumption) (by assumption)
  k_with "pyIter ref" => k_state (fun pre number => number = num pre ∧ 0 ≤ number ∧ number < 1208925819614629174706176) "number"
  k_steps
  · exact (no1 (by assumption)).elim
  · exact (no2 (by assumption)).elim
  rename _ = num ns => eN
  subst eN
  refine sign_loop (by assumption) (by assumption) rfl rfl ?_ ?_
  · rintro ⟨vs1, bs1, nn1, read1, tr1, high1, th1, oc1, vo1⟩ pre post n t u1 u h tk own hD hn hoff ⟨hbo, hoc⟩ hlt ⟨hr0, hr1, hbl, hsg⟩ F1 N1
    dsimp only at *
    have hbo3 := boolsA (b := sbI n) hbo
    simp only [List.cons_append, List.nil_append] at N1
    try k_fold
    k_with "CompSrc" => (k_here; k_dflt (refine LCg.CompSrc.ledger (by rfl) (by k_asm) (by k_asm) (by k_mem) (by kcf_size) ?_; intro g9; (refine' kcb_list (fun k9 => decide (k9 ≤ n)) (by first | assumption | l_ints) (fun k' t' I' oI' C' oC' D' m' ys' h' tk' E' hk' hC' hx' F' N' off' ne' => ?_) (fun ys9 hB9 => ?_)); (all_goals (try (simp only [LCg.Off3, and_true] at off'))); (all_goals (try k_fold))))
    k_steps
  · rintro ⟨vs1, bs1, nn1, read1, tr1, high1, th1, oc1, vo1⟩ u h tk ⟨hbo, hoc⟩ ⟨hr0, hr1, hbl, hsg⟩ F1 N1
    dsimp only at *
    obtain ⟨f1, f2, f3⟩ := fin1 hr hsg
    try k_fold
    k_steps
    exact pend (s := s) (Q := Q) (t := 0) hret kp' (by assumption) rfl
end Mine
end
section
open PySem PySem.W PySem.Spec PySem.Calls PyProof.Rows
set_option maxRecDepth 100000
namespace Mine
theorem oct_rng (x : Int) : 0 ≤ [0, 0, 2 ^ ((x.fdiv 4).fmod 8).toNat, (x.fdiv 4).fmod 256].getD (x.fmod 4).toNat 0 ∧ [0, 0, 2 ^ ((x.fdiv 4).fmod 8).toNat, (x.fdiv 4).fmod 256].getD (x.fmod 4).toNat 0 < 256 := by
  have e1 : (x.fdiv 4).fmod 256 = x.fdiv 4 % 256 := Int.fmod_eq_emod_of_nonneg _ (by decide)
  have e2 : (x.fdiv 4).fmod 8 = x.fdiv 4 % 8 := Int.fmod_eq_emod_of_nonneg _ (by decide)
  have e3 : x.fmod 4 = x % 4 := Int.fmod_eq_emod_of_nonneg _ (by decide)
  rw [e1, e2, e3]
  have hp : 0 ≤ (2 : Int) ^ (x.fdiv 4 % 8).toNat ∧ (2 : Int) ^ (x.fdiv 4 % 8).toNat < 256 := by
    have h : (x.fdiv 4 % 8).toNat ≤ 7 := by omega
    generalize (x.fdiv 4 % 8).toNat = k at h
    rcases (show k = 0 ∨ k = 1 ∨ k = 2 ∨ k = 3 ∨ k = 4 ∨ k = 5 ∨ k = 6 ∨ k = 7 by omega) with rfl | rfl | rfl | rfl | rfl | rfl | rfl | rfl <;> decide
  have hk : (x % 4).toNat < 4 := by omega
  generalize (x % 4).toNat = k at hk
  rcases (show k = 0 ∨ k = 1 ∨ k = 2 ∨ k = 3 by omega) with rfl | rfl | rfl | rfl
  · show (0 : Int) ≤ 0 ∧ (0 : Int) < 256; decide
  · show (0 : Int) ≤ 0 ∧ (0 : Int) < 256; decide
  · exact hp
  · show 0 ≤ x.fdiv 4 % 256 ∧ x.fdiv 4 % 256 < 256
    omega
theorem st_oct {xs pre : List Int} {x : Int} (h1 : xs.length = pre.length) (h2 : ∀ o ∈ xs, 0 ≤ o ∧ o < 256) :
    (xs ++ [[0, 0, 2 ^ ((x.fdiv 4).fmod 8).toNat, (x.fdiv 4).fmod 256].getD (x.fmod 4).toNat 0]).length = (pre ++ [x]).length ∧ ∀ o ∈ xs ++ [[0, 0, 2 ^ ((x.fdiv 4).fmod 8).toNat, (x.fdiv 4).fmod 256].getD (x.fmod 4).toNat 0], 0 ≤ o ∧ o < 256 := by
  refine ⟨by rw [List.length_append, List.length_append, h1]; rfl, fun o ho => ?_⟩
  rcases List.mem_append.mp ho with q | q
  · exact h2 o q
  · rw [List.mem_singleton.mp q]
    exact oct_rng x
theorem st_oct0 : ([] : List Int).length = ([] : List Int).length ∧ ∀ o ∈ ([] : List Int), 0 ≤ o ∧ o < 256 := ⟨rfl, fun _ h => nomatch h⟩
theorem all_tt {prog : Program} {w : World} {A : Around} {E : Value → Shared → Prop} {s : Shared} {h₀ : Heap} {L l : Addr} {m : Str → Option Value} {ys : List Value} {ks : List Int} {news : List (Addr × Obj)} {Q : Value → Shared → Prop} (F : Fr h₀ L s.heap m) (N : News h₀ L s.heap news) (hh : A.handled = none) (hm : (l, LCg.lst ys) ∈ news) (hb : LSm.BoolsAre ys (ks.map fun _ => true))
    (h : ∀ h' tk, Fr h₀ L h' m → News h₀ L h' news → Q (.bool true) { s with heap := h', toks := tk }) : wpAny (model prog w) A (call (.builtin "all") [.ref l]) Q E s := by
  refine LSm.all_bools (vs := ys) F N hh ⟨_, (N _ hm).1, rfl, _, rfl⟩ hb fun h' tk F' N' => ?_
  have e : (ks.map fun _ => true).all id = true := by
    rw [List.all_eq_true]
    intro x hx
    obtain ⟨_, _, rfl⟩ := List.mem_map.mp hx
    rfl
  rw [e]
  exact h h' tk F' N'
theorem wh_rng {xs : List Int} (h : ∀ o ∈ xs, 0 ≤ o ∧ o < 256) (k : Nat) : ∀ o ∈ (xs ++ [0, 64]).take k, 0 ≤ o ∧ o < 256 := by
  intro o ho
  rcases List.mem_append.mp (List.mem_of_mem_take ho) with q | q
  · exact h o q
  · rcases List.mem_cons.mp q with rfl | q
    · omega
    · rw [List.mem_singleton.mp q]; omega
theorem wh_len {xs ns : List Int} (h : xs.length = (ns.take 8).length) (k : Nat) : ((xs ++ [0, 64]).take k).length ≤ 10 := by
  rw [List.length_take, List.length_append, h, List.length_take]
  show min k (min 8 ns.length + 2) ≤ 10
  omega
end Mine
end
section
open PySem PySem.W PySem.Spec PySem.Calls PyProof.Rows
set_option maxRecDepth 100000
local macro_rules | `(tactic| walk_at "CompSrc") => `(tactic| k_extra "CompSrc")
local macro_rules | `(tactic| walk_at "KCfEl") => `(tactic| exact ⟨rfl, 0, rfl⟩)
local macro_rules | `(tactic| walk_at "Eq") => `(tactic| ((with_reducible show Value.bool _ = Value.bool _); exact rfl))
local macro_rules | `(tactic| walk_at "call builtin:all") => `(tactic| (k_here; (k_dflt (refine' Mine.all_tt ?k1 ?k2 ?k3 ?k4 ?k5 ?_; (case k1 => k_asm); (case k2 => k_asm); (case k3 => exact rfl); (case k4 => k_mem); (case k5 => assumption))); intro _ _ F' N'))
local macro_rules | `(tactic| walk_at "call ref") => `(tactic| (k_here; (with_reducible show wpAny _ _ (call (Value.ref 70) [Value.ref _]) _ _ _); (rename News _ _ _ _ => nE9); (k_dflt (refine' Mine.PCall.useK (Mine.lawH _ _ _ _ _ _ _ ?c1 ?c2 ?c3) ?k1 ?k2 ?k3 ?k4 ?k5 ?k6 ?k7 ?k8 ?k9 ?_; (case c1 => assumption); (case k7 => exact News.isList nE9 (.head _)); (case c2 => exact Mine.wh_rng (by assumption) _); (case c3 => exact Mine.wh_len (by assumption) _); (case k1 => k_asm); (case k2 => k_asm); (case k3 => k_asm); (case k4 => k_asm); (case k5 => k_asm); (case k6 => first | exact rfl | assumption); (case k8 => ktr_room); (case k9 => ktr_units))); intro t9 h9 tk9 F9 N9; (try dsimp only); (try k_fold)))
set_option maxRecDepth 100000 in
set_option maxHeartbeats 8000000 in
theorem PySem.Challenge.cw_pd0090_01_holds : PySem.Challenge.rw_pd0090_01.Holds := by
  w_top off
  k_with_none
  refine Mine.hd ?_
  k_with "pyIter ref" => k_state (fun pre octets => octets.length = pre.length ∧ ∀ o ∈ octets, 0 ≤ o ∧ o < 256) "octets"
  k_with "state" => first | exact Mine.st_oct (by assumption) (by assumption) | exact Mine.st_oct0
  k_with "CompSrc" => (k_here; k_dflt (refine LCg.CompSrc.range (by rfl) (by k_asm) (by k_asm) (by assumption) (by exact small_one (by kcf_bnd) (by kcf_bnd) (by kcf_bnd) (by kcf_bnd)) (by first | exact rangeSize_nat _ _ | rfl) (by (rw [PySem.sizeLine_eq]; omega)) ?_; intro g9; (refine' Mine.kcb_range (fun _ => true) (fun k' t' I' oI' C' oC' D' m' ys' h' tk' E' hlo' hhi' hC' hx' F' N' off' ne' => ?_) (fun ys9 hB9 => ?_)); (all_goals (try (simp only [LCg.Off3, and_true] at off'))); (all_goals (try k_fold))))
  k_go
end
