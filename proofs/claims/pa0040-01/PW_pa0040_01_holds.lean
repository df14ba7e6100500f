import PyProof.Rows.All
import Wide.All
import OpenK.AllK
import Wide.FinOn
import PySem.Challenge.RW_pa0040_01
set_option Elab.async false
set_option linter.unusedVariables false
set_option linter.unusedSimpArgs false
section
open PySem PySem.W PyProof.Rows
namespace Mine
set_option maxRecDepth 100000 in
set_option maxHeartbeats 8000000 in
open_top hd for PySem.Challenge.rw_pa0040_01
/-- the walk of the parts is no walk from the top -/
theorem top_off : True := by
  w_top off
  trivial
end Mine
end
section
namespace Mine
theorem ediv2 {a b c d : Int} (hb : 0 ≤ b) (e : b * c = d) : a / b / c = a / d := by
  rw [← e, Int.ediv_ediv_of_nonneg hb]
/-- the quotient, from what is left over -/
theorem div_is {n d q r : Int} (h : d * q + r = n) (h0 : 0 ≤ r) (h1 : r < d) : n / d = q :=
  ((Int.ediv_emod_unique (Int.lt_of_le_of_lt h0 h1)).mpr ⟨by rw [← h, Int.add_comm], h0, h1⟩).1
theorem two_digits {n b c d : Int} (hb : 0 ≤ b) (e : b * c = d) : n / d * c + n / b % c = n / b := by
  rw [← ediv2 hb e, Int.mul_comm]; exact Int.mul_ediv_add_emod (n / b) c
theorem mod_div {n b c d : Int} (hb : 0 < b) (hc : 0 < c) (e : b * c = d) : n % d / b = n / b % c := by
  refine div_is (r := n % b) ?_ (Int.emod_nonneg _ (Int.ne_of_gt hb)) (Int.emod_lt_of_pos _ hb)
  have h1 := Int.mul_ediv_add_emod n d
  have h2 := Int.mul_ediv_add_emod n b
  have h3 := Int.mul_ediv_add_emod (n / b) c
  rw [ediv2 (Int.le_of_lt hb) e] at h3
  have h4 : b * (n / b) = d * (n / d) + b * (n / b % c) := by
    rw [← e, Int.mul_assoc, ← Int.mul_add]; exact congrArg _ (by rw [e]; exact h3.symm)
  omega
theorem encL1 {n x v0 v1 v2 : Int} (hx : x = n / 65536 % 256) (hn0 : 0 ≤ n) (hn1 : n < 2 ^ 24) (h2 : v2 = v1 % 65536) (h1 : v1 = v0 + x) (h0 : v0 = 0 * 256) : v2 = n / 65536 := by
  have a0 : 0 ≤ n / 65536 := Int.ediv_nonneg hn0 (by decide)
  have a1 : n / 65536 < 256 := Int.ediv_lt_of_lt_mul (by decide) hn1
  rw [h2, h1, h0, hx, Int.zero_mul, Int.zero_add, Int.emod_eq_of_lt a0 a1]
  exact Int.emod_eq_of_lt a0 (Int.lt_trans a1 (by decide))
theorem encL2 {n y v2 v6 v7 v8 : Int} (hy : y = n / 256 % 256) (hn0 : 0 ≤ n) (hn1 : n < 2 ^ 24) (h8 : v8 = v7 % 65536) (h7 : v7 = v6 + y) (h6 : v6 = v2 * 256) (l : v2 = n / 65536) : v8 = n / 256 := by
  rw [h8, h7, h6, l, hy, two_digits (b := 256) (by decide) (by decide)]
  exact Int.emod_eq_of_lt (Int.ediv_nonneg hn0 (by decide)) (Int.ediv_lt_of_lt_mul (by decide) hn1)
theorem encL3 {n z v8 v12 v13 v14 : Int} (hz : z = n % 256) (h14 : v14 = v13 % 65536) (h13 : v13 = v12 + z) (h12 : v12 = v8 * 256) (l : v8 = n / 256) : v14 = n % 65536 := by
  rw [h14, h13, h12, l, hz, Int.mul_comm, Int.mul_ediv_add_emod]
theorem enc0 {n v2 v3 v4 : Int} (h4 : v4 = v3 % 64) (h3 : v3 = v2 / 4) (l : v2 = n / 65536) : v4 = n / 262144 % 64 := by
  rw [h4, h3, l, ediv2 (d := 262144) (by decide) (by decide)]
theorem enc1 {n v8 v9 v10 : Int} (h10 : v10 = v9 % 64) (h9 : v9 = v8 / 16) (l : v8 = n / 256) : v10 = n / 4096 % 64 := by
  rw [h10, h9, l, ediv2 (d := 4096) (by decide) (by decide)]
theorem enc2 {n v14 v15 v16 : Int} (h16 : v16 = v15 % 64) (h15 : v15 = v14 / 64) (l : v14 = n % 65536) : v16 = n / 64 % 64 := by
  rw [h16, h15, l, mod_div (c := 1024) (by decide) (by decide) (by decide), Int.emod_emod_of_dvd _ (by decide)]
theorem enc3 {n v14 v18 v19 : Int} (h19 : v19 = v18 % 64) (h18 : v18 = v14 / 1) (l : v14 = n % 65536) : v19 = n % 64 := by
  rw [h19, h18, l, Int.ediv_one, Int.emod_emod_of_dvd _ (by decide)]
theorem byte_b {x a : Int} (h : x = a % 256) : 0 ≤ x ∧ x < 256 := h ▸ ⟨Int.emod_nonneg _ (by decide), Int.emod_lt_of_pos _ (by decide)⟩
theorem nab {a M : Int} (h0 : 0 ≤ a) (h1 : a < M) (h : M ≤ 2 ^ 64) : a.natAbs < 2 ^ 64 := by
  have := Int.natAbs_of_nonneg h0
  omega
theorem mod_two {n b c d : Int} (hb : 0 < b) (hc : 0 < c) (e : b * c = d) (hd : b ∣ d) : n / b % c * b + n % b = n % d := by
  rw [← mod_div hb hc e, ← Int.emod_emod_of_dvd n hd, Int.mul_comm]; exact Int.mul_ediv_add_emod (n % d) b
theorem sx_b {x a : Int} (h : x = a % 64) : 0 ≤ x ∧ x < 64 := h ▸ ⟨Int.emod_nonneg _ (by decide), Int.emod_lt_of_pos _ (by decide)⟩
theorem dec0 {n i0 i1 : Int} (h0 : i0 = n / 262144 % 64) (h1 : i1 = n / 4096 % 64) (hn0 : 0 ≤ n) (hn1 : n < 2 ^ 24) : i0 * 4 + i1 / 16 = n / 65536 % 256 := by
  rw [h0, h1, mod_div (b := 16) (c := 4) (by decide) (by decide) (by decide), ediv2 (d := 65536) (by decide) (by decide),
    Int.emod_eq_of_lt (Int.ediv_nonneg hn0 (by decide)) (Int.ediv_lt_of_lt_mul (by decide) hn1), two_digits (b := 65536) (by decide) (by decide)]
  exact (Int.emod_eq_of_lt (Int.ediv_nonneg hn0 (by decide)) (Int.ediv_lt_of_lt_mul (by decide) hn1)).symm
theorem dec1 {n i1 i2 : Int} (h1 : i1 = n / 4096 % 64) (h2 : i2 = n / 64 % 64) : i1 % 16 * 16 + i2 / 4 = n / 256 % 256 := by
  rw [h1, h2, mod_div (b := 4) (c := 16) (by decide) (by decide) (by decide), ediv2 (d := 256) (by decide) (by decide), Int.emod_emod_of_dvd _ (by decide),
    ← ediv2 (a := n) (b := 256) (c := 16) (d := 4096) (by decide) (by decide)]
  exact mod_two (by decide) (by decide) (by decide) (by decide)
theorem dec2 {n i2 i3 : Int} (h2 : i2 = n / 64 % 64) (h3 : i3 = n % 64) : i2 % 4 * 64 + i3 = n % 256 := by
  rw [h2, h3, Int.emod_emod_of_dvd _ (by decide)]
  exact mod_two (by decide) (by decide) (by decide) (by decide)
theorem dig {a b r s : Int} (h : a * 64 + r = b * 64 + s) (r0 : 0 ≤ r) (r1 : r < 64) (s0 : 0 ≤ s) (s1 : s < 64) : a = b ∧ r = s := by
  have e : a = b := by
    rw [← div_is (n := a * 64 + r) (d := 64) (q := a) (r := r) (by rw [Int.mul_comm]) r0 r1]
    exact div_is (by rw [h, Int.mul_comm]) s0 s1
  exact ⟨e, Int.add_left_cancel (a := b * 64) (by rw [← h, e])⟩
theorem horner (a b c d : Int) : a * 262144 + b * 4096 + c * 64 + d = ((a * 64 + b) * 64 + c) * 64 + d := by omega
theorem dig4 {p3 p2 p1 p0 q3 q2 q1 q0 : Int} (h : p3 * 262144 + p2 * 4096 + p1 * 64 + p0 = q3 * 262144 + q2 * 4096 + q1 * 64 + q0)
    (a2 : 0 ≤ p2 ∧ p2 < 64) (a1 : 0 ≤ p1 ∧ p1 < 64) (a0 : 0 ≤ p0 ∧ p0 < 64) (b2 : 0 ≤ q2 ∧ q2 < 64) (b1 : 0 ≤ q1 ∧ q1 < 64) (b0 : 0 ≤ q0 ∧ q0 < 64) : p3 = q3 ∧ p2 = q2 ∧ p1 = q1 ∧ p0 = q0 := by
  rw [horner, horner] at h
  have h0 := dig h a0.1 a0.2 b0.1 b0.2
  have h1 := dig h0.1 a1.1 a1.2 b1.1 b1.2
  have h2 := dig h1.1 a2.1 a2.2 b2.1 b2.2
  exact ⟨h2.1, h2.2, h1.2, h0.2⟩
theorem dig_inj {x y : Int} (x0 : 0 ≤ x) (x1 : x < 2 ^ 24) (y0 : 0 ≤ y) (y1 : y < 2 ^ 24) (e3 : x / 262144 % 64 = y / 262144 % 64) (e2 : x / 4096 % 64 = y / 4096 % 64) (e1 : x / 64 % 64 = y / 64 % 64) (e0 : x % 64 = y % 64) : x = y := by
  rw [Int.emod_eq_of_lt (Int.ediv_nonneg x0 (by decide)) (Int.ediv_lt_of_lt_mul (by decide) x1), Int.emod_eq_of_lt (Int.ediv_nonneg y0 (by decide)) (Int.ediv_lt_of_lt_mul (by decide) y1)] at e3
  have f2 : x / 4096 = y / 4096 := by
    rw [← two_digits (n := x) (b := 4096) (c := 64) (d := 262144) (by decide) (by decide), e3, e2]; exact two_digits (by decide) (by decide)
  have f1 : x / 64 = y / 64 := by
    rw [← two_digits (n := x) (b := 64) (c := 64) (d := 4096) (by decide) (by decide), f2, e1]; exact two_digits (by decide) (by decide)
  rw [← Int.mul_ediv_add_emod x 64, f1, e0]; exact Int.mul_ediv_add_emod y 64
end Mine
end
section
open PySem PySem.W PySem.Calls PyProof.Rows
set_option maxRecDepth 100000
namespace Mine

/-- all that stands in h outside of muts stands in h' -/
def Kept (muts : List Addr) (h h' : Heap) : Prop := ∀ b o, h.get? b = some o → b ∉ muts → h'.get? b = some o

abbrev pr : Program := Challenge.rw_pa0040_01.row.prog

section
variable {prog : Program} {w : World} {A A₀ : Around} {E : Value → Shared → Prop} {s : Shared} {K : Frag} {L : Addr} {h₀ base : Heap} {m mg mb : Str → Option Value} {news : List (Addr × Obj)} {p : Program} {loose : List Str} {mean : ExcName → Option Value}

/-- entering a def: as the kit's rule, and what was not handed on stands in g -/
theorem code_defB {env : Env} {outer : List Env} {R : Result → Shared → Prop} {name qual : Str} {params : Arguments} {body : List Stmt} {scope : Scope} {dV kV doc pm cdv ct oc : Value} {an od : Option Addr} {osl : Array (Option Value)} {f : Addr} {args : Args} {binds : List (Str × Value)}
    (B : Below A₀ base outer h₀) (F : Fr h₀ L s.heap m) (X₀ : K.In h₀) (N : News h₀ L s.heap news) (T : Top p loose mean mg mb h₀) (hA : A.frames = some (env :: outer)) (hf : env.frame = some L) (hke : env.scope.kind = .function)
    (ho : K.lookup f = some ⟨oc, od, .func (fnOf name qual params body scope dV kV doc pm an cdv ct), osl⟩) (hcd : codeIn K cdv qual = true) (hroom : A.depth < recursionLimit)
    (hbind : BindsTo s (fnOf name qual params body scope dV kV doc pm an cdv ct) args binds) (hloc : ∀ y ∈ binds, scope.names.lookup y.1 = some .local)
    (h : ∀ g L' h₁, Kept (news.map (·.1)) s.heap g → Fr h₀ L g m → Fr g L' h₁ (fun y => binds.reverse.lookup y) → News g L' h₁ news → Below A base (env :: outer) g → K.In g → Top p loose mean mg mb g →
      let A₁ := A.deeper (envOf qual scope L' f cdv)
      let Q₁ : Flow → Shared → Prop := fun fl s' => LeaveK h₀ L m g R (match fl with | .ret v => v | _ => .none) s'
      let E₁ : Value → Shared → Prop := fun e s' => wpAny (model prog w) A₁ (leaving (envOf qual scope L' f cdv) e) (fun _ s'' => R (.error e) s'') (fun e' s'' => R (.error e') s'') s'
      wpAny (model prog w) A₁ (execs body (envOf qual scope L' f cdv)) Q₁ E₁ { s with heap := h₁, toks := s.toks + binds.length })
    (hco : scope.isCoroutine = false) (hgen : scope.isGenerator = false) (hk : scope.kind = .function)
    (hcell : ∀ x ∈ scope.names, x.2 ≠ .cell) : codeAny (model prog w) A (.call (.ref f) args) R s := by
  obtain ⟨FG, BG, st, lv⟩ := groundX (R := R) B F N hA hf hke
  refine codeAny_call_def (fd := fnOf name qual params body scope dV kV doc pm an cdv ct) (body := body) (binds := binds) hroom ((X₀.keeps F.keep) _ _ ho) rfl (T.nolimit.keeps F.keep) (codeRec_of (X₀.keeps F.keep) hcd) rfl hbind hcell hloc (fun h₁ hns hk₁ => ?_) hco hgen hk
  exact wpAny_mono (h _ s.heap.objs.size h₁ (fun b o e n => hideAll_get _ e n) FG ⟨hns, fun b o e => hk₁ b o (of_hideAll _ e), Nat.le_of_eq (hideAll_size _ _)⟩
    (fun q hq => ⟨hk₁ _ _ (N q hq).1, Nat.ne_of_lt (Heap.lt_size (N q hq).1), hideAll_none _ (List.mem_map_of_mem hq)⟩) BG (X₀.keeps st) (T.keeps st)) (fun fl s' hl => lv _ _ hl) fun _ _ y => y

theorem Kept.fr {muts : List Addr} {h h' : Heap} (k : Kept muts h h') (F : Fr h₀ L h m) (hL : L ∉ muts) (h0 : ∀ b ∈ muts, h₀.get? b = none) : Fr h₀ L h' m := by
  obtain ⟨oL, es, ep, hLo, r⟩ := F.ns
  refine ⟨⟨oL, es, ep, k L oL hLo hL, r⟩, fun b o e => k b o (F.keep b o e) fun hb => ?_, F.above⟩
  rw [h0 b hb] at e; cases e
theorem Kept.led {muts : List Addr} {h h' : Heap} (k : Kept muts h h') (N : News h₀ L h news) (hn : ∀ q ∈ news, q.1 ∉ muts) : News h₀ L h' news :=
  fun q hq => ⟨k _ _ (N q hq).1 (hn q hq), (N q hq).2⟩
theorem Kept.trans {muts : List Addr} {h g h' : Heap} (k : Kept muts h g) (F : Fr g L h' m) : Kept muts h h' := fun b o e n => F.keep b o (k b o e n)
/-- a new object -/
theorem news_new {h h' : Heap} {a : Addr} {o : Obj} (F : Fr h₀ L h m) (hn : h.get? a = none) (ho : h'.get? a = some o) : News h₀ L h' [(a, o)] := by
  intro q hq
  rw [List.mem_singleton.mp hq]
  obtain ⟨oL, es, ep, hLo, r⟩ := F.ns
  refine ⟨ho, fun e => ?_, ?_⟩
  · rw [show a = L from e, hLo] at hn; cases hn
  · cases q : h₀.get? a with
    | none => rfl
    | some x => rw [F.keep a x q] at hn; cases hn
theorem news_app {n₁ n₂ : List (Addr × Obj)} {h : Heap} (a : News h₀ L h n₁) (b : News h₀ L h n₂) : News h₀ L h (n₁ ++ n₂) :=
  fun q hq => (List.mem_append.mp hq).elim (a q) (b q)
end

/-- a def that gives back a plain value and leaves all that stood -/
def Gives (w : World) (p : Program) (loose : List Str) (mean : ExcName → Option Value) (mg mb : Str → Option Value) (f : Addr) (vs : List Value) (kw : List (Str × Value)) (d : Nat) (R : Tok → Value) : Prop :=
  ∀ (dp un : Nat) (gd : Option (List Code)) (cn : Str) (cs : Scope) (a : Addr) (ccd : Value) (cl : List (Str × Addr)) (outer : List Env) (A₀ : Around) (base h₀ : Heap) (L : Addr) (m : Str → Option Value) (news : List (Addr × Obj)) (s : Shared) (Q E : Value → Shared → Prop),
    Below A₀ base outer h₀ → Fr h₀ L s.heap m → (hd.heap_39 w.params).In h₀ → News h₀ L s.heap news → Top p loose mean mg mb h₀ → cs.kind = .function → dp + d < recursionLimit → un + 8 * d < cLine →
    (∀ t h' tk', Fr h₀ L h' m → News h₀ L h' news → Q (R t) { s with heap := h', toks := tk' }) →
    wpAny (model Challenge.rw_pa0040_01.row.prog w) (ktrTop dp un gd cn cs L a ccd cl outer) (call (.ref f) vs kw) Q E s

theorem gives_end {h₀ h' g : Heap} {L L' : Addr} {m m' : Str → Option Value} {news : List (Addr × Obj)} {s : Shared} {Q : Value → Shared → Prop} {R : Tok → Value} {v : Value} {tk' : Nat}
    (hret : ∀ t h' tk', Fr h₀ L h' m → News h₀ L h' news → Q (R t) { s with heap := h', toks := tk' }) (N : News h₀ L s.heap news) (F : Fr h₀ L h' m) (k : Kept [] s.heap g) (F' : Fr g L' h' m') (e : ∃ t, v = R t) : Q v { s with heap := h', toks := tk' } := by
  obtain ⟨t, rfl⟩ := e
  exact hret t h' tk' F ((k.trans F').led N fun _ _ hq => nomatch hq)

/-- the common table -/
def tbl : List UInt8 := [65, 66, 67, 68, 69, 70, 71, 72, 73, 74, 75, 76, 77, 78, 79, 80, 81, 82, 83, 84, 85, 86, 87, 88, 89, 90, 97, 98, 99, 100, 101, 102, 103, 104, 105, 106, 107, 108, 109, 110, 111, 112, 113, 114, 115, 116, 117, 118, 119, 120, 121, 122, 48, 49, 50, 51, 52, 53, 54, 55, 56, 57, 43, 47]
def ch (i : Int) : UInt8 := tbl.getD i.toNat 0
def octs (n : Int) : Array UInt8 := #[(n / 65536 % 256).toNat.toUInt8, (n / 256 % 256).toNat.toUInt8, (n % 256).toNat.toUInt8]
def wrt (n : Int) : Array UInt8 := #[ch (n / 262144 % 64), ch (n / 4096 % 64), ch (n / 64 % 64), ch (n % 64)]

section
variable {prog : Program} {w : World} {A : Around} {E : Value → Shared → Prop} {s : Shared}
theorem b64_tail {value slice : PySem.Expr} {i : Int} {t u : Tok} {Q : Value → Shared → Prop} (h0 : 0 ≤ i) (h1 : i < 64)
    (h : ∀ (v : Int), v = ((ch i).toNat : Int) → 0 ≤ v → v < 256 → Q (.int v s.toks) { s with toks := s.toks + 1 })
    (hs : subscripted slice false (.bytes tbl.toArray t) (.int i u) = operate [.bytes tbl.toArray t, .int i u] (getItem (.bytes tbl.toArray t) (.int i u)) := by with_unfolding_all rfl)
    (ht : ∀ r, letTemporaryGo value (.bytes tbl.toArray t) r = pure () := by intro _; with_unfolding_all rfl) :
    wpAny (model prog w) A (subscriptTail value slice (.bytes tbl.toArray t) (.int i u)) Q E s := by
  refine subscriptTail_builtin (typeIs_bytes _ _ _) FB.slot_bytes_getitem.lookup (getItem_bytes (l := tbl) (by decide) h0 (by show i < 64; exact h1) ?_) hs ht
  have hb := (tbl.getD i.toNat 0).toNat_lt
  exact h _ rfl (by (first | lia | omega)) (by (first | lia | omega))
end
theorem or_shift (a b : Int) (k : Nat) (hb0 : 0 ≤ b) (hb : b < 2 ^ k) : Builtin.bitOr (a * 2 ^ k) b = a * 2 ^ k + b := by
  rw [bitOr_and]
  suffices h : Builtin.bitAnd (a * 2 ^ k) b = 0 by rw [h]; (first | lia | omega)
  have hp := kbt_pos k
  have e : Builtin.bitAnd (a * 2 ^ k) b = Builtin.bitAnd b (a * 2 ^ k) := bitAnd_comm _ _
  rw [e]
  clear e
  induction k generalizing a b with
  | zero =>
    have : b = 0 := by simp at hb; (first | lia | omega)
    subst this
    have := bitAnd_range (a * 2 ^ 0) (y := 0) (by (first | lia | omega))
    rw [bitAnd_comm]; (first | lia | omega)
  | succ k ih =>
    rw [kbt_halves]
    have hpk := kbt_pos k
    have e2 : (2 : Int) ^ (k + 1) = 2 * 2 ^ k := by rw [Int.pow_succ]; (first | lia | omega)
    have e3 : a * 2 ^ (k + 1) = 2 * (a * 2 ^ k) := by rw [e2]; rw [← Int.mul_assoc, Int.mul_comm a 2, Int.mul_assoc]
    have h1 : a * 2 ^ (k + 1) / 2 = a * 2 ^ k := by (first | lia | omega)
    have h2 : a * 2 ^ (k + 1) % 2 = 0 := by (first | lia | omega)
    rw [h1, ih a (b / 2) (by (first | lia | omega)) (by (first | lia | omega)) hpk, h2]
    simp

section
variable {prog : Program} {w : World} {A : Around} {E : Value → Shared → Prop} {s : Shared} {a b n : Int} {t u : Tok} {Q : Value → Shared → Prop}
theorem and_v {M : Int} (hm : Builtin.bitAnd a b = a % M) (hM : 0 < M) (h : ∀ v : Int, v = a % M → 0 ≤ v → v < M → Q (.int v s.toks) { s with toks := s.toks + 1 }) :
    wpAny (model prog w) A (binaryOp .BitAnd (.int a t) (.int b u)) Q E s :=
  and_int (by rw [hm]; exact h _ rfl (Int.emod_nonneg _ (by (first | lia | omega))) (Int.emod_lt_of_pos _ hM))
theorem shl_v {M : Int} (hM : (2 : Int) ^ n.toNat = M) (hn : 0 ≤ n) (hn2 : n ≤ 1000000) (ha : a.natAbs < 2 ^ 64) (h : ∀ v : Int, v = a * M → Q (.int v s.toks) { s with toks := s.toks + 1 }) :
    wpAny (model prog w) A (binaryOp .LShift (.int a t) (.int n u)) Q E s :=
  lshift_int_small hn hn2 ha (by rw [hM]; exact h _ rfl)
theorem shr_v {M : Int} (hM : (2 : Int) ^ n.toNat = M) (hp : 0 ≤ M) (hn : 0 ≤ n) (h : ∀ v : Int, v = a / M → Q (.int v s.toks) { s with toks := s.toks + 1 }) :
    wpAny (model prog w) A (binaryOp .RShift (.int a t) (.int n u)) Q E s :=
  rshift_int hn (by rw [hM, Int.fdiv_eq_ediv_of_nonneg _ hp]; exact h _ rfl)
theorem or_v (k : Nat) (M : Int) {c : Int} (ha : a = c * M) (hM : (2 : Int) ^ k = M) (hb0 : 0 ≤ b) (hb : b < M) (h : ∀ v : Int, v = a + b → Q (.int v s.toks) { s with toks := s.toks + 1 }) :
    wpAny (model prog w) A (binaryOp .BitOr (.int a t) (.int b u)) Q E s :=
  or_int (by subst hM; rw [ha, or_shift c b k hb0 hb, ← ha]; exact h _ rfl)
end
section
variable {prog : Program} {w : World} {A : Around} {E : Value → Shared → Prop} {s : Shared} {t : Tok} {x : UInt8}
theorem octs_ints {n : Int} (hn0 : 0 ≤ n) (hn1 : n < 2 ^ 24) : KBw.bInts (octs n) = [n / 65536 % 256, n / 256 % 256, n % 256] := by
  have e : ∀ i : Int, 0 ≤ i → i < 256 → (((i.toNat.toUInt8).toNat : Nat) : Int) = i := fun i h0 h1 => by
    have h2 : (i.toNat.toUInt8).toNat = i.toNat := by
      show (UInt8.ofNat i.toNat).toNat = i.toNat
      rw [UInt8.toNat_ofNat']; (first | lia | omega)
    rw [h2]; (first | lia | omega)
  show [_, _, _] = _
  dsimp only
  rw [e _ (by (first | lia | omega)) (by (first | lia | omega)), e _ (by (first | lia | omega)) (by (first | lia | omega)), e _ (by (first | lia | omega)) (by (first | lia | omega))]
theorem toU8_toNat {i : Int} {c : UInt8} (h : i = (c.toNat : Int)) : i.toNat.toUInt8 = c := by
  subst h
  show UInt8.ofNat (Int.toNat (c.toNat : Int)) = c
  rw [Int.toNat_natCast]
  exact UInt8.ofNat_toNat
end
theorem wrt_of {n v0 v1 v2 v3 i0 i1 i2 i3 : Int} (h0 : v0 = ((ch i0).toNat : Int)) (h1 : v1 = ((ch i1).toNat : Int)) (h2 : v2 = ((ch i2).toNat : Int)) (h3 : v3 = ((ch i3).toNat : Int))
    (e0 : i0 = n / 262144 % 64) (e1 : i1 = n / 4096 % 64) (e2 : i2 = n / 64 % 64) (e3 : i3 = n % 64) : byteArr [v0, v1, v2, v3] = wrt n := by
  show #[v0.toNat.toUInt8, v1.toNat.toUInt8, v2.toNat.toUInt8, v3.toNat.toUInt8] = wrt n
  rw [toU8_toNat h0, toU8_toNat h1, toU8_toNat h2, toU8_toNat h3, e0, e1, e2, e3]
  rfl

section
variable {w : World} {p : Program} {loose : List Str} {mean : ExcName → Option Value} {mg mb : Str → Option Value} {f : Addr} {vs : List Value} {kw : List (Str × Value)} {d : Nat} {R : Tok → Value}
theorem gives_use {dp un : Nat} {gd : Option (List Code)} {cn : Str} {cs : Scope} {a : Addr} {ccd : Value} {cl : List (Str × Addr)} {outer : List Env} {A₀ : Around} {base h₀ : Heap} {L : Addr} {m : Str → Option Value} {news : List (Addr × Obj)} {s : Shared} {Q E : Value → Shared → Prop}
    (G : Gives w p loose mean mg mb f vs kw d R) (B : Below A₀ base outer h₀) (F : Fr h₀ L s.heap m) (X : (hd.heap_39 w.params).In h₀) (N : News h₀ L s.heap news) (T : Top p loose mean mg mb h₀) (hk : cs.kind = .function) (h1 : dp + d < recursionLimit) (h2 : un + 8 * d < cLine)
    (ret : ∀ t h' tk', Fr h₀ L h' m → News h₀ L h' news → Q (R t) { s with heap := h', toks := tk' }) :
    wpAny (model Challenge.rw_pa0040_01.row.prog w) (ktrTop dp un gd cn cs L a ccd cl outer) (call (.ref f) vs kw) Q E s := G _ _ _ _ _ _ _ _ _ _ _ _ _ _ _ _ _ _ B F X N T hk h1 h2 ret
end
/-- what a sign of the table is -/
theorem ch_cases (i : Int) (h0 : 0 ≤ i) (h1 : i < 64) : (65 ≤ ((ch i).toNat : Int) ∧ ((ch i).toNat : Int) ≤ 90 ∧ i = ((ch i).toNat : Int) - 65) ∨ (97 ≤ ((ch i).toNat : Int) ∧ ((ch i).toNat : Int) ≤ 122 ∧ i = ((ch i).toNat : Int) - 71) ∨
    (48 ≤ ((ch i).toNat : Int) ∧ ((ch i).toNat : Int) ≤ 57 ∧ i = ((ch i).toNat : Int) + 4) ∨ (((ch i).toNat : Int) = 43 ∧ i = 62) ∨ (((ch i).toNat : Int) = 47 ∧ i = 63) := by
  obtain ⟨k, rfl⟩ : ∃ k : Nat, i = (k : Int) := ⟨i.toNat, by (first | lia | omega)⟩
  have hk : k < 64 := by (first | lia | omega)
  have all : ∀ k : Fin 64, (65 ≤ ((ch (k.val : Int)).toNat : Int) ∧ ((ch (k.val : Int)).toNat : Int) ≤ 90 ∧ (k.val : Int) = ((ch (k.val : Int)).toNat : Int) - 65) ∨ (97 ≤ ((ch (k.val : Int)).toNat : Int) ∧ ((ch (k.val : Int)).toNat : Int) ≤ 122 ∧ (k.val : Int) = ((ch (k.val : Int)).toNat : Int) - 71) ∨
    (48 ≤ ((ch (k.val : Int)).toNat : Int) ∧ ((ch (k.val : Int)).toNat : Int) ≤ 57 ∧ (k.val : Int) = ((ch (k.val : Int)).toNat : Int) + 4) ∨ (((ch (k.val : Int)).toNat : Int) = 43 ∧ (k.val : Int) = 62) ∨ (((ch (k.val : Int)).toNat : Int) = 47 ∧ (k.val : Int) = 63) := by decide +kernel
  exact all ⟨k, hk⟩
theorem wrt_ints (n : Int) : KBw.bInts (wrt n) = [((ch (n / 262144 % 64)).toNat : Int), ((ch (n / 4096 % 64)).toNat : Int), ((ch (n / 64 % 64)).toNat : Int), ((ch (n % 64)).toNat : Int)] := rfl

/-- bytes, by the sign < -/
def blt (b c : Array UInt8) : Bool := Builtin.Bytes.order b.toList c.toList == .lt
theorem slot_bytes_lt : Slot "bytes" (cmpInfo .Lt).2.1 "bytes.__lt__" :=
  .of (owner := "bytes") (n := "__lt__") (by rw [typeLookup_type, builtinLookup_eq_fast]; kernel_rfl) (by decide +kernel) (by decide +kernel) (by decide +kernel)
    (by first | exact .inl (by decide +kernel) | exact .inr (by decide +kernel)) (by rw [isSubtype_type]; kernel_rfl)
theorem entry_bytes_lt : entryFor table "bytes.__lt__" = some Builtin.«bytes.__lt__» := entryFor_of_tree (by kernel_rfl)
theorem args_bytes_lt (a b : Value) : argsOk "bytes.__lt__" ⟨[a, b], []⟩ := by
  unfold argsOk; rw [signature?_of (id := "bytes.__lt__") (n := ['_', '_', 't', 'l', '_', '_']) (o := ['s', 'e', 't', 'y', 'b']) (by kernel_rfl) FB.owner_bytes]; kernel_rfl
theorem gives_bytes_lt (b c : Array UInt8) (t u : Tok) : PySem.Gives (Builtin.«bytes.__lt__» ⟨[.bytes b t, .bytes c u], []⟩) (.val (.bool (blt b c))) := by
  refine .of_wp fun M A E s Q hq => ?_
  show wpAny M A (isInstance (.bytes c u) (.type "bytes") >>= fun r => _) _ E s
  refine wpAny_bind (wpAny_isInstance (typeIs_bytes s c u) F.sub_bytes_bytes ?_)
  exact wpAny_pure ⟨_, rfl, hq⟩
section
variable {prog : Program} {w : World} {A : Around} {E : Value → Shared → Prop} {s : Shared} {b c : Array UInt8} {t u : Tok}
theorem lt_bytes {Q : Value → Shared → Prop} (h : Q (.bool (blt b c)) s) : wpAny (model prog w) A (compareOp .Lt (.bytes b t) (.bytes c u)) Q E s :=
  compareOp_gives (op := .Lt) (typeIs_bytes s b t) (typeIs_bytes s c u) slot_bytes_lt entry_bytes_lt (args_bytes_lt _ _) (gives_bytes_lt b c t u) (fun e => nomatch e) h
end

/-- a def that may change the objects of muts and make new ones; all else stands -/
def Does (w : World) (p : Program) (loose : List Str) (mean : ExcName → Option Value) (mg mb : Str → Option Value) (f : Addr) (vs : List Value) (kw : List (Str × Value)) (d : Nat) (muts : List (Addr × Obj)) (Pre : Heap → Prop) (Post : Heap → Value → Heap → Prop) : Prop :=
  ∀ (dp un : Nat) (gd : Option (List Code)) (cn : Str) (cs : Scope) (a : Addr) (ccd : Value) (cl : List (Str × Addr)) (outer : List Env) (A₀ : Around) (base h₀ : Heap) (L : Addr) (m : Str → Option Value) (s : Shared) (Q E : Value → Shared → Prop),
    Below A₀ base outer h₀ → Fr h₀ L s.heap m → (hd.heap_39 w.params).In h₀ → News h₀ L s.heap muts → Top p loose mean mg mb h₀ → cs.kind = .function → dp + d < recursionLimit → un + 8 * d < cLine → Pre s.heap →
    (∀ v h' tk', Kept (muts.map (·.1)) s.heap h' → Post s.heap v h' → Q v { s with heap := h', toks := tk' }) →
    wpAny (model Challenge.rw_pa0040_01.row.prog w) (ktrTop dp un gd cn cs L a ccd cl outer) (call (.ref f) vs kw) Q E s

theorem does_end {h₀ h' g : Heap} {L' : Addr} {m' : Str → Option Value} {muts : List Addr} {s : Shared} {Q : Value → Shared → Prop} {Post : Heap → Value → Heap → Prop} {v : Value} {tk' : Nat}
    (hret : ∀ v h' tk', Kept muts s.heap h' → Post s.heap v h' → Q v { s with heap := h', toks := tk' }) (k : Kept muts s.heap g) (F' : Fr g L' h' m') (e : Post s.heap v h') : Q v { s with heap := h', toks := tk' } :=
  hret v h' tk' (k.trans F') e
section
variable {w : World} {p : Program} {loose : List Str} {mean : ExcName → Option Value} {mg mb : Str → Option Value} {f : Addr} {vs : List Value} {kw : List (Str × Value)} {d : Nat} {muts : List (Addr × Obj)} {Pre : Heap → Prop} {Post : Heap → Value → Heap → Prop}
theorem does_use {dp un : Nat} {gd : Option (List Code)} {cn : Str} {cs : Scope} {a : Addr} {ccd : Value} {cl : List (Str × Addr)} {outer : List Env} {A₀ : Around} {base h₀ : Heap} {L : Addr} {m : Str → Option Value} {s : Shared} {Q E : Value → Shared → Prop}
    (G : Does w p loose mean mg mb f vs kw d muts Pre Post) (B : Below A₀ base outer h₀) (F : Fr h₀ L s.heap m) (X : (hd.heap_39 w.params).In h₀) (N : News h₀ L s.heap muts) (T : Top p loose mean mg mb h₀) (hk : cs.kind = .function) (h1 : dp + d < recursionLimit) (h2 : un + 8 * d < cLine) (hp : Pre s.heap)
    (ret : ∀ v h' tk', Kept (muts.map (·.1)) s.heap h' → Fr h₀ L h' m → Post s.heap v h' → Q v { s with heap := h', toks := tk' }) :
    wpAny (model Challenge.rw_pa0040_01.row.prog w) (ktrTop dp un gd cn cs L a ccd cl outer) (call (.ref f) vs kw) Q E s := by
  refine G _ _ _ _ _ _ _ _ _ _ _ _ _ _ _ _ _ B F X N T hk h1 h2 hp fun v h' tk' k e => ret v h' tk' k (k.fr F (fun hL => ?_) fun b hb => ?_) e
  · obtain ⟨q, hq, e⟩ := List.mem_map.mp hL
    exact (N q hq).2.1 e
  · obtain ⟨q, hq, rfl⟩ := List.mem_map.mp hb
    exact (N q hq).2.2
end
/-- the count of tokens, forgotten -/
theorem wp_clean {α : Type} {M : Model} {A : Around} {e : Sem α} {Q : α → Shared → Prop} {E : Value → Shared → Prop} {s0 : Shared} {h : Heap} {t : Nat} (k : ∀ tk, wpAny M A e Q E { s0 with heap := h, toks := tk }) : wpAny M A e Q E { s0 with heap := h, toks := t + 1 } := k _
/-- room below a bound -/
theorem room_of {dp b R x : Nat} (h : dp + b < R) (k : Nat) (e : x = dp + k) (hk : Nat.ble k b = true) : x < R := by
  subst e; exact Nat.lt_of_le_of_lt (Nat.add_le_add_left (Nat.le_of_ble_eq_true hk) dp) h
theorem letA {α : Type} {M : Model} {A : Around} {e : Sem α} {Q : α → Shared → Prop} {E : Value → Shared → Prop} {s : Shared} (h : let B := A; wpAny M B e Q E s) : wpAny M A e Q E s := h
/-- a name stored: the frame's new map as a letter, the count of tokens forgotten -/
theorem storeY {M : Model} {A : Around} {E : Value → Shared → Prop} {s : Shared} {h₀ : Heap} {L a : Addr} {m : Str → Option Value} {news : List (Addr × Obj)} {cn x : Str} {cs : Scope} {ccd v : Value} {cl : List (Str × Addr)} {Q : Unit → Shared → Prop} (F : Fr h₀ L s.heap m) (N : News h₀ L s.heap news)
    (h : ∀ h' tk, let m' := fun y => if y = x then some v else m y; Fr h₀ L h' m' → News h₀ L h' news → Q () { s with heap := h', toks := tk })
    (hk : cs.kind = .function) (hx : (envX cn cs L a ccd cl).kindOf x = some .local) : wpAny M A (storeName (envX cn cs L a ccd cl) x v) Q E s :=
  storeX_L F N (fun h' F' N' => h h' _ F' N') hk hx
end Mine
end
section
open PySem PySem.W PySem.Calls PyProof.Rows
namespace Mine
/-- what is known taken apart without the goal's being copied -/
theorem and_k {a b G : Prop} (h : a ∧ b) (k : a → b → G) : G := k h.1 h.2
theorem and3 {a b c G : Prop} (h : a ∧ b ∧ c) (k : a → b → c → G) : G := k h.1 h.2.1 h.2.2
theorem and4 {a b c d G : Prop} (h : a ∧ b ∧ c ∧ d) (k : a → b → c → d → G) : G := k h.1 h.2.1 h.2.2.1 h.2.2.2
theorem and6 {a b c d e f G : Prop} (h : a ∧ b ∧ c ∧ d ∧ e ∧ f) (k : a → b → c → d → e → f → G) : G := k h.1 h.2.1 h.2.2.1 h.2.2.2.1 h.2.2.2.2.1 h.2.2.2.2.2
theorem and7 {a b c d e f g G : Prop} (h : a ∧ b ∧ c ∧ d ∧ e ∧ f ∧ g) (k : a → b → c → d → e → f → g → G) : G := and4 h fun x1 x2 x3 y => and4 y (k x1 x2 x3)
theorem and8 {a b c d e f g i G : Prop} (h : a ∧ b ∧ c ∧ d ∧ e ∧ f ∧ g ∧ i) (k : a → b → c → d → e → f → g → i → G) : G := and4 h fun x1 x2 x3 y => and_k y fun x4 z => and4 z (k x1 x2 x3 x4)
theorem and9 {a b c d e f g i j G : Prop} (h : a ∧ b ∧ c ∧ d ∧ e ∧ f ∧ g ∧ i ∧ j) (k : a → b → c → d → e → f → g → i → j → G) : G := and6 h fun x1 x2 x3 x4 x5 y => and4 y (k x1 x2 x3 x4 x5)
theorem ex_k {α : Type} {p : α → Prop} {G : Prop} (h : ∃ x, p x) (k : ∀ x, p x → G) : G := Exists.elim h k
theorem ex_and {α : Type} {p q : α → Prop} {G : Prop} (h : ∃ x, p x ∧ q x) (k : ∀ x, p x → q x → G) : G := Exists.elim h fun x y => k x y.1 y.2
/-- what a def gives back is an object -/
theorem ref_k {α β : Type} {C : Value → Prop} {v : Value} {a : Addr → Prop} {b : Addr → α → β → Prop} {c : β → Prop} (h : ∃ l n us, v = .ref l ∧ a l ∧ b l n us ∧ c us) (k : ∀ l n us, a l → b l n us → c us → C (.ref l)) : C v := by
  obtain ⟨l, n, us, rfl, x, y, z⟩ := h
  exact k l n us x y z
theorem ex3_k {α β γ : Type} {p q r s : α → β → γ → Prop} {G : Prop} (h : ∃ a b c, p a b c ∧ q a b c ∧ r a b c ∧ s a b c) (k : ∀ a b c, p a b c → q a b c → r a b c → s a b c → G) : G := by
  obtain ⟨a, b, c, x, y, z, u⟩ := h
  exact k a b c x y z u
theorem list_k {α : Type} {C : List α → Prop} (X : List α) (k0 : C []) (k1 : ∀ Y v, C (Y ++ [v])) : C X := by
  rcases List.eq_nil_or_concat X with rfl | ⟨Y, v, rfl⟩
  · exact k0
  · rw [List.concat_eq_append]; exact k1 Y v
end Mine
end
section
open PySem PySem.W PySem.Calls PyProof.Rows PyProof.Rows.LCg PyProof.Rows.LCp
set_option maxRecDepth 100000
namespace Mine
section
variable {prog : Program} {w : World} {A : Around} {s : Shared} {h₀ : Heap} {L : Addr} {m : Str → Option Value} {env : Env} {elt : PySem.Expr} {x x₂ : Str} {scope : Scope} {cl : List (Str × Addr)} {S : List (Addr × Obj) → Prop} {P : Nat → Value → Prop} {Fin : List Value → List (Addr × Obj) → Prop}
theorem compEnd_mono {s₁ s₂ : Shared} {I C D : Addr} {oI oC oD : Obj} {rest rest' : Value → List (Addr × Obj) → Prop} {y : Value} (h : CompEnd h₀ L m s₁ I oI C oC D oD S rest y s₂) (hr : ∀ y nw, rest y nw → rest' y nw) : CompEnd h₀ L m s₁ I oI C oC D oD S rest' y s₂ := by
  obtain ⟨h', tk, news', a1, a2, a3, a4, a5, a6⟩ := h
  exact ⟨h', tk, news', a1, a2, a3, a4, a5, hr _ _ a6⟩
theorem comp_ind (J : Nat → List Value → List (Addr × Obj) → Prop) (n : Nat)
    (step : ∀ i ys news v I oI C oC D m₂ h tk (E' : Value → Shared → Prop), i < n → J i ys news → P i v → NsObj oC m₂ → m₂ x = some v → Fr h₀ L h m → News h₀ L h ((I, oI) :: (C, oC) :: (D, lst ys) :: news) → Off3 I C D news →
      wpAny (model prog w) A (eval elt (compEnvC scope cl C env)) (CompEnd h₀ L m { s with heap := h, toks := tk } I oI C oC D (lst ys) S (fun y news' => J (i + 1) (ys ++ [y]) news')) E' { s with heap := h, toks := tk })
    (fin : ∀ ys news, J n ys news → Fin ys news) : ∀ k i ys news, i + k = n → J i ys news → CompRest prog w A h₀ L m env elt x scope cl s S P Fin k i ys news
  | 0, i, ys, news, e, hj => fin ys news (by rw [← e]; exact hj)
  | k + 1, i, ys, news, e, hj => CompRest.succ fun v I oI C oC D m₂ h tk E' a1 a2 a3 a4 a5 a6 _ =>
      wpAny_mono (step i ys news v I oI C oC D m₂ h tk E' (by omega) hj a1 a2 a3 a4 a5 a6) (fun y s₂ q => compEnd_mono q fun y nw hy => comp_ind J n step fin k (i + 1) (ys ++ [y]) nw (by omega) hy) fun _ _ z => z
theorem compP_ind (J : Nat → List Value → List (Addr × Obj) → Prop) (n : Nat)
    (tup : ∀ i ys news v, i < n → J i ys news → P i v → ∃ (t : Addr) (ot : Obj) (v₁ v₂ : Value) (nt : Nat), v = .ref t ∧ (t, ot) ∈ news ∧ ot.cls = .type "tuple" ∧ ot.data = .seq #[v₁, v₂] nt ∧
      ∀ I oI C oC D m₂ h tk (E' : Value → Shared → Prop), NsObj oC m₂ → m₂ x = some v₁ → m₂ x₂ = some v₂ → Fr h₀ L h m → News h₀ L h ((I, oI) :: (C, oC) :: (D, lst ys) :: news) → Off3 I C D news →
      wpAny (model prog w) A (eval elt (compEnvC scope cl C env)) (CompEnd h₀ L m { s with heap := h, toks := tk } I oI C oC D (lst ys) S (fun y news' => J (i + 1) (ys ++ [y]) news')) E' { s with heap := h, toks := tk })
    (fin : ∀ ys news, J n ys news → Fin ys news) : ∀ k i ys news, i + k = n → J i ys news → CompRestP prog w A h₀ L m env elt x x₂ scope cl s S P Fin k i ys news
  | 0, i, ys, news, e, hj => fin ys news (by rw [← e]; exact hj)
  | k + 1, i, ys, news, e, hj => CompRestP.succ fun v hv => by
      obtain ⟨t, ot, v₁, v₂, nt, b1, b2, b3, b4, b5⟩ := tup i ys news v (by omega) hj hv
      refine ⟨t, ot, v₁, v₂, nt, b1, b2, b3, b4, fun I oI C oC D m₂ h tk E' a2 a3 a3' a4 a5 a6 _ => ?_⟩
      exact wpAny_mono (b5 I oI C oC D m₂ h tk E' a2 a3 a3' a4 a5 a6) (fun y s₂ q => compEnd_mono q fun y nw hy => compP_ind J n tup fin k (i + 1) (ys ++ [y]) nw (by omega) hy) fun _ _ z => z
end
section
variable {prog : Program} {w : World} {A : Around} {s : Shared} {h₀ : Heap} {L : Addr} {m : Str → Option Value} {env : Env} {elt : PySem.Expr} {x : Str} {scope : Scope} {cl : List (Str × Addr)} {S : List (Addr × Obj) → Prop} {P : Nat → Value → Prop} {Fin : List Value → List (Addr × Obj) → Prop}
/-- a comprehension whose items are plain values -/
theorem comp_pure {k : Nat} {base : List (Addr × Obj)} (J : Nat → List Value → Prop) (n : Nat) (hk : 0 + k = n)
    (step : ∀ i ys nw v I oI C oC D m₂ h tk (E' : Value → Shared → Prop), i < n → (∀ p ∈ base, p ∈ nw) → J i ys → P i v → NsObj oC m₂ → m₂ x = some v → Fr h₀ L h m → News h₀ L h ((I, oI) :: (C, oC) :: (D, lst ys) :: nw) → Off3 I C D nw →
      wpAny (model prog w) A (eval elt (compEnvC scope cl C env)) (CompEnd h₀ L m { s with heap := h, toks := tk } I oI C oC D (lst ys) S (fun y nw' => (∀ p ∈ base, p ∈ nw') ∧ J (i + 1) (ys ++ [y]))) E' { s with heap := h, toks := tk })
    (fin : ∀ ys nw, (∀ p ∈ base, p ∈ nw) → J n ys → Fin ys nw) (h0 : J 0 []) : CompRest prog w A h₀ L m env elt x scope cl s S P Fin k 0 [] base :=
  comp_ind (fun j ys nw => (∀ p ∈ base, p ∈ nw) ∧ J j ys) n (fun i ys nw v I oI C oC D m₂ h tk E' hi hj a1 a2 a3 a4 a5 a6 => step i ys nw v I oI C oC D m₂ h tk E' hi hj.1 hj.2 a1 a2 a3 a4 a5 a6) (fun ys nw hj => fin ys nw hj.1 hj.2) k 0 [] base hk ⟨fun _ h => h, h0⟩
end
theorem news_sub {h₀ h : Heap} {L : Addr} {l l' : List (Addr × Obj)} (N : News h₀ L h l) (hs : ∀ p ∈ l', p ∈ l) : News h₀ L h l' := fun p hp => N p (hs p hp)
theorem off1_mem {D : Addr} : ∀ {l : List (Addr × Obj)}, Off1 D l → ∀ p ∈ l, p.1 ≠ D
  | [], _, _, h => nomatch h
  | _ :: _, h, _, .head _ => h.1
  | _ :: _, h, _, .tail _ q => off1_mem h.2 _ q
end Mine
end
section
open PySem PySem.W PySem.Calls PyProof.Rows PyProof.V PySem.Spec
set_option maxRecDepth 100000
namespace Mine
section
variable {prog : Program} {w : World} {A : Around} {E : Value → Shared → Prop} {s : Shared} {env : Env} {h₀ : Heap} {x : PySem.Str} {body : List Stmt} {Q : Flow → Shared → Prop}
theorem iter_bytesN {b : Array UInt8} {ks : List Int} {tb : Tok} {m₀ : PySem.Str → Option Value} {news : List (Addr × Obj)} (J : Nat → (PySem.Str → Option Value) → List (Addr × Obj) → Prop)
    (hb : KBw.bInts b = ks) (hh : A.handled = none) (F : Fr h₀ env.locals s.heap m₀) (N : News h₀ env.locals s.heap news) (hj : J 0 m₀ news)
    (turn : ∀ (i : Nat) (n : Int) t m₁ nx h tk own, ks[i]? = some n → OwnOff own (news.map (·.1)) → J i m₁ nx → Fr h₀ env.locals h (fun y => if y = x then some (.int n t) else m₁ y) → News h₀ env.locals h (nx ++ own) →
      wpAny (model prog w) A (execs body env) (InvPostN h₀ env.locals (J (i + 1)) own (news.map (·.1)) { s with heap := h, toks := tk } Q) E { s with heap := h, toks := tk })
    (done : ∀ m₁ nx h tk, J ks.length m₁ nx → Fr h₀ env.locals h m₁ → News h₀ env.locals h nx → Q .next { s with heap := h, toks := tk }) :
    wpAny (model prog w) A (pyIter (.bytes b tb)) (fun it s₂ => LoopAtV prog w A h₀ env x body Q E it s₂) E s := by
  subst hb
  refine KBw.pyIter_bytes ?_
  have W := KBw.walks (prog := prog) (w := w) hh s.heap.objs.size b tb
  refine loop_invN J W ?_ ?_ ?_ ?_ ⟨_, Heap.get?_push_size _ rfl, rfl, rfl⟩ (F.push _) (fun p hp => ⟨Heap.get?_push_of_some _ (N p hp).1, (N p hp).2⟩) hj ?_ ?_
  · intro hm
    exact absurd F.ns.lt ((List.mem_singleton.mp hm) ▸ Nat.lt_irrefl _)
  · intro b' hb
    rw [List.mem_singleton.mp hb]
    exact next_is_new F
  · intro p hp hI
    exact absurd (Heap.lt_size (N p hp).1) ((List.mem_singleton.mp hI) ▸ Nat.lt_irrefl _)
  · intro p hp hI
    exact absurd (Heap.lt_size (N p hp).1) ((List.mem_singleton.mp hI) ▸ Nat.lt_irrefl _)
  · rintro i v m₁ nx h tk own hi ⟨n, u, hn, rfl⟩ _ hoff hJ F₁ N₁
    exact turn i _ u m₁ nx h tk own (KBw.ints_get hn) hoff hJ F₁ N₁
  · rintro m₁ nx h tk hJ F₁ N₁
    have h8 : b.size = (KBw.bInts b).length := (KBw.ints_length b).symm
    rw [h8] at hJ
    exact done m₁ nx h tk hJ F₁ N₁
end
end Mine
end
section
open PySem PySem.W PySem.Calls PyProof.Rows Mine
local macro_rules | `(tactic| walk_at $s:str) => `(tactic| k_extra $s)
local macro_rules | `(tactic| k_room) => `(tactic| k_extra "k_room")
local macro_rules | `(tactic| ktr_room) => `(tactic| k_extra "ktr_room")
local macro_rules | `(tactic| k_units) => `(tactic| k_extra "k_units")
local macro_rules | `(tactic| k_ne) => `(tactic| k_extra "k_ne")
local macro_rules | `(tactic| k_all) => `(tactic| k_extra "k_all")
section
open PySem PySem.W PySem.Calls PyProof.Rows
set_option maxRecDepth 100000
namespace Mine
section
variable {w : World} {mean : ExcName → Option Value} {mg mb : Str → Option Value} {p : Program} {loose : List Str}
/-- the words of the walk -/
theorem words_oct1 : True := by
  k_with_none
  k_with "k_room" => ((try simp only [depth_under_make, depth_under_kw, depth_in1, depth_deeper, depth_caller]); (try dsimp only [ktrTop]); first | (refine' room_of ?h 0 rfl ?k; (case h => assumption); (case k => exact rfl)) | (refine' room_of ?h _ (Nat.add_assoc _ _ _) ?k; (case h => assumption); (case k => exact rfl)) | (refine' room_of ?h 1 rfl ?k; (case h => assumption); (case k => exact rfl)) | (refine' room_of ?h _ ((Nat.add_assoc _ _ _).trans (Nat.add_assoc _ _ _)) ?k; (case h => assumption); (case k => exact rfl)) | lia)
  k_with "ktr_room" => (k_room)
  k_with "k_units" => ((try simp only [units_in1, units_deeper, Around.mark_units, units_caller]); (try dsimp only [ktrTop]); first | (refine' room_of ?h _ (Nat.add_assoc _ _ _) ?k; (case h => assumption); (case k => exact rfl)) | (refine' room_of ?h _ ((Nat.add_assoc _ _ _).trans (Nat.add_assoc _ _ _)) ?k; (case h => assumption); (case k => exact rfl)) | (refine' room_of ?h 0 rfl ?k; (case h => assumption); (case k => exact rfl)) | (have hcL9 := cLine_is; lia))
  k_with "k_ne" => (refine neN ?_; (try dsimp only); first | assumption | exact Ne.symm (by assumption) | exact Nat.ne_of_lt (by assumption) | exact Nat.ne_of_gt (by assumption) | ((repeat' (rename _ ∧ _ => h9; obtain ⟨h8, h7⟩ := h9)); first | exact Nat.ne_of_lt (by assumption) | exact Nat.ne_of_gt (by assumption) | assumption | exact Ne.symm (by assumption)) | lia)
  k_with "my enter" => (k_dflt (refine' code_defB ?k1 ?k2 ?k3 ?k4 ?k5 ?kA ?kF ?kK ?k6 ?k7 ?k8 ?k9 ?kB ?_ ?c2 ?c3 ?c4 ?c5; (case kA => exact rfl); (case kF => exact rfl); (case kK => assumption); (case k1 => k_asm); (case k2 => k_asm); (case k3 => k_asm); (case k4 => exact News.nil); (case k5 => k_asm); (case k6 => k_is); (case k7 => k_is); (case k8 => ktr_room); (case k9 => first | exact BindsTo.of_eq rfl | exact binds_K (by k_in) rfl (by k_is) rfl rfl rfl); (case c5 => decide); (case kB => exact locs rfl); (case c2 => exact rfl); (case c3 => exact rfl); (case c4 => exact rfl); k_whole; intro _ _ _ _ _ _ _ _ _ _ _ _ _; (try dsimp only); (try k_fold)))
  trivial
set_option maxHeartbeats 8000000 in
theorem octets_gives (x : Int) (tx : Tok) (h0 : 0 ≤ x) (h1 : x < 2 ^ 24) : Gives w p loose mean mg mb 144 [.int x tx] [] 1 (fun t => .bytes (octs x) t) := by
  unfold Gives
  k_fill
  intro dp un gd cn cs a ccd cl outer A₀ base h₀ L m news s Q E B F X N T hk hd hu hret
  refine wpAny_call ?_
  walk_at "my enter"
  k_steps
  refine gives_end hret N (by k_asm) (by assumption) (by k_asm) ?_
  refine ⟨_, congrArg (Value.bytes · _) ?_⟩
  show #[_, _, _] = octs x
  rw [Int.fdiv_eq_ediv_of_nonneg _ (by decide), Int.fdiv_eq_ediv_of_nonneg _ (by decide), Int.fmod_eq_emod_of_nonneg _ (by decide), Int.fmod_eq_emod_of_nonneg _ (by decide), Int.fmod_eq_emod_of_nonneg _ (by decide)]
  rfl
end
end Mine
end
section
open PySem PySem.W PySem.Calls PyProof.Rows
set_option maxRecDepth 100000
namespace Mine
section
variable {w : World} {mean : ExcName → Option Value} {mg mb : Str → Option Value} {p : Program} {loose : List Str}


/-- the words of the walk -/
theorem words_hp1 : True := by
  k_with_none
  k_with "k_room" => ((try simp only [depth_under_make, depth_under_kw, depth_in1, depth_deeper, depth_caller]); (try dsimp only [ktrTop]); first | (refine' room_of ?h 0 rfl ?k; (case h => assumption); (case k => exact rfl)) | (refine' room_of ?h _ (Nat.add_assoc _ _ _) ?k; (case h => assumption); (case k => exact rfl)) | (refine' room_of ?h 1 rfl ?k; (case h => assumption); (case k => exact rfl)) | (refine' room_of ?h _ ((Nat.add_assoc _ _ _).trans (Nat.add_assoc _ _ _)) ?k; (case h => assumption); (case k => exact rfl)) | lia)
  k_with "ktr_room" => (k_room)
  k_with "k_units" => ((try simp only [units_in1, units_deeper, Around.mark_units, units_caller]); (try dsimp only [ktrTop]); first | (refine' room_of ?h _ (Nat.add_assoc _ _ _) ?k; (case h => assumption); (case k => exact rfl)) | (refine' room_of ?h _ ((Nat.add_assoc _ _ _).trans (Nat.add_assoc _ _ _)) ?k; (case h => assumption); (case k => exact rfl)) | (refine' room_of ?h 0 rfl ?k; (case h => assumption); (case k => exact rfl)) | (have hcL9 := cLine_is; lia))
  k_with "k_ne" => (refine neN ?_; (try dsimp only); first | assumption | exact Ne.symm (by assumption) | exact Nat.ne_of_lt (by assumption) | exact Nat.ne_of_gt (by assumption) | ((repeat' (rename _ ∧ _ => h9; obtain ⟨h8, h7⟩ := h9)); first | exact Nat.ne_of_lt (by assumption) | exact Nat.ne_of_gt (by assumption) | assumption | exact Ne.symm (by assumption)) | lia)
  k_with "storeName" => (k_here; (with_reducible show wpAny _ _ (storeName _ _ _) _ _ _); k_dflt (refine' storeY ?F ?N ?_ ?a ?b; (case F => k_asm); (case N => k_asm); (case a => rfl); (case b => rfl); k_whole); intro _ _ _ _ _; (try k_sweep); (try dsimp only))
  k_with "ite" => (k_openite; first | (refine ite_pos (by (try simp only [decide_eq_true_eq, beq_iff_eq, bne_iff_ne, ne_eq]); (first | lia | omega)) ?_; walk_say "PRUNED by (first | lia | omega)") | (refine ite_neg (by (try simp only [decide_eq_true_eq, beq_iff_eq, bne_iff_ne, ne_eq]); (first | lia | omega)) ?_; walk_say "PRUNED by (first | lia | omega)"))
  k_with "my enter" => (k_dflt (refine' code_defB ?k1 ?k2 ?k3 ?k4 ?k5 ?kA ?kF ?kK ?k6 ?k7 ?k8 ?k9 ?kB ?_ ?c2 ?c3 ?c4 ?c5; (case kA => exact rfl); (case kF => exact rfl); (case kK => assumption); (case k1 => k_asm); (case k2 => k_asm); (case k3 => k_asm); (case k4 => k_asm); (case k5 => k_asm); (case k6 => k_is); (case k7 => k_is); (case k8 => ktr_room); (case k9 => first | exact BindsTo.of_eq rfl | exact binds_K (by k_in) rfl (by k_is) rfl rfl rfl); (case c5 => decide); (case kB => exact locs rfl); (case c2 => exact rfl); (case c3 => exact rfl); (case c4 => exact rfl); k_whole; intro _ _ _ _ _ _ _ _ _ _ _ _ _; (try dsimp only); (try k_fold)))
  k_with "compareOp Lt bytes bytes" => (k_dflt (refine lt_bytes ?_))
  trivial
theorem push0_does (l : Addr) (n : Nat) (v : Array UInt8) (tv : Tok) : Does w p loose mean mg mb 28 [.ref l, .bytes v tv] [] 3 [(l, listOf #[] n)] (fun _ => True)
    (fun _ _ h' => ∃ n', h'.get? l = some (listOf #[.bytes v tv] n')) := by
  unfold Does
  k_fill
  intro dp un gd cn cs a ccd cl outer A₀ base h₀ L m s Q E B F X N T hk hd hu _ hret
  refine wpAny_call ?_
  walk_at "my enter"
  k_steps
  refine hret _ _ _ (Kept.trans (by assumption) (by k_asm)) ?_
  dsimp only
  exact ⟨_, News.get (by k_asm) (List.Mem.head _)⟩

theorem push1_does (l : Addr) (n : Nat) (a v : Array UInt8) (ta tv : Tok) : Does w p loose mean mg mb 28 [.ref l, .bytes v tv] [] 3 [(l, listOf #[.bytes a ta] n)] (fun _ => True)
    (fun _ _ h' => ∃ n', h'.get? l = some (listOf (if blt v a = true then #[.bytes v tv, .bytes a ta] else #[.bytes a ta, .bytes v tv]) n')) := by
  unfold Does
  k_fill
  intro dp un gd cn cs a ccd cl outer A₀ base h₀ L m s Q E B F X N T hk hd hu _ hret
  refine wpAny_call ?_
  walk_at "my enter"
  k_steps
  all_goals (
    refine hret _ _ _ (Kept.trans (by assumption) (by k_asm)) ?_
    dsimp only
    first | rw [if_pos (by assumption)] | rw [if_neg (by rw [Bool.not_eq_true]; assumption)]
    exact ⟨_, News.get (by k_asm) (List.Mem.head _)⟩)

set_option maxHeartbeats 8000000 in
theorem push2_does (l : Addr) (n : Nat) (a b v : Array UInt8) (ta tb tv : Tok) : Does w p loose mean mg mb 28 [.ref l, .bytes v tv] [] 3 [(l, listOf #[.bytes a ta, .bytes b tb] n)] (fun _ => True)
    (fun _ _ h' => ∃ n', h'.get? l = some (listOf (if blt v a = true then #[.bytes v tv, .bytes b tb, .bytes a ta] else #[.bytes a ta, .bytes b tb, .bytes v tv]) n')) := by
  unfold Does
  k_fill
  intro dp un gd cn cs a ccd cl outer A₀ base h₀ L m s Q E B F X N T hk hd hu _ hret
  refine wpAny_call ?_
  walk_at "my enter"
  k_steps
  all_goals (
    refine hret _ _ _ (Kept.trans (by assumption) (by k_asm)) ?_
    dsimp only
    first | rw [if_pos (by assumption)] | rw [if_neg (by rw [Bool.not_eq_true]; assumption)]
    exact ⟨_, News.get (by k_asm) (List.Mem.head _)⟩)

def popOut (a v : Array UInt8) (ta tv : Tok) : Value := if blt a v = true then .bytes a ta else .bytes v tv
def popL (a b c v : Array UInt8) (ta tb tc tv : Tok) : Array Value :=
  if blt a v = true then (if blt b c = true then (if blt v b = true then #[.bytes v tv, .bytes b tb, .bytes c tc] else #[.bytes b tb, .bytes v tv, .bytes c tc])
    else (if blt v c = true then #[.bytes v tv, .bytes b tb, .bytes c tc] else #[.bytes c tc, .bytes b tb, .bytes v tv])) else #[.bytes a ta, .bytes b tb, .bytes c tc]

set_option maxHeartbeats 8000000 in
theorem pop3_does (l : Addr) (n : Nat) (a b c v : Array UInt8) (ta tb tc tv : Tok) : Does w p loose mean mg mb 35 [.ref l, .bytes v tv] [] 4 [(l, listOf #[.bytes a ta, .bytes b tb, .bytes c tc] n)] (fun _ => True)
    (fun _ r h' => r = popOut a v ta tv ∧ ∃ n', h'.get? l = some (listOf (popL a b c v ta tb tc tv) n')) := by
  unfold Does popOut popL
  k_fill
  intro dp un gd cn cs a ccd cl outer A₀ base h₀ L m s Q E B F X N T hk hd hu _ hret
  refine wpAny_call ?_
  walk_at "my enter"
  k_steps
  all_goals (
    refine hret _ _ _ (Kept.trans (by assumption) (by k_asm)) ?_
    dsimp only
    refine ⟨?_, ?_⟩
    · first | rw [if_pos (by assumption)] | rw [if_neg (by rw [Bool.not_eq_true]; assumption)]
    · (repeat (first | rw [if_pos (by assumption)] | rw [if_neg (by rw [Bool.not_eq_true]; assumption)]))
      (rename News _ _ _ _ => kNN)
      exact ⟨_, News.get kNN (by k_mem)⟩)
end
end Mine
end
section
open PySem PySem.W PySem.Calls PyProof.Rows
set_option maxRecDepth 100000
namespace Mine
section
variable {w : World} {mean : ExcName → Option Value} {mg mb : Str → Option Value} {p : Program} {loose : List Str}

/-- the words of the walk -/
theorem words_enc1 : True := by
  k_with_none
  k_with "k_room" => ((try simp only [depth_under_make, depth_under_kw, depth_in1, depth_deeper, depth_caller]); (try dsimp only [ktrTop]); first | (refine' room_of ?h 0 rfl ?k; (case h => assumption); (case k => exact rfl)) | (refine' room_of ?h _ (Nat.add_assoc _ _ _) ?k; (case h => assumption); (case k => exact rfl)) | (refine' room_of ?h 1 rfl ?k; (case h => assumption); (case k => exact rfl)) | (refine' room_of ?h _ ((Nat.add_assoc _ _ _).trans (Nat.add_assoc _ _ _)) ?k; (case h => assumption); (case k => exact rfl)) | lia)
  k_with "ktr_room" => (k_room)
  k_with "k_units" => ((try simp only [units_in1, units_deeper, Around.mark_units, units_caller]); (try dsimp only [ktrTop]); first | (refine' room_of ?h _ (Nat.add_assoc _ _ _) ?k; (case h => assumption); (case k => exact rfl)) | (refine' room_of ?h _ ((Nat.add_assoc _ _ _).trans (Nat.add_assoc _ _ _)) ?k; (case h => assumption); (case k => exact rfl)) | (refine' room_of ?h 0 rfl ?k; (case h => assumption); (case k => exact rfl)) | (have hcL9 := cLine_is; lia))
  k_with "k_ne" => (refine neN ?_; (try dsimp only); first | assumption | exact Ne.symm (by assumption) | exact Nat.ne_of_lt (by assumption) | exact Nat.ne_of_gt (by assumption) | ((repeat' (rename _ ∧ _ => h9; obtain ⟨h8, h7⟩ := h9)); first | exact Nat.ne_of_lt (by assumption) | exact Nat.ne_of_gt (by assumption) | assumption | exact Ne.symm (by assumption)) | lia)
  k_with "storeName" => (k_here; (with_reducible show wpAny _ _ (storeName _ _ _) _ _ _); k_dflt (refine' storeY ?F ?N ?_ ?a ?b; (case F => k_asm); (case N => k_asm); (case a => rfl); (case b => rfl); k_whole); intro _ _ _ _ _; (try k_sweep); (try dsimp only))
  k_with "call type:type" => (first
  | ((with_reducible show wpAny _ _ (call (Value.type "type") [Value.bytes _ _]) _ _ _); k_dflt (refine call_type_of (Tx := "bytes") rfl (by decide +kernel) ?_))
  | ((with_reducible show wpAny _ _ (call (Value.type "type") [Value.bool _]) _ _ _); k_dflt (refine call_type_of (Tx := "bool") rfl (by decide +kernel) ?_)))
  k_with "pyIter bytes" => (k_bytesUnr)
  k_with "subscriptTail" => ((with_reducible show wpAny _ _ (subscriptTail _ _ (Value.bytes _ _) (Value.int _ _)) _ _ _); k_dflt (refine b64_tail (by (first | assumption | lia | omega)) (by (first | assumption | lia | omega)) ?_); intro _ _ _ _)
  k_with "binaryOp BitAnd int int" => (k_dflt (first | refine and_v (bitAnd_m16 _) (by decide) ?_ | refine and_v (bitAnd_m6 _) (by decide) ?_ | refine and_v (bitAnd_m4 _) (by decide) ?_ | refine and_v (bitAnd_m2 _) (by decide) ?_); intro _ _ _ _)
  k_with "binaryOp LShift int int" => (k_dflt (first | refine shl_v (M := 256) (by decide) (by decide) (by decide) (by (first | exact nab (by assumption) (by assumption) (by decide) | lia | omega)) ?_ | refine shl_v (M := 4) (by decide) (by decide) (by decide) (by (first | exact nab (by assumption) (by assumption) (by decide) | lia | omega)) ?_ | refine shl_v (M := 16) (by decide) (by decide) (by decide) (by (first | exact nab (by assumption) (by assumption) (by decide) | lia | omega)) ?_ | refine shl_v (M := 64) (by decide) (by decide) (by decide) (by (first | exact nab (by assumption) (by assumption) (by decide) | lia | omega)) ?_); intro _ _)
  k_with "binaryOp RShift int int" => (k_dflt (first | refine shr_v (M := 4) (by decide) (by decide) (by decide) ?_ | refine shr_v (M := 16) (by decide) (by decide) (by decide) ?_ | refine shr_v (M := 64) (by decide) (by decide) (by decide) ?_ | refine shr_v (M := 1) (by decide) (by decide) (by decide) ?_); intro _ _)
  k_with "binaryOp BitOr int int" => (k_dflt (first | refine or_v 8 256 (by assumption) (by decide) (by (first | assumption | exact hx2.1 | exact hx2.2 | exact hy2.1 | exact hy2.2 | exact hz2.1 | exact hz2.2 | lia | omega)) (by (first | assumption | exact hx2.1 | exact hx2.2 | exact hy2.1 | exact hy2.2 | exact hz2.1 | exact hz2.2 | lia | omega)) ?_ | refine or_v 2 4 (by assumption) (by decide) (by (first | assumption | exact hx2.1 | exact hx2.2 | exact hy2.1 | exact hy2.2 | exact hz2.1 | exact hz2.2 | lia | omega)) (by (first | assumption | exact hx2.1 | exact hx2.2 | exact hy2.1 | exact hy2.2 | exact hz2.1 | exact hz2.2 | lia | omega)) ?_ | refine or_v 4 16 (by assumption) (by decide) (by (first | assumption | exact hx2.1 | exact hx2.2 | exact hy2.1 | exact hy2.2 | exact hz2.1 | exact hz2.2 | lia | omega)) (by (first | assumption | exact hx2.1 | exact hx2.2 | exact hy2.1 | exact hy2.2 | exact hz2.1 | exact hz2.2 | lia | omega)) ?_ | refine or_v 6 64 (by assumption) (by decide) (by (first | assumption | exact hx2.1 | exact hx2.2 | exact hy2.1 | exact hy2.2 | exact hz2.1 | exact hz2.2 | lia | omega)) (by (first | assumption | exact hx2.1 | exact hx2.2 | exact hy2.1 | exact hy2.2 | exact hz2.1 | exact hz2.2 | lia | omega)) ?_); intro _ _)
  k_with "call type:bytes" => (k_here; (with_reducible show wpAny _ _ (call (Value.type "bytes") [Value.ref _]) _ _ _); (rename News _ _ _ _ => lN'); (try simp only [List.push_toArray, List.nil_append, List.cons_append] at lN'); k_dflt (refine' KBa.make_K ?kbaF ?kbaN ?kbah ?kbal ?kbai ?kbar ?kban ?_; (case kbaF => k_asm); (case kbaN => k_asm); (case kbah => rfl); (case kbal => kba_isList); (case kbai => kba_listInts); (case kbar => (intro _ kbaM; simp only [List.mem_cons, List.not_mem_nil, or_false] at kbaM; (first | lia | omega))); (case kban => kba_size)); intro _ _ _ _ _ _)
  k_with "my enter" => (k_dflt (refine' code_defB ?k1 ?k2 ?k3 ?k4 ?k5 ?kA ?kF ?kK ?k6 ?k7 ?k8 ?k9 ?kB ?_ ?c2 ?c3 ?c4 ?c5; (case kA => exact rfl); (case kF => exact rfl); (case kK => assumption); (case k1 => k_asm); (case k2 => k_asm); (case k3 => k_asm); (case k4 => exact News.nil); (case k5 => k_asm); (case k6 => k_is); (case k7 => k_is); (case k8 => ktr_room); (case k9 => first | exact BindsTo.of_eq rfl | exact binds_K (by k_in) rfl (by k_is) rfl rfl rfl); (case c5 => decide); (case kB => exact locs rfl); (case c2 => exact rfl); (case c3 => exact rfl); (case c4 => exact rfl); k_whole; intro _ _ _ _ _ _ _ _ _ _ _ _ _; (try dsimp only); (try k_fold)))
  trivial
set_option maxHeartbeats 8000000 in
theorem enc_gives (n : Int) (tx : Tok) (hn0 : 0 ≤ n) (hn1 : n < 2 ^ 24) : Gives w p loose mean mg mb 122 [.bytes (octs n) tx] [] 5 (fun t => .bytes (wrt n) t) := by
  obtain ⟨x, hx⟩ : ∃ x : Int, x = n / 65536 % 256 := ⟨_, rfl⟩
  obtain ⟨y, hy⟩ : ∃ x : Int, x = n / 256 % 256 := ⟨_, rfl⟩
  obtain ⟨z, hz⟩ : ∃ x : Int, x = n % 256 := ⟨_, rfl⟩
  have hB : KBw.bInts (octs n) = [x, y, z] := by rw [hx, hy, hz]; exact octs_ints hn0 hn1
  generalize octs n = bs at hB
  have hx2 := byte_b hx
  have hy2 := byte_b hy
  have hz2 := byte_b hz
  unfold Gives
  k_fill
  intro dp un gd cn cs a ccd cl outer A₀ base h₀ L m news s Q E B F X N T hk hd hu hret
  refine wpAny_call ?_
  walk_at "my enter"
  k_steps
  refine gives_end hret N (by k_asm) (by assumption) (by k_asm) ?_
  exact ⟨_, congrArg (Value.bytes · _) (wrt_of (by assumption) (by assumption) (by assumption) (by assumption) (enc0 (by assumption) (by assumption) (encL1 hx hn0 hn1 (by assumption) (by assumption) (by assumption))) (enc1 (by assumption) (by assumption) (encL2 hy hn0 hn1 (by assumption) (by assumption) (by assumption) (encL1 hx hn0 hn1 (by assumption) (by assumption) (by assumption)))) (enc2 (by assumption) (by assumption) (encL3 hz (by assumption) (by assumption) (by assumption) (encL2 hy hn0 hn1 (by assumption) (by assumption) (by assumption) (encL1 hx hn0 hn1 (by assumption) (by assumption) (by assumption))))) (enc3 (by assumption) (by assumption) (encL3 hz (by assumption) (by assumption) (by assumption) (encL2 hy hn0 hn1 (by assumption) (by assumption) (by assumption) (encL1 hx hn0 hn1 (by assumption) (by assumption) (by assumption))))))⟩
end
end Mine
end
section
open PySem PySem.W PySem.Calls PyProof.Rows PyProof.Rows.LCg
set_option maxRecDepth 100000
namespace Mine
section
variable {w : World} {mean : ExcName → Option Value} {mg mb : Str → Option Value} {p : Program} {loose : List Str}

/-- the words of the walk -/
theorem words_dec1 : True := by
  k_with_none
  k_with "k_room" => ((try simp only [depth_under_make, depth_under_kw, depth_in1, depth_deeper, depth_caller]); (try dsimp only [ktrTop]); first | (refine' room_of ?h 0 rfl ?k; (case h => assumption); (case k => exact rfl)) | (refine' room_of ?h _ (Nat.add_assoc _ _ _) ?k; (case h => assumption); (case k => exact rfl)) | (refine' room_of ?h 1 rfl ?k; (case h => assumption); (case k => exact rfl)) | (refine' room_of ?h _ ((Nat.add_assoc _ _ _).trans (Nat.add_assoc _ _ _)) ?k; (case h => assumption); (case k => exact rfl)) | lia)
  k_with "ktr_room" => (k_room)
  k_with "k_units" => ((try simp only [units_in1, units_deeper, Around.mark_units, units_caller]); (try dsimp only [ktrTop]); first | (refine' room_of ?h _ (Nat.add_assoc _ _ _) ?k; (case h => assumption); (case k => exact rfl)) | (refine' room_of ?h _ ((Nat.add_assoc _ _ _).trans (Nat.add_assoc _ _ _)) ?k; (case h => assumption); (case k => exact rfl)) | (refine' room_of ?h 0 rfl ?k; (case h => assumption); (case k => exact rfl)) | (have hcL9 := cLine_is; lia))
  k_with "k_ne" => (refine neN ?_; (try dsimp only); first | assumption | exact Ne.symm (by assumption) | exact Nat.ne_of_lt (by assumption) | exact Nat.ne_of_gt (by assumption) | ((repeat' (rename _ ∧ _ => h9; obtain ⟨h8, h7⟩ := h9)); first | exact Nat.ne_of_lt (by assumption) | exact Nat.ne_of_gt (by assumption) | assumption | exact Ne.symm (by assumption)) | lia)
  k_with "storeName" => (k_here; (with_reducible show wpAny _ _ (storeName _ _ _) _ _ _); k_dflt (refine' storeY ?F ?N ?_ ?a ?b; (case F => k_asm); (case N => k_asm); (case a => rfl); (case b => rfl); k_whole); intro _ _ _ _ _; (try k_sweep); (try dsimp only))
  k_with "ite" => (k_openite; first | (refine ite_pos (by (try simp only [decide_eq_true_eq, beq_iff_eq, bne_iff_ne, ne_eq]); (first | lia | omega)) ?_; walk_say "PRUNED by (first | lia | omega)") | (refine ite_neg (by (try simp only [decide_eq_true_eq, beq_iff_eq, bne_iff_ne, ne_eq]); (first | lia | omega)) ?_; walk_say "PRUNED by (first | lia | omega)"))
  k_with "my enter" => (k_dflt (refine' code_defB ?k1 ?k2 ?k3 ?k4 ?k5 ?kA ?kF ?kK ?k6 ?k7 ?k8 ?k9 ?kB ?_ ?c2 ?c3 ?c4 ?c5; (case kA => exact rfl); (case kF => exact rfl); (case kK => assumption); (case k1 => k_asm); (case k2 => k_asm); (case k3 => k_asm); (case k4 => exact News.nil); (case k5 => k_asm); (case k6 => k_is); (case k7 => k_is); (case k8 => ktr_room); (case k9 => first | exact BindsTo.of_eq rfl | exact binds_K (by k_in) rfl (by k_is) rfl rfl rfl); (case c5 => decide); (case kB => exact locs rfl); (case c2 => exact rfl); (case c3 => exact rfl); (case c4 => exact rfl); k_whole; intro _ _ _ _ _ _ _ _ _ _ _ _ _; (try dsimp only); (try k_fold)))
  trivial
set_option maxHeartbeats 8000000 in
theorem val_gives (i c : Int) (tx : Tok) (h0 : 0 ≤ i) (h1 : i < 64) (hc : c = ((ch i).toNat : Int)) : Gives w p loose mean mg mb 98 [.int c tx] [] 1 (fun t => .int i t) := by
  have hh := ch_cases i h0 h1
  rw [← hc] at hh
  unfold Gives
  k_fill
  intro dp un gd cn cs a ccd cl outer A₀ base h₀ L m news s Q E B F X N T hk hd hu hret
  refine wpAny_call ?_
  walk_at "my enter"
  rcases hh with ⟨q1, q2, q3⟩ | ⟨q1, q2, q3⟩ | ⟨q1, q2, q3⟩ | ⟨q1, q3⟩ | ⟨q1, q3⟩
  all_goals k_steps
  all_goals first
    | (exfalso; (first | lia | omega))
    | (refine gives_end hret N (by k_asm) (by assumption) (by k_asm) ?_; exact ⟨_, congrArg (Value.int · _) (by (first | lia | omega))⟩)


/-- the words of the walk -/
theorem words_dec2 : True := by
  k_with "call type:type" => (first
  | ((with_reducible show wpAny _ _ (call (Value.type "type") [Value.bytes _ _]) _ _ _); k_dflt (refine call_type_of (Tx := "bytes") rfl (by decide +kernel) ?_))
  | ((with_reducible show wpAny _ _ (call (Value.type "type") [Value.bool _]) _ _ _); k_dflt (refine call_type_of (Tx := "bool") rfl (by decide +kernel) ?_)))
  k_with "my steps" => (repeat' (first | ((fail_if_success (with_reducible show wpAny _ _ (pyIter _) _ _ _)); (fail_if_success (with_reducible show wpAny _ _ (exec (Stmt.If (Expr.Compare (Expr.Name (Str.ofString "quad_pos") _) _ _ _) _ _ _) _) _ _ _)); (fail_if_success (with_reducible show InvEndN _ _ _ _ _ _ _)); first | (k_unfold; (try dsimp only)) | walk1 | (dsimp only; walk1))))
  k_with "my steps2" => (repeat' (first | ((fail_if_success (with_reducible show wpAny _ _ (pyIter _) _ _ _)); (fail_if_success (with_reducible show InvEndN _ _ _ _ _ _ _)); first | (k_unfold; (try dsimp only)) | walk1 | (dsimp only; walk1))))
  k_with "k_all" => (assumption)
  k_with "call builtin:list.append" => (k_dflt (refine' append_K ?k1 ?k2 ?k3 ?_ ?z; (case k1 => k_asm); (case k2 => k_asm); (case k3 => k_upd); (case z => (simp only [List.size_toArray, sizeLine_eq]; lia))); intro _ _ _)
  k_with "binaryOp BitAnd int int" => (k_dflt (first | refine and_v (bitAnd_m16 _) (by decide) ?_ | refine and_v (bitAnd_m6 _) (by decide) ?_ | refine and_v (bitAnd_m4 _) (by decide) ?_ | refine and_v (bitAnd_m2 _) (by decide) ?_); intro _ _ _ _)
  k_with "binaryOp LShift int int" => (k_dflt (first | refine shl_v (M := 256) (by decide) (by decide) (by decide) (by (first | lia | omega)) ?_ | refine shl_v (M := 4) (by decide) (by decide) (by decide) (by (first | lia | omega)) ?_ | refine shl_v (M := 16) (by decide) (by decide) (by decide) (by (first | lia | omega)) ?_ | refine shl_v (M := 64) (by decide) (by decide) (by decide) (by (first | lia | omega)) ?_); intro _ _)
  k_with "binaryOp RShift int int" => (k_dflt (first | refine shr_v (M := 4) (by decide) (by decide) (by decide) ?_ | refine shr_v (M := 16) (by decide) (by decide) (by decide) ?_ | refine shr_v (M := 64) (by decide) (by decide) (by decide) ?_ | refine shr_v (M := 1) (by decide) (by decide) (by decide) ?_); intro _ _)
  k_with "binaryOp BitOr int int" => (k_dflt (first | refine or_v 8 256 (by assumption) (by decide) (by (first | lia | omega)) (by (first | lia | omega)) ?_ | refine or_v 2 4 (by assumption) (by decide) (by (first | lia | omega)) (by (first | lia | omega)) ?_ | refine or_v 4 16 (by assumption) (by decide) (by (first | lia | omega)) (by (first | lia | omega)) ?_ | refine or_v 6 64 (by assumption) (by decide) (by (first | lia | omega)) (by (first | lia | omega)) ?_); intro _ _)
  k_with "call type:bytes" => (k_here; (with_reducible show wpAny _ _ (call (Value.type "bytes") [Value.ref _]) _ _ _); (first | ((rename News _ _ _ _ => lN'); (try simp only [List.push_toArray, List.nil_append, List.cons_append] at lN'); k_dflt (refine' KBa.make_K ?kbaF ?kbaN ?kbah ?kbal ?kbai ?kbar ?kban ?_; (case kbaF => k_asm); (case kbaN => k_asm); (case kbah => rfl); (case kbal => kba_isList); (case kbai => kba_listInts); (case kbar => (intro _ kbaM; simp only [List.mem_cons, List.not_mem_nil, or_false] at kbaM; (first | lia | omega))); (case kban => kba_size)); intro _ _ _ _ _ _)))
  k_with "call ref" => (k_here; (with_reducible show wpAny _ _ (call (Value.ref 98) [Value.int _ _] _) _ _ _); k_dflt (refine' gives_use (val_gives _ _ _ ?q1 ?q2 ?q3) ?k1 ?k2 ?k3 ?k4 ?k5 ?kK ?kd ?ku ?_; (case k1 => k_asm); (case k2 => k_asm); (case k3 => k_asm); (case k4 => k_asm); (case k5 => k_asm); (case kK => exact rfl); (case q3 => assumption); (case q1 => (first | lia | omega)); (case q2 => (first | lia | omega)); (case kd => k_room); (case ku => k_units)); intro _ _ _ _ _; (try dsimp only); (try k_fold))
  trivial
theorem ch_ne (i : Int) (h0 : 0 ≤ i) (h1 : i < 64) : ((ch i).toNat : Int) ≠ 61 := by
  have := ch_cases i h0 h1; (first | lia | omega)
theorem octs_of {n v0 v1 v2 : Int} (h0 : v0 = n / 65536 % 256) (h1 : v1 = n / 256 % 256) (h2 : v2 = n % 256) : byteArr [v0, v1, v2] = octs n := by
  subst h0; subst h1; subst h2; rfl

theorem fr_on {h₀ h : Heap} {L : Addr} {x : Str} {v : Value} {m₁ : Str → Option Value} (F : Fr h₀ L h (fun y => if y = x then some v else m₁ y)) (ps : List (Str × Value)) (hk : ∀ p ∈ ps, m₁ p.1 = some p.2) : Fr h₀ L h (fun y => if y = x then some v else kstB m₁ ps y) := by
  have e : kstB m₁ ps = m₁ := funext fun z => kstB_eq hk fun _ => rfl
  rw [e]; exact F
/-- where the reading stands before the i-th sign -/
def decSt (i0 i1 i2 i3 : Int) : List (Int × Int × List Int) := [(0, 0, []), (1, i0, []), (2, i1 % 16, [i0 * 4 + i1 / 16]), (3, i2 % 4, [i0 * 4 + i1 / 16, i1 % 16 * 16 + i2 / 4]), (0, 0, [i0 * 4 + i1 / 16, i1 % 16 * 16 + i2 / 4, i2 % 4 * 64 + i3])]
def decPs (q lc iv : Int) (tq tl tp ti : Tok) (O : Addr) : List (Str × Value) := [(Str.ofString "quad_pos", .int q tq), (Str.ofString "leftchar", .int lc tl), (Str.ofString "pads", .int 0 tp), (Str.ofString "i", .int iv ti), (Str.ofString "out", .ref O), (Str.ofString "strict_mode", .bool false)]
inductive DecJ (i0 i1 i2 i3 : Int) (O : Addr) (i : Nat) (m : Str → Option Value) (nx : List (Addr × Obj)) : Prop
  | intro (nO : Nat) (ov : List Value) (q lc iv : Int) (os : List Int) (tq tl tp ti : Tok) (e : nx = [(O, listOf (ov : List Value).toArray nO)]) (hst : (decSt i0 i1 i2 i3)[i]? = some (q, lc, os)) (hov : IntsAre ov os) (hl0 : 0 ≤ lc) (hl1 : lc < 64) (hps : ∀ p ∈ decPs q lc iv tq tl tp ti O, m p.1 = some p.2)
theorem decSt_elim {i0 i1 i2 i3 n d q lc : Int} {os : List Int} {i : Nat} {c0 c1 c2 c3 : Int} {C : Nat → Int → Int → List Int → Prop} (hn : [c0, c1, c2, c3][i]? = some n) (hst : (decSt i0 i1 i2 i3)[i]? = some (q, lc, os)) (hd : [i0, i1, i2, i3][i]? = some d)
    (k0 : d = i0 → C 0 0 0 []) (k1 : d = i1 → C 1 1 i0 []) (k2 : d = i2 → C 2 2 (i1 % 16) [i0 * 4 + i1 / 16]) (k3 : d = i3 → C 3 3 (i2 % 4) [i0 * 4 + i1 / 16, i1 % 16 * 16 + i2 / 4]) : C i q lc os := by
  have key : ∀ t : Int × Int × List Int, (decSt i0 i1 i2 i3)[i]? = some t → C i t.1 t.2.1 t.2.2 := by
    intro t ht
    match i with
    | 0 => rw [← Option.some.inj ht]; exact k0 (Option.some.inj hd).symm
    | 1 => rw [← Option.some.inj ht]; exact k1 (Option.some.inj hd).symm
    | 2 => rw [← Option.some.inj ht]; exact k2 (Option.some.inj hd).symm
    | 3 => rw [← Option.some.inj ht]; exact k3 (Option.some.inj hd).symm
    | i + 4 => cases hn
  exact key (q, lc, os) hst
theorem dec_some {i0 i1 i2 i3 n c0 c1 c2 c3 : Int} {i : Nat} (hn : [c0, c1, c2, c3][i]? = some n) : ∃ d, [i0, i1, i2, i3][i]? = some d := by
  match i, hn with
  | 0, _ => exact ⟨_, rfl⟩
  | 1, _ => exact ⟨_, rfl⟩
  | 2, _ => exact ⟨_, rfl⟩
  | 3, _ => exact ⟨_, rfl⟩
theorem ints_snoc {ys : List Value} {l : List Int} {a b : Int} {t : Tok} (h : IntsAre ys l) (e : a = b) : IntsAre (ys ++ [.int a t]) (l ++ [b]) := by
  subst e; exact h.append (.cons _ _ .nil)
theorem dec_end {h₀ h : Heap} {L O : Addr} {m : Str → Option Value} {own : List (Addr × Obj)} {ov : List Value} {os : List Int} {i0 i1 i2 i3 v x q lc iv : Int} {tv tq tl tp ti : Tok} {nO tk i : Nat} {s1 : Shared} (F : Fr h₀ L h m) (N : News h₀ L h ((O, listOf (ov ++ [Value.int v tv]).toArray nO) :: own)) (hov : IntsAre ov os) (hv : v = x)
    (st : (decSt i0 i1 i2 i3)[i + 1]? = some (q, lc, os ++ [x])) (hlc : 0 ≤ lc ∧ lc < 64) (hps : ∀ p ∈ decPs q lc iv tq tl tp ti O, m p.1 = some p.2) : InvEndN h₀ L (DecJ i0 i1 i2 i3 O (i + 1)) own [O] s1 { s1 with heap := h, toks := tk } :=
  InvEndN.intro F N ⟨_, _, _, _, _, _, _, _, _, _, rfl, st, ints_snoc hov hv, hlc.1, hlc.2, hps⟩ rfl (fun p hp => by rw [List.mem_singleton.mp hp]; exact .head _) fun p hp => .tail _ hp
set_option maxHeartbeats 8000000 in
theorem dec_gives (n : Int) (tx : Tok) (hn0 : 0 ≤ n) (hn1 : n < 2 ^ 24) : Gives w p loose mean mg mb 130 [.bytes (wrt n) tx] [] 5 (fun t => .bytes (octs n) t) := by
  obtain ⟨i0, hi0⟩ : ∃ x : Int, x = n / 262144 % 64 := ⟨_, rfl⟩
  obtain ⟨i1, hi1⟩ : ∃ x : Int, x = n / 4096 % 64 := ⟨_, rfl⟩
  obtain ⟨i2, hi2⟩ : ∃ x : Int, x = n / 64 % 64 := ⟨_, rfl⟩
  obtain ⟨i3, hi3⟩ : ∃ x : Int, x = n % 64 := ⟨_, rfl⟩
  obtain ⟨c0, hc0⟩ : ∃ x : Int, x = ((ch i0).toNat : Int) := ⟨_, rfl⟩
  obtain ⟨c1, hc1⟩ : ∃ x : Int, x = ((ch i1).toNat : Int) := ⟨_, rfl⟩
  obtain ⟨c2, hc2⟩ : ∃ x : Int, x = ((ch i2).toNat : Int) := ⟨_, rfl⟩
  obtain ⟨c3, hc3⟩ : ∃ x : Int, x = ((ch i3).toNat : Int) := ⟨_, rfl⟩
  have b0 := sx_b hi0
  have g0 : c0 ≠ 61 := hc0 ▸ ch_ne i0 b0.1 b0.2
  have b1 := sx_b hi1
  have g1 : c1 ≠ 61 := hc1 ▸ ch_ne i1 b1.1 b1.2
  have b2 := sx_b hi2
  have g2 : c2 ≠ 61 := hc2 ▸ ch_ne i2 b2.1 b2.2
  have b3 := sx_b hi3
  have g3 : c3 ≠ 61 := hc3 ▸ ch_ne i3 b3.1 b3.2
  have hB : KBw.bInts (wrt n) = [c0, c1, c2, c3] := by rw [hc0, hc1, hc2, hc3, hi0, hi1, hi2, hi3]; exact wrt_ints n
  generalize wrt n = bs at hB
  unfold Gives
  k_fill
  intro dp un gd cn cs a ccd cl outer A₀ base h₀ L m news s Q E B F X N T hk hd hu hret
  refine wpAny_call ?_
  walk_at "my enter"
  walk_at "my steps"
  rename Fr _ _ _ _ => F1
  rename News _ _ _ _ => N1
  have hI : ∀ (j : Nat) (d c : Int), [i0, i1, i2, i3][j]? = some d → [c0, c1, c2, c3][j]? = some c → 0 ≤ d ∧ d < 64 ∧ c = ((ch d).toNat : Int) ∧ c ≠ 61 := by
    intro j d c hd hc
    match j with
    | 0 => cases hd; cases hc; exact ⟨b0.1, b0.2, hc0, g0⟩
    | 1 => cases hd; cases hc; exact ⟨b1.1, b1.2, hc1, g1⟩
    | 2 => cases hd; cases hc; exact ⟨b2.1, b2.2, hc2, g2⟩
    | 3 => cases hd; cases hc; exact ⟨b3.1, b3.2, hc3, g3⟩
    | j + 4 => cases hd
  clear hc0 hc1 hc2 hc3 g0 g1 g2 g3 b0 b1 b2 b3
  rename_i O _ _ _ _ _ _ _ _ _ _ _ _ _ _ _ _ _ 
  refine iter_bytesN (DecJ i0 i1 i2 i3 O) hB rfl F1 N1 ?hj ?ht ?hdn
  case hj =>
    refine ⟨0, [], 0, 0, 0, [], ?wa, ?wb, ?wc, ?wd, rfl, rfl, .nil, by decide, by decide, ?we⟩
    case we =>
      unfold decPs
      refine List.forall_mem_cons.mpr ⟨?_, List.forall_mem_cons.mpr ⟨?_, List.forall_mem_cons.mpr ⟨?_, List.forall_mem_cons.mpr ⟨?_, List.forall_mem_cons.mpr ⟨?_, List.forall_mem_cons.mpr ⟨?_, fun _ h => nomatch h⟩⟩⟩⟩⟩⟩
      all_goals (with_unfolding_all exact rfl)
  case ht =>
    try clear F1 N1
    rintro i n t m₁ nx h tk own hn hoff ⟨nO, ov, q, lc, iv, os, tq, tl, tp, ti, rfl, hst, hov, hl0, hl1, hps⟩ F2 N2
    refine ex_k (dec_some (i0 := i0) (i1 := i1) (i2 := i2) (i3 := i3) hn) ?_
    intro d hd
    refine and4 (hI i d n hd hn) ?_
    intro d0 d1 hnd n61
    have F3 := fr_on F2 _ hps
    have oO := OwnOff.ne hoff (show _ ∈ [_] from List.Mem.head _)
    clear F2 hI
    unfold decPs at F3
    dsimp only [kstB] at F3
    walk_at "my steps"
    clear hi0 hi1 hi2 hi3 hnd n61
    rename Fr _ _ _ _ => F8
    dsimp +zetaDelta only at F8
    clear hps
    revert F8 hov hl0 hl1
    apply decSt_elim hn hst hd
    all_goals clear hn hst hd
    all_goals intro ed hov hl0 hl1 F8
    · walk_at "my steps2"
      rename Fr _ _ _ _ => F9
      rename News _ _ _ _ => N9
      refine' InvEndN.intro F9 N9 ⟨_, ov, 1, d, ?iv0, [], ?tq0, ?tl0, ?tp0, ?ti0, rfl, (by rw [ed]; rfl), hov, d0, d1, ?fa0⟩ rfl (fun p hp => ?ha) fun p hp => .tail _ hp
      case fa0 =>
        unfold decPs
        refine List.forall_mem_cons.mpr ⟨?_, List.forall_mem_cons.mpr ⟨?_, List.forall_mem_cons.mpr ⟨?_, List.forall_mem_cons.mpr ⟨?_, List.forall_mem_cons.mpr ⟨?_, List.forall_mem_cons.mpr ⟨?_, fun _ h => nomatch h⟩⟩⟩⟩⟩⟩
        all_goals (with_unfolding_all exact rfl)
      case ha =>
        rw [List.mem_singleton.mp hp]; exact .head _
    · have hsz := hov.length
      walk_at "my steps2"
      rename Fr _ _ _ _ => F9
      rename News _ _ _ _ => N9
      subst_vars
      try simp only [List.push_toArray] at N9
      refine' dec_end (tq := ?tq1) (tl := ?tl1) (tp := ?tp1) (ti := ?ti1) (iv := ?iv1) F9 N9 hov ?hv1 rfl ?hl1 ?fa1
      case fa1 =>
        unfold decPs
        refine List.forall_mem_cons.mpr ⟨?_, List.forall_mem_cons.mpr ⟨?_, List.forall_mem_cons.mpr ⟨?_, List.forall_mem_cons.mpr ⟨?_, List.forall_mem_cons.mpr ⟨?_, List.forall_mem_cons.mpr ⟨?_, fun _ h => nomatch h⟩⟩⟩⟩⟩⟩
        all_goals (with_unfolding_all exact rfl)
      case hv1 => rfl
      case hl1 => exact ⟨by lia, by lia⟩
    · have hsz := hov.length
      walk_at "my steps2"
      rename Fr _ _ _ _ => F9
      rename News _ _ _ _ => N9
      subst_vars
      try simp only [List.push_toArray] at N9
      refine' dec_end (tq := ?tq2) (tl := ?tl2) (tp := ?tp2) (ti := ?ti2) (iv := ?iv2) F9 N9 hov ?hv2 rfl ?hl2 ?fa2
      case fa2 =>
        unfold decPs
        refine List.forall_mem_cons.mpr ⟨?_, List.forall_mem_cons.mpr ⟨?_, List.forall_mem_cons.mpr ⟨?_, List.forall_mem_cons.mpr ⟨?_, List.forall_mem_cons.mpr ⟨?_, List.forall_mem_cons.mpr ⟨?_, fun _ h => nomatch h⟩⟩⟩⟩⟩⟩
        all_goals (with_unfolding_all exact rfl)
      case hv2 => rfl
      case hl2 => exact ⟨by lia, by lia⟩
    · have hsz := hov.length
      walk_at "my steps2"
      rename Fr _ _ _ _ => F9
      rename News _ _ _ _ => N9
      subst_vars
      try simp only [List.push_toArray] at N9
      refine' dec_end (tq := ?tq3) (tl := ?tl3) (tp := ?tp3) (ti := ?ti3) (iv := ?iv3) F9 N9 hov ?hv3 rfl ?hl3 ?fa3
      case fa3 =>
        unfold decPs
        refine List.forall_mem_cons.mpr ⟨?_, List.forall_mem_cons.mpr ⟨?_, List.forall_mem_cons.mpr ⟨?_, List.forall_mem_cons.mpr ⟨?_, List.forall_mem_cons.mpr ⟨?_, List.forall_mem_cons.mpr ⟨?_, fun _ h => nomatch h⟩⟩⟩⟩⟩⟩
        all_goals (with_unfolding_all exact rfl)
      case hv3 => rfl
      case hl3 => exact ⟨by lia, by lia⟩
  case hdn =>
    rintro m₁ nx h tk ⟨nO, ov, q, lc, iv, os, tq, tl, tp, ti, rfl, hst, hov, -, -, hps⟩ F2 N2
    cases hst
    try clear F1 N1
    try clear hI
    have F3 : Fr _ _ h (kstB m₁ _) := (funext fun z => kstB_eq hps fun _ => rfl : kstB m₁ _ = m₁).symm ▸ F2
    clear F2 hps
    unfold decPs at F3
    dsimp only [kstB] at F3
    cases hov with
    | cons v1 u1 r1 => cases r1 with
      | cons v2 u2 r2 => cases r2 with
        | cons v3 u3 r3 =>
          cases r3
          k_steps
          refine gives_end hret N (by k_asm) (by assumption) (by k_asm) ?_
          exact ⟨_, congrArg (Value.bytes · _) (octs_of (dec0 hi0 hi1 hn0 hn1) (dec1 hi1 hi2) (dec2 hi2 hi3))⟩
end
end Mine
end
section
open PySem PySem.W PySem.Calls PyProof.Rows
set_option maxRecDepth 100000
namespace Mine

/-- the bytes of a value -/
def vb : Value → List UInt8
  | .bytes b _ => b.toList
  | _ => []
def IsB (v : Value) : Prop := ∃ b t, v = .bytes b t
def AllB (vs : List Value) : Prop := ∀ v ∈ vs, IsB v
/-- the list without its first value of these bytes -/
def rmv (v : Value) : List Value → Option (List Value)
  | [] => none
  | x :: r => if vb x == vb v then some r else (rmv v r).map (x :: ·)
/-- what the function does: the items of the first list, the last first -/
def uldR : List Value → List Value → List Value → List Value × List Value
  | [], Y, M => (M, Y)
  | v :: X, Y, M => match rmv v Y with
    | some Y' => uldR X Y' M
    | none => uldR X Y (M ++ [v])

section
variable {prog : Program} {w : World} {A : Around} {E : Value → Shared → Prop} {s : Shared}
theorem eqBool_bytes {a b : Array UInt8} {t u : Tok} {Q : Bool → Shared → Prop} (h : Q (a.toList == b.toList) s) : wpAny (model prog w) A (eqBool (.bytes a t) (.bytes b u)) Q E s := by
  unfold eqBool
  show wpAny _ _ (if (Value.bytes a t == Value.bytes b u) = true then _ else _) Q E s
  by_cases hab : (Value.bytes a t == Value.bytes b u) = true
  · rw [if_pos hab]
    have e : a = b := by have := eq_of_beq hab; injection this
    subst e
    exact wpAny_bind (wpAny_rule (wpAny_pure (by simpa using h)))
  · rw [if_neg hab]
    exact wpAny_bind (richCompare_gives (op := .Eq) (T := "bytes") rfl rfl FB.slot_bytes_eq FB.entry_bytes_eq (FB.args_bytes_eq_2 _ _) (gives_bytes_eq a b t u) (fun x => nomatch x) (wpAny_truthy_bool h))
end
theorem eqGives_bytes {y x : Value} (hy : IsB y) (hx : IsB x) : MeetsSeq.EqGives y x (vb y == vb x) := by
  obtain ⟨a, t, rfl⟩ := hy
  obtain ⟨b, u, rfl⟩ := hx
  exact fun _ _ _ _ _ _ h => eqBool_bytes h
theorem rmv_some {v : Value} : ∀ {l q : List Value}, rmv v l = some q → ∃ j, ∃ hj : j < l.length, (vb l[j] == vb v) = true ∧ (∀ i (hi : i < l.length), i < j → (vb l[i] == vb v) = false) ∧ q = l.eraseIdx j
  | [], _, h => by simp [rmv] at h
  | x :: r, q, h => by
    unfold rmv at h
    by_cases e : (vb x == vb v) = true
    · rw [if_pos e] at h
      cases h
      exact ⟨0, by simp, by simpa using e, fun i _ hi => absurd hi (Nat.not_lt_zero _), by simp⟩
    · rw [if_neg e] at h
      cases hr : rmv v r with
      | none => rw [hr] at h; cases h
      | some q' =>
        rw [hr] at h
        obtain ⟨j, hj, h1, h2, h3⟩ := rmv_some hr
        cases h
        refine ⟨j + 1, by simpa using hj, by simpa using h1, fun i hi hlt => ?_, by simp [h3]⟩
        cases i with
        | zero => simpa using e
        | succ i => simpa using h2 i (by simpa using hi) (by (first | lia | omega))
theorem rmv_none {v : Value} : ∀ {l : List Value}, rmv v l = none → ∀ i (hi : i < l.length), (vb l[i] == vb v) = false
  | [], _, i, hi => absurd hi (by simp)
  | x :: r, h, i, hi => by
    unfold rmv at h
    by_cases e : (vb x == vb v) = true
    · rw [if_pos e] at h; cases h
    · rw [if_neg e] at h
      cases hr : rmv v r with
      | some q' => rw [hr] at h; cases h
      | none =>
        cases i with
        | zero => simpa using e
        | succ i => simpa using rmv_none hr i (by simpa using hi)
theorem rmv_sub {v : Value} {l q : List Value} (h : rmv v l = some q) : (∀ x ∈ q, x ∈ l) ∧ q.length + 1 = l.length := by
  obtain ⟨j, hj, _, _, rfl⟩ := rmv_some h
  exact ⟨fun x hx => List.mem_of_mem_eraseIdx hx, by rw [List.length_eraseIdx_of_lt hj]; (first | lia | omega)⟩

section
variable {prog : Program} {w : World} {A : Around} {E : Value → Shared → Prop} {s : Shared} {h₀ : Heap} {L D : Addr} {m : Str → Option Value} {news news' : List (Addr × Obj)} {n : Nat} {v : Value} {l q : List Value} {Q : Value → Shared → Prop}
theorem remove_ok (F : Fr h₀ L s.heap m) (N : News h₀ L s.heap news) (e : rmv v l = some q) (hb : AllB l) (hv : IsB v) (U : Upd D (listOf l.toArray n) (listOf q.toArray (n + 1)) news news') (hz : l.length ≤ 16777216)
    (h : ∀ h', Fr h₀ L h' m → News h₀ L h' news' → Q .none { s with heap := h' }) : wpAny (model prog w) A (call (.builtin "list.remove") [.ref D, v]) Q E s := by
  obtain ⟨pre, post, rfl, rfl, a', b'⟩ := U.split
  have z := N (D, listOf l.toArray n) (List.mem_append.mpr (.inr (.head _)))
  obtain ⟨j, hj, h1, h2, h3⟩ := rmv_some e
  have hz' : l.toArray.size ≤ sizeLine := by rw [List.size_toArray, sizeLine_eq]; exact hz
  refine call_meets PySem.F.slot_list_remove ⟨_, z.1, rfl⟩ PySem.F.entry_list_remove (PySem.F.args_list_remove_2 _ _)
    (MeetsSeq.list_remove D l.toArray n v (fun y => vb y == vb v) (fun y hy => eqGives_bytes (hb y (by simpa using hy)) hv) j (by simpa using hj) (by simpa using h1) (fun i hi hlt => by simpa using h2 i (by simpa using hi) hlt) hz')
    ⟨z.1, h _ (F.change (Heap.SameBut.update ..) z.2.1 z.2.2) (kl_turn _ N a' b' ?_ ?_)⟩
  · show l.toArray.eraseIdxIfInBounds j = q.toArray
    rw [h3]
    apply Array.toList_inj.mp
    simp [Array.toList_eraseIdxIfInBounds]
  · rw [List.size_toArray, List.size_toArray, h3, List.length_eraseIdx_of_lt hj]; (first | lia | omega)
theorem remove_no (N : News h₀ L s.heap news) (hm : (D, listOf l.toArray n) ∈ news) (e : rmv v l = none) (hb : AllB l) (hv : IsB v) (hh : A.handled = none)
    (h : ∀ h' tk x, Heap.NewExc s.heap h' x "ValueError" → E (.ref x) { s with heap := h', toks := tk }) : wpAny (model prog w) A (call (.builtin "list.remove") [.ref D, v]) Q E s := by
  have z := N _ hm
  exact call_meets PySem.F.slot_list_remove ⟨_, z.1, rfl⟩ PySem.F.entry_list_remove (PySem.F.args_list_remove_2 _ _)
    (MeetsSeq.list_remove_none D l.toArray n v (fun y => vb y == vb v) (fun y hy => eqGives_bytes (hb y (by simpa using hy)) hv) (fun i hi => by simpa using rmv_none e i (by simpa using hi))) ⟨z.1, hh, h⟩
theorem pop_ok {y : Value} (F : Fr h₀ L s.heap m) (N : News h₀ L s.heap news) (U : Upd D (listOf (l ++ [y]).toArray n) (listOf l.toArray (n + 1)) news news') (hz : (l ++ [y]).length ≤ 16777216)
    (h : ∀ h', Fr h₀ L h' m → News h₀ L h' news' → Q y { s with heap := h' }) : wpAny (model prog w) A (call (.builtin "list.pop") [.ref D]) Q E s := by
  obtain ⟨pre, post, rfl, rfl, a, b⟩ := U.split
  have z := N (D, listOf (l ++ [y]).toArray n) (List.mem_append.mpr (.inr (.head _)))
  have hz' : (l ++ [y]).toArray.size ≤ sizeLine := by rw [List.size_toArray, sizeLine_eq]; exact hz
  have hk : (l ++ [y]).toArray.size - 1 = l.length := by rw [List.size_toArray, List.length_append]; rfl
  have hy : (l ++ [y]).toArray[(l ++ [y]).toArray.size - 1]? = some y := by rw [hk]; simp
  refine call_meets PySem.F.slot_list_pop ⟨_, z.1, rfl⟩ PySem.F.entry_list_pop (PySem.F.args_list_pop_1 _) (PySem.MeetsSeq.list_pop_last D _ n y hy hz') ⟨z.1, h _ (F.change (Heap.SameBut.update ..) z.2.1 z.2.2) (kl_turn _ N a b ?_ ?_)⟩
  · show (l ++ [y]).toArray.eraseIdxIfInBounds ((l ++ [y]).toArray.size - 1) = l.toArray
    rw [hk, kl_erase, List.append_nil]
  · rw [List.size_toArray, List.size_toArray, List.length_append]
    simp
theorem truthy_led {Q : Bool → Shared → Prop} (N : News h₀ L s.heap news) (hm : (D, listOf l.toArray n) ∈ news) (hz : l.length ≤ 16777216)
    (h : ∀ tk, Q (decide (l ≠ [])) { s with toks := tk }) : wpAny (model prog w) A (truthy (.ref D)) Q E s := by
  have z := N _ hm
  have hl : s.heap.IsList D l.toArray := ⟨_, z.1, rfl, n, rfl⟩
  refine wpAny_truthy_list hl (by rw [List.size_toArray]; (first | lia | omega)) ?_
  have e : (!l.toArray.isEmpty) = decide (l ≠ []) := by
    cases l with
    | nil => rfl
    | cons x r => simp
  rw [e]; exact h _
end
end Mine
end
section
open PySem PySem.W PySem.Calls PyProof.Rows PyProof.Rows.TI
set_option maxRecDepth 100000
namespace Mine
section
variable {prog : Program} {w : World} {A A₀ : Around} {E : Value → Shared → Prop} {s : Shared} {K : Frag} {L : Addr} {h₀ base : Heap} {m mg mb : Str → Option Value} {news : List (Addr × Obj)} {p : Program} {loose : List Str} {mean : ExcName → Option Value}

/-- entering a def: what it may change (frames too) lies in its ledger -/
theorem code_defF {R : Result → Shared → Prop} {name qual : Str} {params : Arguments} {body : List Stmt} {scope : Scope} {dV kV doc pm cdv ct oc : Value} {an od : Option Addr} {osl : Array (Option Value)} {f : Addr} {args : Args} {binds : List (Str × Value)}
    (st : base.StaysIn s.heap) (X₀ : K.In base) (T : Top p loose mean mg mb base) (hn : ∀ q ∈ news, s.heap.get? q.1 = some q.2 ∧ base.get? q.1 = none)
    (ho : K.lookup f = some ⟨oc, od, .func (fnOf name qual params body scope dV kV doc pm an cdv ct), osl⟩) (hcd : codeIn K cdv qual = true) (hroom : A.depth < recursionLimit)
    (hbind : BindsTo s (fnOf name qual params body scope dV kV doc pm an cdv ct) args binds) (hloc : ∀ y ∈ binds, scope.names.lookup y.1 = some .local)
    (h : ∀ g L' h₁, g.objs.size = L' → Kept (news.map (·.1)) s.heap g → (∀ b o, g.get? b = some o → s.heap.get? b = some o) → base.StaysIn g → Fr g L' h₁ (fun y => binds.reverse.lookup y) → News g L' h₁ news → (∀ q ∈ news, q.1 < L') → K.In g → Top p loose mean mg mb g →
      wpAny (model prog w) (A.deeper (envOf qual scope L' f cdv)) (execs body (envOf qual scope L' f cdv))
        (fun fl s' => R (.ok (.ret (match fl with | .ret v => v | _ => .none))) s')
        (fun e s' => wpAny (model prog w) (A.deeper (envOf qual scope L' f cdv)) (leaving (envOf qual scope L' f cdv) e) (fun _ s'' => R (.error e) s'') (fun e' s'' => R (.error e') s'') s')
        { s with heap := h₁, toks := s.toks + binds.length })
    (hco : scope.isCoroutine = false) (hgen : scope.isGenerator = false) (hk : scope.kind = .function)
    (hcell : ∀ x ∈ scope.names, x.2 ≠ .cell) : codeAny (model prog w) A (.call (.ref f) args) R s := by
  have sg : base.StaysIn (hideAll s.heap (news.map (·.1))) := fun b o e => hideAll_get _ (st b o e) fun hm => by
    obtain ⟨q, hq, rfl⟩ := List.mem_map.mp hm
    rw [(hn q hq).2] at e; cases e
  refine codeAny_call_def (fd := fnOf name qual params body scope dV kV doc pm an cdv ct) (body := body) (binds := binds) hroom ((X₀.keeps st) _ _ ho) rfl (T.nolimit.keeps st) (codeRec_of (X₀.keeps st) hcd) rfl hbind hcell hloc (fun h₁ hns hk₁ => ?_) hco hgen hk
  exact h _ s.heap.objs.size h₁ (hideAll_size _ _) (fun b o e n => hideAll_get _ e n) (fun b o e => of_hideAll _ e) sg ⟨hns, fun b o e => hk₁ b o (of_hideAll _ e), Nat.le_of_eq (hideAll_size _ _)⟩
    (fun q hq => ⟨hk₁ _ _ (hn q hq).1, Nat.ne_of_lt (Heap.lt_size (hn q hq).1), hideAll_none _ (List.mem_map_of_mem hq)⟩) (fun q hq => Heap.lt_size (hn q hq).1) (X₀.keeps sg) (T.keeps sg)
end

section
variable {prog : Program} {w : World} {A₀ : Around} {E : Value → Shared → Prop} {s' : Shared} {hb h : Heap} {L a e : Addr} {m : Str → Option Value} {name : Str} {scope : Scope} {cd : Value} {l : List Env} {frs new : List (Addr × Obj)}
  {b₀ : Stmt} {suite : List Stmt} {pos np : Pos} {rest : List ExceptHandler} {Q : Flow → Shared → Prop} {K : Frag} {p : Program} {loose : List Str} {mg mb : Str → Option Value}
/-- a ValueError that a built-in raises under the frame's own try -/
theorem caught_own (hfr : A₀.frames = some l) (Fs : Frs l frs) (hx : Heap.NewExc h s'.heap e "ValueError") (F : Fr hb L h m) (N : News hb L h (new ++ frs)) (hap : ∀ p ∈ new, p.1 ∉ L :: frs.map (·.1))
    (X : K.In hb) (T : TopRead p loose mg mb hb) (ex : nsIn K mainGlobals (Str.ofString "ValueError") = some none)
    (k : ∀ h' frs', SameUp frs frs' → Frs l frs' → Fr hb L h' m → News hb L h' (new ++ frs') →
      wpAny (model prog w) ((A₀.deeper (envOf name scope L a cd)).mark (some (.ref e))) (execs (b₀ :: suite) (envOf name scope L a cd)) Q E { s' with heap := h' })
    (hk : scope.kind = .function := by rfl) (hxk : (envOf name scope L a cd).kindOf (Str.ofString "ValueError") = some .globalImplicit := by rfl)
    (hE : PassesOwnAt (model prog w) ((A₀.deeper (envOf name scope L a cd)).mark (some (.ref e))) (A₀.deeper (envOf name scope L a cd)) (envOf name scope L a cd) E := by passes_own) :
    wpAny (model prog w) (A₀.deeper (envOf name scope L a cd)) (noteFrame (.ref e) (envOf name scope L a cd))
      (fun _ s₂ => wpAny (model prog w) (A₀.deeper (envOf name scope L a cd)) (setFlight (.ref e) none) (fun _ s₃ =>
        wpAny (model prog w) (A₀.deeper (envOf name scope L a cd)) (handleBy (.ref e) (envOf name scope L a cd) (.ExceptHandler (some (.Name (Str.ofString "ValueError") np)) none (b₀ :: suite) pos :: rest)) Q E s₃) E s₂) E s' := by
  refine TLg.noted_newA (new := new) hfr Fs hx F N hap (fun h' frs' SU Fs' H => ?_) hk
  refine TT.HeldNA.land (s' := { s' with heap := h' }) H fun h'' H2 => ?_
  refine wpAny_handleBy_builtin (X := "ValueError") (T := "ValueError") (b := true) PySem.F.isExc_ValueError PySem.F.notTuple_ValueError (by rw [isSubtype_type]; kernel_rfl)
    (name_B (s := { s' with heap := h'' }) (K := K) H2.held.fr X T ex PyProof.Rows.Boot.«ValueError» (by decide) ⟨rfl, TT.HeldNA.isA (s' := { s' with heap := h'' }) H2, ?_⟩ hk hxk (by decide))
  rw [if_pos rfl]
  exact TT.HeldNA.lands (s' := { s' with heap := h'' }) H2 fun h3 F3 N3 => wpAny_passesOwnAt hE (k h3 frs' SU Fs' F3 N3)
end
theorem two_up {L1 L2 : Addr} {o1 o2 : Obj} {frs' : List (Addr × Obj)} (SU : SameUp [(L1, o1), (L2, o2)] frs') : ∃ s1 s2, frs' = [(L1, { o1 with slots := s1 }), (L2, { o2 with slots := s2 })] := by
  cases frs' with
  | nil => exact False.elim SU
  | cons q qs =>
    cases qs with
    | nil => exact False.elim SU.2.2
    | cons q2 qs2 =>
      cases qs2 with
      | nil =>
        obtain ⟨h1, ⟨s1, e1⟩, h2, ⟨s2, e2⟩, _⟩ := SU
        refine ⟨s1, s2, ?_⟩
        rw [show q = (q.1, q.2) from rfl, show q2 = (q2.1, q2.2) from rfl, show q.1 = L1 from h1, show q2.1 = L2 from h2, show q.2 = { o1 with slots := s1 } from e1, show q2.2 = { o2 with slots := s2 } from e2]
      | cons _ _ => exact False.elim SU.2.2.2.2
end Mine
end
section
open PySem PySem.W PySem.Calls PyProof.Rows PyProof.Rows.TI
set_option maxRecDepth 100000
namespace Mine
section
variable {prog : Program} {w : World} {A : Around} {E : Value → Shared → Prop} {s : Shared} {h₀ : Heap} {L D : Addr} {news : List (Addr × Obj)} {n : Nat} {l : List Value} {y : Value} {Q : Bool → Shared → Prop}
theorem truthy_nil (N : News h₀ L s.heap news) (hm : (D, listOf (([] : List Value).toArray) n) ∈ news) (h : ∀ tk, Q false { s with toks := tk }) : wpAny (model prog w) A (truthy (.ref D)) Q E s :=
  truthy_led N hm (by simp) fun tk => h tk
theorem truthy_snoc (N : News h₀ L s.heap news) (hm : (D, listOf ((l ++ [y]).toArray) n) ∈ news) (hz : (l ++ [y]).length ≤ 16777216) (h : ∀ tk, Q true { s with toks := tk }) : wpAny (model prog w) A (truthy (.ref D)) Q E s :=
  truthy_led N hm hz fun tk => by
    have e : decide (l ++ [y] ≠ []) = true := by simp
    rw [e]; exact h tk
end
structure US where
  M : List Value
  X : List Value
  Y : List Value
  nm : Nat
  nx : Nat
  ny : Nat
  s1 : Array (Option Value)
  s2 : Array (Option Value)
section
variable {w : World} {mean : ExcName → Option Value} {mg mb : Str → Option Value} {p : Program} {loose : List Str}

/-- the words of the walk -/
theorem words_uld1 : True := by
  k_with_none
  k_with "k_room" => ((try simp only [depth_under_make, depth_under_kw, depth_in1, depth_deeper, depth_caller]); (try dsimp only [ktrTop]); first | (refine' room_of ?h 0 rfl ?k; (case h => assumption); (case k => exact rfl)) | (refine' room_of ?h _ (Nat.add_assoc _ _ _) ?k; (case h => assumption); (case k => exact rfl)) | (refine' room_of ?h 1 rfl ?k; (case h => assumption); (case k => exact rfl)) | (refine' room_of ?h _ ((Nat.add_assoc _ _ _).trans (Nat.add_assoc _ _ _)) ?k; (case h => assumption); (case k => exact rfl)) | lia)
  k_with "ktr_room" => (k_room)
  k_with "k_units" => ((try simp only [units_in1, units_deeper, Around.mark_units, units_caller]); (try dsimp only [ktrTop]); first | (refine' room_of ?h _ (Nat.add_assoc _ _ _) ?k; (case h => assumption); (case k => exact rfl)) | (refine' room_of ?h _ ((Nat.add_assoc _ _ _).trans (Nat.add_assoc _ _ _)) ?k; (case h => assumption); (case k => exact rfl)) | (refine' room_of ?h 0 rfl ?k; (case h => assumption); (case k => exact rfl)) | (have hcL9 := cLine_is; lia))
  k_with "k_ne" => (refine neN ?_; (try dsimp only); first | assumption | exact Ne.symm (by assumption) | exact Nat.ne_of_lt (by assumption) | exact Nat.ne_of_gt (by assumption) | ((repeat' (rename _ ∧ _ => h9; obtain ⟨h8, h7⟩ := h9)); first | exact Nat.ne_of_lt (by assumption) | exact Nat.ne_of_gt (by assumption) | assumption | exact Ne.symm (by assumption)) | lia)
  k_with "truthy ref" => (k_dflt (first | (refine' truthy_nil ?tN ?tm ?_; (case tN => k_asm); (case tm => k_mem)) | (refine' truthy_snoc ?tN ?tm ?tz ?_; (case tN => k_asm); (case tm => k_mem); (case tz => assumption))); intro _)
  k_with "call builtin:list.pop" => (k_dflt (refine' pop_ok ?k1 ?k2 ?k3 ?k4 ?_; (case k1 => k_asm); (case k2 => k_asm); (case k3 => k_upd); (case k4 => assumption)); intro _ _ _)
  k_with "call builtin:list.remove" => (k_dflt (first
  | (refine' remove_ok ?k1 ?k2 ?k3 ?k4 ?k5 ?k6 ?k7 ?_; (case k3 => assumption); (case k1 => k_asm); (case k2 => k_asm); (case k4 => assumption); (case k5 => assumption); (case k6 => k_upd); (case k7 => (first | lia | omega)); intro h' F' N')
  | (refine' remove_no ?k1 ?k2 ?k3 ?k4 ?k5 ?k6 ?_; (case k3 => assumption); (case k1 => k_asm); (case k2 => k_mem); (case k4 => assumption); (case k5 => assumption); (case k6 => exact rfl); intro h' tk' x' hx')))
  k_with "call builtin:list.append" => (k_dflt (refine' append_K ?k1 ?k2 ?k3 ?_ ?z; (case k1 => k_asm); (case k2 => k_asm); (case k3 => k_upd); (case z => (simp only [List.size_toArray, sizeLine_eq]; (first | lia | omega)))); intro _ _ _)
  k_with "my steps" => (repeat' (first | ((fail_if_success (with_reducible show wpAny _ _ (exec (Stmt.While _ _ _ _) _) _ _ _)); (fail_if_success (with_reducible show wpAny _ _ (noteFrame _ _) _ _ _)); (fail_if_success (with_reducible show KswEnd _ _ _ _ _ _ _ _ _ _ _ _)); first | (k_unfold; (try dsimp only)) | walk1 | (dsimp only; walk1))))
  trivial
theorem uld_map {m₀ u : Str → Option Value} {v : Value} : ∀ z, (∀ p ∈ ([] : List (Str × Value)), z ≠ p.1) → [Str.ofString "item"].contains z = false → (fun y => if y = Str.ofString "item" then some v else kstB (fun z => if [Str.ofString "item"].contains z = true then u z else m₀ z) [] y) z = m₀ z := by
  intro z _ hz
  have h1 : z ≠ Str.ofString "item" := fun e => by rw [e] at hz; simp at hz
  show (if z = Str.ofString "item" then some v else if [Str.ofString "item"].contains z = true then u z else m₀ z) = m₀ z
  rw [if_neg h1, hz]; simp
set_option maxHeartbeats 8000000 in
theorem uld_does (dp un : Nat) (gd : Option (List Code)) (cn : Str) (cs : Scope) (L1 a : Addr) (ccd : Value) (cl : List (Str × Addr)) (e2 : Env) (base : Heap) (s : Shared) (Q E : Value → Shared → Prop) (le la L2 : Addr) (o1 o2 : Obj) (X Y : List Value) (nx ny : Nat)
    (Fs : Frs [envX cn cs L1 a ccd cl, e2] [(L1, o1), (L2, o2)]) (st : base.StaysIn s.heap) (XB : (hd.heap_39 w.params).In base) (T : Top p loose mean mg mb base)
    (g1 : s.heap.get? L1 = some o1) (g2 : s.heap.get? L2 = some o2) (gle : s.heap.get? le = some (listOf X.toArray nx)) (gla : s.heap.get? la = some (listOf Y.toArray ny))
    (b1 : base.get? L1 = none) (b2 : base.get? L2 = none) (ble : base.get? le = none) (bla : base.get? la = none)
    (n1 : le ≠ la) (n2 : le ≠ L1) (n3 : le ≠ L2) (n4 : la ≠ L1) (n5 : la ≠ L2) (n6 : L1 ≠ L2) (hX : AllB X) (hY : AllB Y) (hxl : X.length ≤ 1000) (hyl : Y.length ≤ 1000) (hdp : dp + 2 < recursionLimit) (hun : un + 16 < cLine)
    (ret : ∀ h' tk' t lm k1 k2 sl1 sl2, Kept [le, la, L1, L2] s.heap h' → h'.get? L1 = some { o1 with slots := sl1 } → h'.get? L2 = some { o2 with slots := sl2 } → h'.get? t = some { cls := .type "tuple", data := .seq #[.ref lm, .ref la] } →
      h'.get? lm = some (listOf (uldR X.reverse Y []).1.toArray k1) → h'.get? la = some (listOf (uldR X.reverse Y []).2.toArray k2) → s.heap.get? t = none → s.heap.get? lm = none → t ≠ lm → Q (.ref t) { s with heap := h', toks := tk' }) :
    wpAny (model Challenge.rw_pa0040_01.row.prog w) (ktrTop dp un gd cn cs L1 a ccd cl [e2]) (call (.ref 137) [.ref le, .ref la]) Q E s := by
  replace n1 := neN n1
  replace n2 := neN n2
  replace n3 := neN n3
  replace n4 := neN n4
  replace n5 := neN n5
  replace n6 := neN n6
  revert XB
  k_fill
  intro XB
  refine wpAny_call ?_
  k_dflt (refine' code_defF (binds := [(Str.ofString "expected", .ref le), (Str.ofString "actual", .ref la)]) (news := [(le, listOf X.toArray nx), (la, listOf Y.toArray ny), (L1, o1), (L2, o2)]) st XB T ?hn ?k6 ?k7 ?k8 ?k9 ?kB ?_ ?c2 ?c3 ?c4 ?c5; (case hn => (intro q hq; simp only [List.mem_cons, List.not_mem_nil, or_false] at hq; rcases hq with rfl | rfl | rfl | rfl <;> exact ⟨by assumption, by assumption⟩)); (case k6 => k_is); (case k7 => k_is); (case k8 => k_room); (case k9 => exact BindsTo.of_eq rfl); (case c5 => decide); (case kB => exact locs rfl); (case c2 => exact rfl); (case c3 => exact rfl); (case c4 => exact rfl); k_whole)
  intro g L' h₁ hsz KG gsub stg F N hlt XG TG
  have l1 : le < L' := hlt (le, _) (.head _)
  have l2 : la < L' := hlt (la, _) (.tail _ (.head _))
  have l3 : L1 < L' := hlt (L1, _) (.tail _ (.tail _ (.head _)))
  have l4 : L2 < L' := hlt (L2, _) (.tail _ (.tail _ (.tail _ (.head _))))
  clear hlt
  try dsimp only
  try k_fold
  walk_at "my steps"
  rename_i lm h2 llt h3 F2 N2
  refine ksw_while (σ := US) (fun c => [(lm, listOf c.M.toArray c.nm), (le, listOf c.X.toArray c.nx), (la, listOf c.Y.toArray c.ny), (L1, { o1 with slots := c.s1 }), (L2, { o2 with slots := c.s2 })]) (fun _ => []) (fun _ => True) [Str.ofString "item"]
    (fun c => Frs [envX cn cs L1 a ccd cl, e2] [(L1, { o1 with slots := c.s1 }), (L2, { o2 with slots := c.s2 })] ∧ uldR c.X.reverse c.Y c.M = uldR X.reverse Y [] ∧ AllB c.X ∧ AllB c.Y ∧ c.X.length ≤ 1000 ∧ c.Y.length ≤ 1000 ∧ c.M.length + c.X.length ≤ 1000)
    (fun c => c.X.length) ⟨[], X, Y, 0, nx, ny, o1.slots, o2.slots⟩ F2 N2 trivial (fun _ hp => nomatch hp) ⟨Fs, rfl, hX, hY, hxl, hyl, by simpa using hxl⟩ ?_
  clear F2 N2
  rintro ⟨M, X1, Y1, nm, nx1, ny1, s1, s2⟩ u h tk - hh
  refine and7 hh ?_
  clear hh
  intro hFs hu hX1 hY1 hxl1 hyl1 hml1 F3 N3
  dsimp only at hFs hu hX1 hY1 hxl1 hyl1 hml1 N3
  revert hu hX1 hxl1 hml1 N3
  apply list_k X1
  · intro hu hX1 hxl1 hml1 N3
    walk_at "my steps"
    rename Fr _ _ _ _ => F9
    rename News _ _ _ _ => N9
    have hu' : (M, Y1) = uldR X.reverse Y [] := hu
    rw [← hu'] at ret
    have fresh : ∀ b, b ≠ le → b ≠ la → b ≠ L1 → b ≠ L2 → g.get? b = none → s.heap.get? b = none := fun b q1 q2 q3 q4 e => by
      cases q : s.heap.get? b with
      | none => rfl
      | some o => rw [KG b o q (by simp; exact ⟨q1, q2, q3, q4⟩)] at e; cases e
    refine ret _ _ _ lm nm ny1 s1 s2 (fun b o e hb => F9.keep b o (KG b o e (by simpa using hb))) (N9 (L1, _) (by k_mem)).1 (N9 (L2, _) (by k_mem)).1 (N9 (_, _) (List.Mem.head _)).1 (N9 (lm, _) (by k_mem)).1 (N9 (la, _) (by k_mem)).1
      (fresh _ (neN (by (first | lia | omega))) (neN (by (first | lia | omega))) (neN (by (first | lia | omega))) (neN (by (first | lia | omega))) (N9 (_, _) (List.Mem.head _)).2.2) (fresh lm (neN (by (first | lia | omega))) (neN (by (first | lia | omega))) (neN (by (first | lia | omega))) (neN (by (first | lia | omega))) (N9 (lm, _) (by k_mem)).2.2) (neN (by (first | lia | omega)))
  · intro X2 v hu hX1 hxl1 hml1 N3
    have hz : (X2 ++ [v]).length ≤ 16777216 := by (first | lia | omega)
    have hv : IsB v := hX1 v (by simp)
    cases hr : rmv v Y1 with
    | some Y2 =>
      have hY2 := rmv_sub hr
      walk_at "my steps"
      rename Fr _ _ _ _ => F9
      rename News _ _ _ _ => N9
      refine ksw_end ⟨M, X2, Y2, nm, nx1 + 1, ny1 + 1, s1, s2⟩ F9 N9 (fun _ hp => hp) trivial (fun _ hp => nomatch hp) ?_ ⟨hFs, ?_, fun x hx => hX1 x (by simp [hx]), fun x hx => hY1 x (hY2.1 x hx), ?_, ?_, ?_⟩ ?_
      · exact uld_map
      · rw [← hu, List.reverse_append]; show _ = uldR (v :: X2.reverse) Y1 M; rw [uldR, hr]
      · simp at hxl1 ⊢; (first | lia | omega)
      · dsimp only; (first | lia | omega)
      · simp at hml1 ⊢; (first | lia | omega)
      · simp
    | none =>
      walk_at "my steps"
      rename Fr _ _ _ _ => F9
      rename News _ _ _ _ => N9
      rename Heap.NewExc _ _ _ _ => hx9
      refine caught_own (new := [(lm, listOf M.toArray nm), (le, listOf X2.toArray (nx1 + 1)), (la, listOf Y1.toArray ny1)]) (frs := [(L1, { o1 with slots := s1 }), (L2, { o2 with slots := s2 })]) rfl hFs hx9 F9 N9 ?_ XG (topRead_of TG) (by k_is) ?_
      · intro q hq
        simp only [List.mem_cons, List.not_mem_nil, or_false] at hq
        rcases hq with rfl | rfl | rfl <;> (simp only [List.map_cons, List.map_nil, List.mem_cons, List.not_mem_nil, or_false, not_or]; exact ⟨(N9 (_, _) (by k_mem)).2.1, neN (by (first | lia | omega)), neN (by (first | lia | omega))⟩)
      · intro h9 frs' SU Fs' F10 N10
        obtain ⟨t1, t2, rfl⟩ := two_up SU
        clear F9 N9 SU hx9
        dsimp only [List.cons_append, List.nil_append] at N10
        walk_at "my steps"
        rename Fr _ _ _ _ => F9
        rename News _ _ _ _ => N9
        try simp only [List.push_toArray] at N9
        refine ksw_end ⟨M ++ [v], X2, Y1, nm + 1, nx1 + 1, ny1, t1, t2⟩ F9 N9 (fun _ hp => hp) trivial (fun _ hp => nomatch hp) ?_ ⟨Fs', ?_, fun x hx => hX1 x (by simp [hx]), hY1, ?_, hyl1, ?_⟩ ?_
        · exact uld_map
        · rw [← hu, List.reverse_append]; show _ = uldR (v :: X2.reverse) Y1 M; rw [uldR, hr]
        · simp at hxl1 ⊢; (first | lia | omega)
        · simp at hml1 ⊢; (first | lia | omega)
        · simp
end
end Mine
end
section
open PySem PySem.W PySem.Calls PyProof.Rows
set_option maxRecDepth 100000
namespace Mine
section
variable {prog : Program} {w : World} {A A₀ : Around} {E : Value → Shared → Prop} {s : Shared} {K : Frag} {L : Addr} {h₀ base : Heap} {m mg mb : Str → Option Value} {p : Program} {loose : List Str} {mean : ExcName → Option Value}
/-- entering a def with captured locals; nothing is handed on: all that stood stands in g -/
theorem code_defCB {env : Env} {outer : List Env} {R : Result → Shared → Prop} {name qual : Str} {params : Arguments} {body : List Stmt} {scope : Scope} {dV kV doc pm cdv ct oc : Value} {an od : Option Addr} {osl : Array (Option Value)} {f : Addr} {args : Args} {binds : List (Str × Value)}
    (B : Below A₀ base outer h₀) (F : Fr h₀ L s.heap m) (X₀ : K.In h₀) (T : Top p loose mean mg mb h₀) (hA : A.frames = some (env :: outer)) (hf : env.frame = some L) (hke : env.scope.kind = .function)
    (ho : K.lookup f = some ⟨oc, od, .func (fnOf name qual params body scope dV kV doc pm an cdv ct), osl⟩) (hcd : codeIn K cdv qual = true) (hroom : A.depth < recursionLimit)
    (hbind : BindsTo s (fnOf name qual params body scope dV kV doc pm an cdv ct) args binds) (hkind : (binds.all fun y => scope.names.lookup y.1 == some .local || scope.names.lookup y.1 == some .cell) = true)
    (hnd : ((cellsFrom 0 scope.names []).map (·.1)).Nodup)
    (h : ∀ g L' h₁ tk cells, Kept [] s.heap g → Fr g L' h₁ (bindL (envOfC qual scope L' f cdv).kindOf binds fun _ => none) → News g L' h₁ cells →
      CellsAre (bindC (envOfC qual scope L' f cdv).kindOf binds fun _ => none) (cellsFrom (L' + 1) scope.names []) cells → Below A base (env :: outer) g → K.In g → Top p loose mean mg mb g →
      let A₁ := A.deeper (envOfC qual scope L' f cdv)
      let Q₁ : Flow → Shared → Prop := fun fl s' => LeaveK h₀ L m g R (match fl with | .ret v => v | _ => .none) s'
      let E₁ : Value → Shared → Prop := fun e s' => wpAny (model prog w) A₁ (leaving (envOfC qual scope L' f cdv) e) (fun _ s'' => R (.error e) s'') (fun e' s'' => R (.error e') s'') s'
      wpAny (model prog w) A₁ (execs body (envOfC qual scope L' f cdv)) Q₁ E₁ { s with heap := h₁, toks := tk })
    (hco : scope.isCoroutine = false) (hgen : scope.isGenerator = false) (hk : scope.kind = .function) : codeAny (model prog w) A (.call (.ref f) args) R s := by
  obtain ⟨FG, BG, st, lv⟩ := groundX (R := R) B F (news := []) News.nil hA hf hke
  have X : K.In s.heap := X₀.keeps F.keep
  refine codeAny_call_function (fd := fnOf name qual params body scope dV kV doc pm an cdv ct) hroom (X _ _ ho) rfl hco hgen rfl (codeRec_of X hcd) (hbind _ _ _ _ ?_)
  refine wpAny_newFunctionEnv_cells hk (kindsX hkind _) fun env' he s' x => ?_
  subst he
  refine ⟨(T.nolimit.keeps F.keep).keeps x.toInCall.keep, codeAny_func ?_⟩
  obtain ⟨h₁, tk, rfl, _⟩ := x.done
  have hk₁ := x.toInCall.keep
  obtain ⟨cells, NC, Y⟩ := Cl.news (h₀ := s.heap) (Nat.le_refl _) fun n c hm => ⟨x.cell n c (lookup_of_mem_nodup (cellsFrom_names scope.names 0 (s.heap.objs.size + 1) [] [] rfl ▸ hnd) hm), x.above n c hm⟩
  exact wpAny_mono (h s.heap s.heap.objs.size h₁ tk cells (fun _ _ e _ => e) ⟨x.toInCall.ns, hk₁, Nat.le_refl _⟩ NC Y BG (X₀.keeps st) (T.keeps st)) (fun fl s' hl => lv _ _ hl) fun _ _ y => y
end
end Mine
end
section
open PySem PySem.W PySem.Calls PyProof.Rows PyProof.Rows.LCg PyProof.Rows.LCp
set_option maxRecDepth 100000
namespace Mine
section
variable {w : World} {mean : ExcName → Option Value} {mg mb : Str → Option Value} {p : Program} {loose : List Str}
/-- the words of the walk -/
theorem words_rank1 : True := by
  k_with_none
  k_with "k_room" => ((try simp only [depth_under_make, depth_under_kw, depth_in1, depth_deeper, depth_caller]); (try dsimp only [ktrTop]); first | (refine' room_of ?h 0 rfl ?k; (case h => assumption); (case k => exact rfl)) | (refine' room_of ?h _ (Nat.add_assoc _ _ _) ?k; (case h => assumption); (case k => exact rfl)) | (refine' room_of ?h 1 rfl ?k; (case h => assumption); (case k => exact rfl)) | (refine' room_of ?h _ ((Nat.add_assoc _ _ _).trans (Nat.add_assoc _ _ _)) ?k; (case h => assumption); (case k => exact rfl)) | lia)
  k_with "ktr_room" => (k_room)
  k_with "k_units" => ((try simp only [units_in1, units_deeper, Around.mark_units, units_caller]); (try dsimp only [ktrTop]); first | (refine' room_of ?h _ (Nat.add_assoc _ _ _) ?k; (case h => assumption); (case k => exact rfl)) | (refine' room_of ?h _ ((Nat.add_assoc _ _ _).trans (Nat.add_assoc _ _ _)) ?k; (case h => assumption); (case k => exact rfl)) | (refine' room_of ?h 0 rfl ?k; (case h => assumption); (case k => exact rfl)) | (have hcL9 := cLine_is; lia))
  k_with "k_ne" => (refine neN ?_; (try dsimp only); first | assumption | exact Ne.symm (by assumption) | exact Nat.ne_of_lt (by assumption) | exact Nat.ne_of_gt (by assumption) | ((repeat' (rename _ ∧ _ => h9; obtain ⟨h8, h7⟩ := h9)); first | exact Nat.ne_of_lt (by assumption) | exact Nat.ne_of_gt (by assumption) | assumption | exact Ne.symm (by assumption)) | lia)
  k_with "my enter C" => (k_dflt (refine' code_defCB ?k1 ?k2 ?k3 ?k5 ?kA ?kF ?kK ?k6 ?k7 ?k8 ?k9 ?kB ?kD ?_ ?c2 ?c3 ?c4; (case kA => exact rfl); (case kF => exact rfl); (case kK => assumption); (case k1 => k_asm); (case k2 => k_asm); (case k3 => k_asm); (case k5 => k_asm); (case k6 => k_is); (case k7 => k_is); (case k8 => ktr_room); (case k9 => first | exact BindsTo.of_eq rfl | exact binds_K (by k_in) rfl (by k_is) rfl rfl rfl); (case kB => exact rfl); (case kD => decide +kernel); (case c2 => exact rfl); (case c3 => exact rfl); (case c4 => exact rfl); k_whole; intro _ _ _ _ _ _ _ _ Y' _ _ _ _ _ _; k_cells Y'; (try dsimp only); (try k_fold)))
  k_with "CompSrc" => (k_here; k_dflt (refine LCg.CompSrc.ledger (by rfl) (by k_asm) (by k_asm) (by k_mem) (by first | size_fits | exact Nat.le_of_ble_eq_true rfl) ?_; intro _; lcg_lit))
  k_with "my steps4" => (repeat' (first | walk1 | (dsimp only; walk1)))
  k_with "my steps" => (repeat' (first | ((fail_if_success (with_reducible show wpAny _ _ (eval (Expr.IfExp _ _ _ _) _) _ _ _)); (fail_if_success (with_reducible show wpAny _ _ (eval (Expr.ListComp _ _ _ _) _) _ _ _)); first | (k_unfold; (try dsimp only)) | walk1 | (dsimp only; walk1))))
  k_with "my steps2" => (repeat' (first | ((fail_if_success (with_reducible show wpAny _ _ (eval (Expr.IfExp _ _ _ _) _) _ _ _)); (fail_if_success (with_reducible show wpAny _ _ (eval (Expr.ListComp _ _ _ _) _) _ _ _)); (fail_if_success (with_reducible show CompSrc _ _ _ _ _ _ _ _ _ _ _ _ _ _)); (fail_if_success (with_reducible show CompEnd _ _ _ _ _ _ _ _ _ _ _ _ _ _)); first | (k_unfold; (try dsimp only)) | walk1 | (dsimp only; walk1))))
  trivial
/-- an int came, and nothing else -/
def IntIs (v0 : Int) (s : Shared) (v : Value) (s' : Shared) : Prop := ∃ t tk, v = .int v0 t ∧ s' = { s with toks := tk }
theorem join_int {M : Model} {A : Around} {E : Value → Shared → Prop} {s : Shared} {e : Sem Value} {Q : Value → Shared → Prop} (v0 : Int) (h : wpAny M A e (IntIs v0 s) E s)
    (k : ∀ t tk, Q (.int v0 t) { s with toks := tk }) : wpAny M A e Q E s :=
  wpAny_mono h (fun v s' hv => by obtain ⟨t, tk, rfl, rfl⟩ := hv; exact k t tk) fun _ _ x => x
def rk (k : Int) : Int := if k < 52 then k + 12 else if k < 62 then k - 50 else k - 62
theorem Kept.fresh {h g h' : Heap} {L' a : Addr} {o : Obj} {news : List (Addr × Obj)} (k : Kept [] h g) (N : News g L' h' news) (hm : (a, o) ∈ news) : h.get? a = none := by
  cases q : h.get? a with
  | none => rfl
  | some x => have := k a x q (fun z => nomatch z); rw [(N _ hm).2.2] at this; cases this
def rks (x : Int) : List Int := [rk (x / 262144 % 64), rk (x / 4096 % 64), rk (x / 64 % 64), rk (x % 64)]
theorem fig_eq (x : Int) (k : Nat) (m : Int) (hm : (64 : Int) ^ k = m) (h0 : 0 ≤ m) : (x.fdiv (64 ^ Int.toNat (k : Int))).fmod 64 = x / m % 64 := by
  rw [Int.toNat_natCast, hm, Int.fdiv_eq_ediv_of_nonneg _ h0, Int.fmod_eq_emod_of_nonneg _ (by decide)]
def figs (x : Int) : List Int := [x / 262144 % 64, x / 4096 % 64, x / 64 % 64, x % 64]
theorem ints_consE {a b : Int} {t : Tok} {vs : List Value} {ns : List Int} (e : a = b) (h : IntsAre vs ns) : IntsAre (.int a t :: vs) (b :: ns) := e ▸ .cons a t h
set_option maxHeartbeats 8000000 in
theorem rank_does (x : Int) (tx : Tok) : Does w p loose mean mg mb 149 [.int x tx] [] 3 [] (fun _ => True)
    (fun h v h' => ∃ l n vs, v = .ref l ∧ h.get? l = none ∧ h'.get? l = some (listOf vs.toArray n) ∧ IntsAre vs (rks x)) := by
  unfold Does
  k_fill
  intro dp un gd cn cs a ccd cl outer A₀ base h₀ L m s Q E B F X N T hk hd hu _ hret
  refine wpAny_call ?_
  walk_at "my enter C"
  walk_at "my steps"
  rename Fr _ _ _ _ => F1
  rename News _ _ _ _ => N1
  have e3 := fig_eq x 3 262144 (by decide) (by decide)
  have e2 := fig_eq x 2 4096 (by decide) (by decide)
  have e1 := fig_eq x 1 64 (by decide) (by decide)
  have e0 := fig_eq x 0 1 (by decide) (by decide)
  rw [Int.ediv_one] at e0
  refine ex_and (⟨_, fun p hp => N1 p (by rw [List.mem_singleton.mp hp]; exact .head _), ints_consE e3 (ints_consE e2 (ints_consE e1 (ints_consE e0 .nil)))⟩ : ∃ fv, News _ _ _ ((_, listOf (fv : List Value).toArray 4) :: []) ∧ IntsAre fv (figs x)) ?_
  intro fv N2 hf
  clear N1
  have hl := hf.length
  have h4 : (figs x).length = 4 := rfl
  refine LCg.ListComp_U (F₀ := F1) (by rfl) (by decide) (by rfl) (by decide) (by rfl) ?_
  walk_at "my steps2"
  refine LCg.CompSrc.ledger (by rfl) F1 N2 (.head _) (by rw [List.size_toArray, hl, h4]; decide) ?_
  intro g3
  refine comp_pure (fun j ys => IntsAre ys (((figs x).map rk).take j)) 4 (by rw [List.size_toArray, hl, h4]) ?_ ?_ .nil
  · rintro j ys nw v I oI C oC Dc m₂ h40 tk40 E40 hj hsub hJ hv hCo hx40 F40 N40 off40
    refine ex_k (⟨_, List.getElem?_eq_getElem (h4 ▸ hj)⟩ : ∃ n, (figs x)[j]? = some n) ?_
    intro n hn
    refine ex_k (hf.get j n hn) ?_
    intro tn hvn
    have hv2' : v = .int n tn := by
      have : fv[j]? = some v := by simpa using hv
      rw [hvn] at this; exact (Option.some.inj this).symm
    subst hv2'
    clear F1 N2 e0 e1 e2 e3
    walk_at "my steps2"
    refine join_int (rk n) ?_ ?_
    · unfold rk
      walk_at "my steps4"
      all_goals (refine ⟨_, _, congrArg (Value.int · _) ?_, rfl⟩; first | rw [if_pos (by assumption)] | (rw [if_neg (by assumption)]; first | rw [if_pos (by assumption)] | rw [if_neg (by assumption)]))
    intro tj kj
    walk_at "my steps2"
    try k_unfold
    refine CompEnd.intro F40 N40 nw (fun p hp => hp) off40 (.inr ⟨_, hsub _ (.head _), rfl, _, rfl⟩) ⟨hsub, ?_⟩
    rw [List.take_add_one, List.getElem?_map, hn]
    exact hJ.append (.cons _ _ .nil)
  intro zs nw hsub hJ
  have h4' : ((figs x).map rk).length = 4 := rfl
  rw [← h4', List.take_length] at hJ
  intro Xd h42 tk42 F42 N42 o42
  have N43 := news_sub N42 (l' := (Xd, lst zs) :: []) (List.forall_mem_cons.mpr ⟨.head _, fun _ hp => nomatch hp⟩)
  clear N42 o42 hsub
  walk_at "my steps2"
  refine hret _ _ _ (Kept.trans (by assumption) (by k_asm)) ?_
  exact ⟨_, _, _, rfl, Kept.fresh (by assumption) (by k_asm) (List.Mem.head _), News.get (by k_asm) (List.Mem.head _), hJ⟩
end
end Mine
end
section
open PySem PySem.W PySem.Calls PyProof.Rows
set_option maxRecDepth 100000
namespace Mine
/-- a sort's questions answered by a function -/
def krun (lt : Nat → Nat → Bool) {α : Type} : KasT α → α
  | .ret a => a
  | .ask i j k => krun lt (k (lt i j))
theorem krun_bind (lt : Nat → Nat → Bool) {α β : Type} (f : α → KasT β) : ∀ t : KasT α, krun lt (t.bind f) = krun lt (f (krun lt t))
  | .ret _ => rfl
  | .ask i j k => by show krun lt ((k (lt i j)).bind f) = _; rw [krun_bind lt f (k (lt i j))]; rfl
theorem krun_wp {α : Type} {cmp : Nat → Nat → (Bool → Shared → Prop) → Shared → Prop} {lt : Nat → Nat → Bool} {ok : Nat → Prop} {I : Shared → Prop} (hc : ∀ i j C s, I s → (∀ s', I s' → C (lt i j) s') → cmp i j C s) {Q : α → Shared → Prop} :
    ∀ (t : KasT α) (s : Shared), I s → (∀ s', I s' → Q (krun lt t) s') → t.kasWp cmp Q s
  | .ret _, s, hi, h => h s hi
  | .ask i j k, s, hi, h => hc i j _ s hi fun s' hi' => krun_wp hc (ok := ok) (k (lt i j)) s' hi' h
section
variable (κ : Nat → Int)
def ky (p : Array Nat) (i : Nat) : Int := κ (p.getD i 0)
def klt (i j : Nat) : Bool := decide (κ i < κ j)
def Up (p : Array Nat) (k : Nat) : Prop := ∀ i j, i ≤ j → j < k → ky κ p i ≤ ky κ p j
def Dn (p : Array Nat) (k : Nat) : Prop := ∀ i j, i ≤ j → j < k → ky κ p j ≤ ky κ p i
theorem ky_bubble {p : Array Nat} {src d : Nat} (hs : src < p.size) (hd : d ≤ src) (k : Nat) : ky κ (bubble p src d) k = if k = src - d then ky κ p src else if src - d < k ∧ k ≤ src then ky κ p (k - 1) else ky κ p k := by
  unfold ky
  rw [Array.getD_eq_getD_getElem?, getElem?_bubble hs d hd k]
  by_cases q1 : k = src - d
  · rw [if_pos q1, if_pos q1, ← Array.getD_eq_getD_getElem?]
  · rw [if_neg q1, if_neg q1]
    by_cases q2 : src - d < k ∧ k ≤ src
    · rw [if_pos q2, if_pos q2, ← Array.getD_eq_getD_getElem?]
    · rw [if_neg q2, if_neg q2, ← Array.getD_eq_getD_getElem?]
theorem ky_rev {p : Array Nat} {i j : Nat} (hj : j ≤ p.size) (k : Nat) : ky κ (kas_rev p i j) k = if i ≤ k ∧ k < j then ky κ p (i + j - 1 - k) else ky κ p k := by
  unfold ky kas_rev
  rw [Array.getD_eq_getD_getElem?, getElem?_mirror_all hj k]
  split
  all_goals rw [Array.getD_eq_getD_getElem?]
theorem asc_ok (p : Array Nat) : ∀ (f n : Nat), 1 ≤ n → Up κ p n → n ≤ krun (klt κ) (kas_asc p f n) ∧ krun (klt κ) (kas_asc p f n) ≤ n + f ∧ Up κ p (krun (klt κ) (kas_asc p f n)) ∧
    (krun (klt κ) (kas_asc p f n) < n + f → ky κ p (krun (klt κ) (kas_asc p f n)) < ky κ p (krun (klt κ) (kas_asc p f n) - 1))
  | 0, n, _, hu => ⟨Nat.le_refl _, Nat.le_refl _, hu, fun h => absurd h (Nat.lt_irrefl _)⟩
  | f + 1, n, h1, hu => by
    have e : krun (klt κ) (kas_asc p (f + 1) n) = if klt κ (p.getD n 0) (p.getD (n - 1) 0) = true then n else krun (klt κ) (kas_asc p f (n + 1)) := by
      show krun (klt κ) (if klt κ (p.getD n 0) (p.getD (n - 1) 0) = true then KasT.ret n else kas_asc p f (n + 1)) = _
      split <;> rfl
    rw [e]
    by_cases c : klt κ (p.getD n 0) (p.getD (n - 1) 0) = true
    · rw [if_pos c]
      exact ⟨Nat.le_refl _, by (first | lia | omega), hu, fun _ => of_decide_eq_true c⟩
    · rw [if_neg c]
      have c' : ky κ p (n - 1) ≤ ky κ p n := by
        have : ¬ (ky κ p n < ky κ p (n - 1)) := fun q => c (decide_eq_true q)
        (first | lia | omega)
      have hu' : Up κ p (n + 1) := fun i j hij hj => by
        by_cases q : j = n
        · subst q
          by_cases q2 : i = j
          · subst q2; exact Int.le_refl _
          · exact Int.le_trans (hu i (j - 1) (by (first | lia | omega)) (by (first | lia | omega))) c'
        · exact hu i j hij (by (first | lia | omega))
      obtain ⟨a1, a2, a3, a4⟩ := asc_ok p f (n + 1) (by (first | lia | omega)) hu'
      exact ⟨by (first | lia | omega), by (first | lia | omega), a3, fun h => a4 (by (first | lia | omega))⟩
theorem Dn_rev_eq {p : Array Nat} {a b : Nat} (hb : b ≤ p.size) (he : ∀ k, a ≤ k → k < b → ky κ p k = ky κ p (b - 1)) (k : Nat) : ky κ (kas_rev p a b) k = ky κ p k := by
  rw [ky_rev κ hb]
  split
  · rename_i h
    rw [he _ (by (first | lia | omega)) (by (first | lia | omega)), he k h.1 h.2]
  · rfl
theorem kas_rev_sz (p : Array Nat) (i j : Nat) : (kas_rev p i j).size = p.size := mirror_size _ _ _ _
theorem desc_ok : ∀ (f : Nat) (p : Array Nat) (n q : Nat), 1 ≤ n → q < n → n + f ≤ p.size → Dn κ p n → (∀ k, n - (q + 1) ≤ k → k < n → ky κ p k = ky κ p (n - 1)) →
    (krun (klt κ) (kas_desc f p n q)).1.Perm p ∧ n ≤ (krun (klt κ) (kas_desc f p n q)).2.1 ∧ (krun (klt κ) (kas_desc f p n q)).2.1 ≤ n + f ∧ Dn κ (krun (klt κ) (kas_desc f p n q)).1 (krun (klt κ) (kas_desc f p n q)).2.1 ∧
    (∀ k, (krun (klt κ) (kas_desc f p n q)).2.1 - ((krun (klt κ) (kas_desc f p n q)).2.2 + 1) ≤ k → k < (krun (klt κ) (kas_desc f p n q)).2.1 → ky κ (krun (klt κ) (kas_desc f p n q)).1 k = ky κ (krun (klt κ) (kas_desc f p n q)).1 ((krun (klt κ) (kas_desc f p n q)).2.1 - 1))
  | 0, p, n, q, _, _, _, hd, he => ⟨Array.Perm.refl _, Nat.le_refl _, Nat.le_refl _, hd, he⟩
  | f + 1, p, n, q, h1, hq, hz, hd, he => by
    have dnext : ∀ p' : Array Nat, (∀ k, k ≤ n → ky κ p' k = ky κ p k) → ky κ p n ≤ ky κ p (n - 1) → Dn κ p' (n + 1) := fun p' e c i j hij hj => by
      rw [e i (by (first | lia | omega)), e j (by (first | lia | omega))]
      by_cases qq : j = n
      · subst qq
        by_cases q2 : i = j
        · subst q2; exact Int.le_refl _
        · exact Int.le_trans c (hd i (j - 1) (by (first | lia | omega)) (by (first | lia | omega)))
      · exact hd i j hij (by (first | lia | omega))
    by_cases c : klt κ (p.getD n 0) (p.getD (n - 1) 0) = true
    · have cl : ky κ p n < ky κ p (n - 1) := of_decide_eq_true c
      by_cases hq0 : q > 0
      · have e : krun (klt κ) (kas_desc (f + 1) p n q) = krun (klt κ) (kas_desc f (kas_rev p (n - (q + 1)) n) (n + 1) 0) := by
          show krun (klt κ) (if klt κ (p.getD n 0) (p.getD (n - 1) 0) = true then (if q > 0 then kas_desc f (kas_rev p (n - (q + 1)) n) (n + 1) 0 else kas_desc f p (n + 1) 0) else _) = _
          rw [if_pos c, if_pos hq0]
        rw [e]
        have hk := Dn_rev_eq κ (p := p) (a := n - (q + 1)) (b := n) (by (first | lia | omega)) he
        obtain ⟨a1, a2, a3, a4, a5⟩ := desc_ok f (kas_rev p (n - (q + 1)) n) (n + 1) 0 (by (first | lia | omega)) (by (first | lia | omega)) (by rw [kas_rev_sz]; (first | lia | omega)) (dnext _ (fun k _ => hk k) (by (first | lia | omega))) (fun k h2 h3 => by
          have : k = n + 1 - 1 := by (first | lia | omega)
          rw [this])
        exact ⟨a1.trans (mirror_perm _ _ _ _), by (first | lia | omega), by (first | lia | omega), a4, a5⟩
      · have e : krun (klt κ) (kas_desc (f + 1) p n q) = krun (klt κ) (kas_desc f p (n + 1) 0) := by
          show krun (klt κ) (if klt κ (p.getD n 0) (p.getD (n - 1) 0) = true then (if q > 0 then kas_desc f (kas_rev p (n - (q + 1)) n) (n + 1) 0 else kas_desc f p (n + 1) 0) else _) = _
          rw [if_pos c, if_neg hq0]
        rw [e]
        obtain ⟨a1, a2, a3, a4, a5⟩ := desc_ok f p (n + 1) 0 (by (first | lia | omega)) (by (first | lia | omega)) (by (first | lia | omega)) (dnext _ (fun k _ => rfl) (by (first | lia | omega))) (fun k h2 h3 => by
          have : k = n + 1 - 1 := by (first | lia | omega)
          rw [this])
        exact ⟨a1, by (first | lia | omega), by (first | lia | omega), a4, a5⟩
    · have cl : ¬ ky κ p n < ky κ p (n - 1) := fun z => c (decide_eq_true z)
      by_cases d : klt κ (p.getD (n - 1) 0) (p.getD n 0) = true
      · have e : krun (klt κ) (kas_desc (f + 1) p n q) = (p, n, q) := by
          show krun (klt κ) (if klt κ (p.getD n 0) (p.getD (n - 1) 0) = true then _ else KasT.ask (p.getD (n - 1) 0) (p.getD n 0) fun d => if d = true then .ret (p, n, q) else kas_desc f p (n + 1) (q + 1)) = _
          rw [if_neg c]
          show krun (klt κ) (if klt κ (p.getD (n - 1) 0) (p.getD n 0) = true then .ret (p, n, q) else kas_desc f p (n + 1) (q + 1)) = _
          rw [if_pos d]; rfl
        rw [e]
        exact ⟨Array.Perm.refl _, Nat.le_refl _, by show n ≤ n + (f + 1); (first | lia | omega), hd, he⟩
      · have dl : ¬ ky κ p (n - 1) < ky κ p n := fun z => d (decide_eq_true z)
        have e : krun (klt κ) (kas_desc (f + 1) p n q) = krun (klt κ) (kas_desc f p (n + 1) (q + 1)) := by
          show krun (klt κ) (if klt κ (p.getD n 0) (p.getD (n - 1) 0) = true then _ else KasT.ask (p.getD (n - 1) 0) (p.getD n 0) fun d => if d = true then .ret (p, n, q) else kas_desc f p (n + 1) (q + 1)) = _
          rw [if_neg c]
          show krun (klt κ) (if klt κ (p.getD (n - 1) 0) (p.getD n 0) = true then .ret (p, n, q) else kas_desc f p (n + 1) (q + 1)) = _
          rw [if_neg d]
        rw [e]
        have hee : ky κ p n = ky κ p (n - 1) := by (first | lia | omega)
        obtain ⟨a1, a2, a3, a4, a5⟩ := desc_ok f p (n + 1) (q + 1) (by (first | lia | omega)) (by (first | lia | omega)) (by (first | lia | omega)) (dnext _ (fun k _ => rfl) (by (first | lia | omega))) (fun k h2 h3 => by
          show ky κ p k = ky κ p n
          by_cases z : k = n
          · rw [z]
          · rw [he k (by (first | lia | omega)) (by (first | lia | omega)), hee])
        exact ⟨a1, by (first | lia | omega), by (first | lia | omega), a4, a5⟩
theorem tail3_ok (n nrem : Nat) (p : Array Nat) (h1 : 1 ≤ n) (hn : n ≤ nrem) (hz : nrem ≤ p.size) (hd : Dn κ p n) :
    (krun (klt κ) (kas_tail3 n nrem p)).2.Perm p ∧ 1 ≤ (krun (klt κ) (kas_tail3 n nrem p)).1 ∧ (krun (klt κ) (kas_tail3 n nrem p)).1 ≤ nrem ∧ Up κ (krun (klt κ) (kas_tail3 n nrem p)).2 (krun (klt κ) (kas_tail3 n nrem p)).1 := by
  unfold kas_tail3
  rw [krun_bind]
  have hu : Up κ (kas_rev p 0 n) n := fun i j hij hj => by
    rw [ky_rev κ (by (first | lia | omega)), ky_rev κ (by (first | lia | omega)), if_pos ⟨Nat.zero_le _, by (first | lia | omega)⟩, if_pos ⟨Nat.zero_le _, hj⟩]
    exact hd _ _ (by (first | lia | omega)) (by (first | lia | omega))
  obtain ⟨a1, a2, a3, _⟩ := asc_ok κ (kas_rev p 0 n) (nrem - n) n h1 hu
  exact ⟨mirror_perm _ _ _ _, by show 1 ≤ krun _ _; (first | lia | omega), by show krun _ _ ≤ nrem; (first | lia | omega), a3⟩
theorem descPart_ok (n nrem : Nat) (p : Array Nat) (h1 : 1 ≤ n) (hn : n + 1 ≤ nrem) (hz : nrem ≤ p.size) (he : ∀ k, k < n → ky κ p k = ky κ p (n - 1)) (hc : ky κ p n < ky κ p (n - 1)) :
    (krun (klt κ) (kas_descPart n nrem p)).2.Perm p ∧ 1 ≤ (krun (klt κ) (kas_descPart n nrem p)).1 ∧ (krun (klt κ) (kas_descPart n nrem p)).1 ≤ nrem ∧ Up κ (krun (klt κ) (kas_descPart n nrem p)).2 (krun (klt κ) (kas_descPart n nrem p)).1 := by
  unfold kas_descPart
  rw [krun_bind]
  have hd : Dn κ p (n + 1) := fun i j hij hj => by
    by_cases q : j = n
    · subst q
      by_cases q2 : i = j
      · subst q2; exact Int.le_refl _
      · rw [he i (by (first | lia | omega))]; (first | lia | omega)
    · rw [he i (by (first | lia | omega)), he j (by (first | lia | omega))]; exact Int.le_refl _
  obtain ⟨a1, a2, a3, a4, a5⟩ := desc_ok κ (nrem - (n + 1)) p (n + 1) 0 (by (first | lia | omega)) (by (first | lia | omega)) (by (first | lia | omega)) hd (fun k h2 h3 => by
    have : k = n + 1 - 1 := by (first | lia | omega)
    rw [this])
  generalize krun (klt κ) (kas_desc (nrem - (n + 1)) p (n + 1) 0) = r at *
  have hsz : r.1.size = p.size := a1.size_eq
  split
  · have hk := Dn_rev_eq κ (p := r.1) (a := r.2.1 - (r.2.2 + 1)) (b := r.2.1) (by (first | lia | omega)) a5
    have hd' : Dn κ (kas_rev r.1 (r.2.1 - (r.2.2 + 1)) r.2.1) r.2.1 := fun i j hij hj => by rw [hk, hk]; exact a4 i j hij hj
    obtain ⟨b1, b2, b3, b4⟩ := tail3_ok κ r.2.1 nrem _ (by (first | lia | omega)) (by (first | lia | omega)) (by rw [kas_rev_sz]; (first | lia | omega)) hd'
    exact ⟨(b1.trans (mirror_perm _ _ _ _)).trans a1, b2, b3, b4⟩
  · obtain ⟨b1, b2, b3, b4⟩ := tail3_ok κ r.2.1 nrem r.1 (by (first | lia | omega)) (by (first | lia | omega)) (by (first | lia | omega)) a4
    exact ⟨b1.trans a1, b2, b3, b4⟩
theorem count_ok (nrem : Nat) (p : Array Nat) (h1 : 1 ≤ nrem) (hz : nrem ≤ p.size) :
    (krun (klt κ) (kas_count nrem p)).2.Perm p ∧ 1 ≤ (krun (klt κ) (kas_count nrem p)).1 ∧ (krun (klt κ) (kas_count nrem p)).1 ≤ nrem ∧ Up κ (krun (klt κ) (kas_count nrem p)).2 (krun (klt κ) (kas_count nrem p)).1 := by
  unfold kas_count
  rw [krun_bind]
  have hu : Up κ p 1 := fun i j hij hj => by
    have : i = j := by (first | lia | omega)
    rw [this]; exact Int.le_refl _
  obtain ⟨a1, a2, a3, a4⟩ := asc_ok κ p (nrem - 1) 1 (Nat.le_refl _) hu
  generalize krun (klt κ) (kas_asc p (nrem - 1) 1) = n at *
  split
  · exact ⟨Array.Perm.refl _, a1, by show n ≤ nrem; (first | lia | omega), a3⟩
  · rename_i hne
    have hne' : n ≠ nrem := fun q => hne (by simp [q])
    have hlt := a4 (by (first | lia | omega))
    split
    · by_cases c : klt κ (p.getD 0 0) (p.getD (n - 1) 0) = true
      · show (krun (klt κ) (if klt κ (p.getD 0 0) (p.getD (n - 1) 0) = true then KasT.ret (n, p) else kas_descPart n nrem (kas_rev p 0 n))).2.Perm p ∧ _
        show (krun (klt κ) (if klt κ (p.getD 0 0) (p.getD (n - 1) 0) = true then KasT.ret (n, p) else kas_descPart n nrem (kas_rev p 0 n))).2.Perm p ∧ 1 ≤ (krun (klt κ) (if klt κ (p.getD 0 0) (p.getD (n - 1) 0) = true then KasT.ret (n, p) else kas_descPart n nrem (kas_rev p 0 n))).1 ∧ (krun (klt κ) (if klt κ (p.getD 0 0) (p.getD (n - 1) 0) = true then KasT.ret (n, p) else kas_descPart n nrem (kas_rev p 0 n))).1 ≤ nrem ∧ Up κ (krun (klt κ) (if klt κ (p.getD 0 0) (p.getD (n - 1) 0) = true then KasT.ret (n, p) else kas_descPart n nrem (kas_rev p 0 n))).2 (krun (klt κ) (if klt κ (p.getD 0 0) (p.getD (n - 1) 0) = true then KasT.ret (n, p) else kas_descPart n nrem (kas_rev p 0 n))).1
        rw [if_pos c]
        exact ⟨Array.Perm.refl _, a1, by show n ≤ nrem; (first | lia | omega), a3⟩
      · show (krun (klt κ) (if klt κ (p.getD 0 0) (p.getD (n - 1) 0) = true then KasT.ret (n, p) else kas_descPart n nrem (kas_rev p 0 n))).2.Perm p ∧ 1 ≤ (krun (klt κ) (if klt κ (p.getD 0 0) (p.getD (n - 1) 0) = true then KasT.ret (n, p) else kas_descPart n nrem (kas_rev p 0 n))).1 ∧ (krun (klt κ) (if klt κ (p.getD 0 0) (p.getD (n - 1) 0) = true then KasT.ret (n, p) else kas_descPart n nrem (kas_rev p 0 n))).1 ≤ nrem ∧ Up κ (krun (klt κ) (if klt κ (p.getD 0 0) (p.getD (n - 1) 0) = true then KasT.ret (n, p) else kas_descPart n nrem (kas_rev p 0 n))).2 (krun (klt κ) (if klt κ (p.getD 0 0) (p.getD (n - 1) 0) = true then KasT.ret (n, p) else kas_descPart n nrem (kas_rev p 0 n))).1
        rw [if_neg c]
        have cl : ¬ ky κ p 0 < ky κ p (n - 1) := fun z => c (decide_eq_true z)
        have heq : ∀ k, 0 ≤ k → k < n → ky κ p k = ky κ p (n - 1) := fun k _ hk => by
          have := a3 0 k (by (first | lia | omega)) hk
          have := a3 k (n - 1) (by (first | lia | omega)) (by (first | lia | omega))
          (first | lia | omega)
        have hk := Dn_rev_eq κ (p := p) (a := 0) (b := n) (by (first | lia | omega)) heq
        obtain ⟨b1, b2, b3, b4⟩ := descPart_ok κ n nrem (kas_rev p 0 n) (by (first | lia | omega)) (by (first | lia | omega)) (by rw [kas_rev_sz]; (first | lia | omega)) (fun k hk' => by rw [hk, hk]; exact heq k (by (first | lia | omega)) hk') (by rw [hk, hk]; exact hlt)
        exact ⟨b1.trans (mirror_perm _ _ _ _), b2, b3, b4⟩
    · exact descPart_ok κ n nrem p a1 (by (first | lia | omega)) hz (fun k hk => by
        have : k = n - 1 := by (first | lia | omega)
        rw [this]) hlt
theorem place_ok (p : Array Nat) (k : Nat) (hu : Up κ p k) : ∀ (f l r : Nat), r - l ≤ f → l ≤ r → r ≤ k → (∀ i, i < l → ky κ p i ≤ ky κ p k) → (∀ i, r ≤ i → i < k → ky κ p k < ky κ p i) →
    krun (klt κ) (kas_place p k f l r) ≤ k ∧ (∀ i, i < krun (klt κ) (kas_place p k f l r) → ky κ p i ≤ ky κ p k) ∧ (∀ i, krun (klt κ) (kas_place p k f l r) ≤ i → i < k → ky κ p k < ky κ p i)
  | 0, l, r, hf, hlr, hr, h1, h2 => ⟨by show l ≤ k; (first | lia | omega), h1, fun i hi hk => h2 i (by have : l ≤ i := hi; (first | lia | omega)) hk⟩
  | f + 1, l, r, hf, hlr, hr, h1, h2 => by
    by_cases c0 : l ≥ r
    · have e : krun (klt κ) (kas_place p k (f + 1) l r) = l := by
        show krun (klt κ) (if l ≥ r then .ret l else _) = l
        rw [if_pos c0]; rfl
      rw [e]
      exact ⟨by (first | lia | omega), h1, fun i hi hk => h2 i (by (first | lia | omega)) hk⟩
    · by_cases c : klt κ (p.getD k 0) (p.getD ((l + r) / 2) 0) = true
      · have e : krun (klt κ) (kas_place p k (f + 1) l r) = krun (klt κ) (kas_place p k f l ((l + r) / 2)) := by
          show krun (klt κ) (if l ≥ r then .ret l else KasT.ask (p.getD k 0) (p.getD ((l + r) / 2) 0) fun c => if c = true then kas_place p k f l ((l + r) / 2) else kas_place p k f ((l + r) / 2 + 1) r) = _
          rw [if_neg c0]
          show krun (klt κ) (if klt κ (p.getD k 0) (p.getD ((l + r) / 2) 0) = true then _ else _) = _
          rw [if_pos c]
        rw [e]
        have cl : ky κ p k < ky κ p ((l + r) / 2) := of_decide_eq_true c
        exact place_ok p k hu f l ((l + r) / 2) (by (first | lia | omega)) (by (first | lia | omega)) (by (first | lia | omega)) h1 fun i hi hk => Int.lt_of_lt_of_le cl (hu _ _ hi hk)
      · have e : krun (klt κ) (kas_place p k (f + 1) l r) = krun (klt κ) (kas_place p k f ((l + r) / 2 + 1) r) := by
          show krun (klt κ) (if l ≥ r then .ret l else KasT.ask (p.getD k 0) (p.getD ((l + r) / 2) 0) fun c => if c = true then kas_place p k f l ((l + r) / 2) else kas_place p k f ((l + r) / 2 + 1) r) = _
          rw [if_neg c0]
          show krun (klt κ) (if klt κ (p.getD k 0) (p.getD ((l + r) / 2) 0) = true then _ else _) = _
          rw [if_neg c]
        rw [e]
        have cl : ¬ ky κ p k < ky κ p ((l + r) / 2) := fun z => c (decide_eq_true z)
        exact place_ok p k hu f ((l + r) / 2 + 1) r (by (first | lia | omega)) (by (first | lia | omega)) hr (fun i hi => Int.le_trans (hu i ((l + r) / 2) (by (first | lia | omega)) (by (first | lia | omega))) (by (first | lia | omega))) h2
theorem bin_ok : ∀ (f : Nat) (p : Array Nat) (k : Nat), k + f ≤ p.size → Up κ p k → (krun (klt κ) (kas_bin f p k)).Perm p ∧ Up κ (krun (klt κ) (kas_bin f p k)) (k + f)
  | 0, p, k, _, hu => ⟨Array.Perm.refl _, hu⟩
  | f + 1, p, k, hz, hu => by
    have e : krun (klt κ) (kas_bin (f + 1) p k) = krun (klt κ) (kas_bin f (bubble p k (k - krun (klt κ) (kas_place p k k 0 k))) (k + 1)) := by
      show krun (klt κ) ((kas_place p k k 0 k).bind fun l => kas_bin f (bubble p k (k - l)) (k + 1)) = _
      rw [krun_bind]
    rw [e]
    obtain ⟨a1, a2, a3⟩ := place_ok κ p k hu k 0 k (by (first | lia | omega)) (by (first | lia | omega)) (Nat.le_refl _) (fun i hi => absurd hi (Nat.not_lt_zero _)) (fun i hi hk => absurd hk (by (first | lia | omega)))
    generalize krun (klt κ) (kas_place p k k 0 k) = l at *
    have hu' : Up κ (bubble p k (k - l)) (k + 1) := fun i j hij hj => by
      rw [ky_bubble κ (by (first | lia | omega)) (by (first | lia | omega)), ky_bubble κ (by (first | lia | omega)) (by (first | lia | omega))]
      have hkl : k - (k - l) = l := by (first | lia | omega)
      rw [hkl]
      by_cases i1 : i = l
      · rw [if_pos i1]
        by_cases j1 : j = l
        · rw [if_pos j1]; exact Int.le_refl _
        · rw [if_neg j1, if_pos ⟨by (first | lia | omega), by (first | lia | omega)⟩]
          exact Int.le_of_lt (a3 (j - 1) (by (first | lia | omega)) (by (first | lia | omega)))
      · rw [if_neg i1]
        by_cases i2 : l < i ∧ i ≤ k
        · rw [if_pos i2, if_neg (by (first | lia | omega)), if_pos ⟨by (first | lia | omega), by (first | lia | omega)⟩]
          exact hu _ _ (by (first | lia | omega)) (by (first | lia | omega))
        · rw [if_neg i2]
          by_cases j1 : j = l
          · rw [if_pos j1]; exact a2 i (by (first | lia | omega))
          · rw [if_neg j1]
            by_cases j2 : l < j ∧ j ≤ k
            · rw [if_pos j2]; exact hu _ _ (by (first | lia | omega)) (by (first | lia | omega))
            · rw [if_neg j2]; exact hu _ _ hij (by (first | lia | omega))
    obtain ⟨b1, b2⟩ := bin_ok f (bubble p k (k - l)) (k + 1) (by rw [bubble_size]; (first | lia | omega)) hu'
    exact ⟨b1.trans (bubble_perm _ _ _), by rw [show k + (f + 1) = k + 1 + f by (first | lia | omega)]; exact b2⟩
theorem sort_ok (n : Nat) (h2 : 1 ≤ n) : (krun (klt κ) (kas_sort n)).Perm (List.range n).toArray ∧ Up κ (krun (klt κ) (kas_sort n)) n := by
  unfold kas_sort
  rw [krun_bind]
  have hsz : (List.toArray (List.range n)).size = n := by simp
  obtain ⟨a1, a2, a3, a4⟩ := count_ok κ n (List.toArray (List.range n)) h2 (by (first | lia | omega))
  generalize krun (klt κ) (kas_count n (List.toArray (List.range n))) = r at *
  have hr : r.2.size = n := a1.size_eq.trans hsz
  split
  · have hm : max r.1 1 = r.1 := by (first | lia | omega)
    rw [hm]
    obtain ⟨b1, b2⟩ := bin_ok κ (n - r.1) r.2 r.1 (by (first | lia | omega)) a4
    exact ⟨b1.trans a1, by rw [show r.1 + (n - r.1) = n by (first | lia | omega)] at b2; exact b2⟩
  · have : r.1 = n := by (first | lia | omega)
    rw [this] at a4
    exact ⟨a1, a4⟩
end
end Mine
end
section
open PySem PySem.W PySem.Calls PyProof.Rows
set_option maxRecDepth 100000
namespace Mine
/-- all questions are below n, whatever is answered -/
def kall (n : Nat) {α : Type} (P : α → Prop) : KasT α → Prop
  | .ret a => P a
  | .ask i j k => i < n ∧ j < n ∧ ∀ b, kall n P (k b)
theorem kall_mono {n : Nat} {α : Type} {P P' : α → Prop} (h : ∀ a, P a → P' a) : ∀ t : KasT α, kall n P t → kall n P' t
  | .ret a, q => h a q
  | .ask _ _ k, ⟨q1, q2, q3⟩ => ⟨q1, q2, fun b => kall_mono h (k b) (q3 b)⟩
theorem kall_bind {n : Nat} {α β : Type} {P : α → Prop} {R : β → Prop} {f : α → KasT β} (hf : ∀ a, P a → kall n R (f a)) : ∀ t : KasT α, kall n P t → kall n R (t.bind f)
  | .ret a, q => hf a q
  | .ask _ _ k, ⟨q1, q2, q3⟩ => ⟨q1, q2, fun b => kall_bind hf (k b) (q3 b)⟩
theorem kall_wp {n : Nat} {α : Type} {P : α → Prop} {cmp : Nat → Nat → (Bool → Shared → Prop) → Shared → Prop} {lt : Nat → Nat → Bool} {I : Shared → Prop} (hc : ∀ i j C s, i < n → j < n → I s → (∀ s', I s' → C (lt i j) s') → cmp i j C s) {Q : α → Shared → Prop} :
    ∀ (t : KasT α) (s : Shared), kall n P t → I s → (∀ s', I s' → Q (krun lt t) s') → t.kasWp cmp Q s
  | .ret _, s, _, hi, h => h s hi
  | .ask i j k, s, ⟨q1, q2, q3⟩, hi, h => hc i j _ s q1 q2 hi fun s' hi' => kall_wp hc (k (lt i j)) s' (q3 _) hi' h
def Rng (n : Nat) (p : Array Nat) : Prop := ∀ i, p.getD i 0 < n
theorem Rng.perm {n : Nat} {p q : Array Nat} (h : Rng n p) (hn : 0 < n) (hp : q.Perm p) : Rng n q := fun i => by
  rw [Array.getD_eq_getD_getElem?]
  by_cases hi : i < q.size
  · rw [getElem?_pos q i hi]
    have hm : q[i] ∈ p := hp.mem_iff.mp (Array.getElem_mem hi)
    obtain ⟨j, hj, e⟩ := Array.mem_iff_getElem.mp hm
    have := h j
    rw [Array.getD_eq_getD_getElem?, getElem?_pos p j hj, e] at this
    exact this
  · rw [getElem?_neg q i hi]; exact hn
section
variable {n : Nat} (hn : 0 < n)
theorem asc_all {p : Array Nat} (h : Rng n p) : ∀ f m, kall n (fun _ => True) (kas_asc p f m)
  | 0, _ => trivial
  | f + 1, m => ⟨h _, h _, fun b => by
      cases b
      · exact asc_all h f (m + 1)
      · trivial⟩
include hn
theorem desc_all : ∀ f (p : Array Nat) m q, Rng n p → kall n (fun r => Rng n r.1) (kas_desc f p m q)
  | 0, _, _, _, h => h
  | f + 1, p, m, q, h => ⟨h _, h _, fun b => by
      cases b
      · refine ⟨h _, h _, fun d => ?_⟩
        cases d
        · exact desc_all f p (m + 1) (q + 1) h
        · exact h
      · show kall n _ (if q > 0 then kas_desc f (kas_rev p (m - (q + 1)) m) (m + 1) 0 else kas_desc f p (m + 1) 0)
        split
        · exact desc_all f _ (m + 1) 0 (h.perm hn (mirror_perm _ _ _ _))
        · exact desc_all f p (m + 1) 0 h⟩
theorem tail3_all (m nrem : Nat) {p : Array Nat} (h : Rng n p) : kall n (fun r => Rng n r.2) (kas_tail3 m nrem p) :=
  kall_bind (R := fun r : Nat × Array Nat => Rng n r.2) (f := fun m' => .ret (m', kas_rev p 0 m)) (P := fun _ => True) (fun _ _ => h.perm hn (mirror_perm _ _ _ _)) _ (asc_all (h.perm hn (mirror_perm _ _ _ _)) _ _)
theorem descPart_all (m nrem : Nat) {p : Array Nat} (h : Rng n p) : kall n (fun r => Rng n r.2) (kas_descPart m nrem p) :=
  kall_bind (P := fun r => Rng n r.1) (fun r hr => by
    split
    · exact tail3_all hn _ _ (hr.perm hn (mirror_perm _ _ _ _))
    · exact tail3_all hn _ _ hr) _ (desc_all hn _ _ _ _ h)
theorem count_all (nrem : Nat) {p : Array Nat} (h : Rng n p) : kall n (fun r => Rng n r.2) (kas_count nrem p) :=
  kall_bind (P := fun _ => True) (fun m _ => by
    split
    · exact h
    · split
      · refine ⟨h _, h _, fun b => ?_⟩
        cases b
        · exact descPart_all hn _ _ (h.perm hn (mirror_perm _ _ _ _))
        · exact h
      · exact descPart_all hn _ _ h) _ (asc_all h _ _)
omit hn in
theorem place_all {p : Array Nat} (h : Rng n p) (k : Nat) : ∀ f l r, kall n (fun _ => True) (kas_place p k f l r)
  | 0, _, _ => trivial
  | f + 1, l, r => by
    unfold kas_place
    split
    · trivial
    · refine ⟨h _, h _, fun b => ?_⟩
      cases b
      · exact place_all h k f _ _
      · exact place_all h k f _ _
theorem bin_all : ∀ f (p : Array Nat) k, Rng n p → kall n (fun _ => True) (kas_bin f p k)
  | 0, _, _, _ => trivial
  | f + 1, p, k, h => kall_bind (P := fun _ => True) (fun _ _ => bin_all f _ _ (h.perm hn (bubble_perm _ _ _))) _ (place_all h k _ _ _)
theorem sort_all : kall n (fun _ => True) (kas_sort n) :=
  kall_bind (P := fun r => Rng n r.2) (fun r hr => by
    split
    · exact bin_all hn _ _ _ hr
    · trivial) _ (count_all hn n fun i => by
      rw [Array.getD_eq_getD_getElem?, List.getElem?_toArray]
      by_cases hi : i < n
      · rw [List.getElem?_range hi]; exact hi
      · rw [List.getElem?_eq_none (by simpa using hi)]; exact hn)
end
end Mine
end
section
open PySem PySem.W PySem.Calls PyProof.Rows
set_option maxRecDepth 100000
namespace Mine
open PySem.AutoSeq1 (wpAny_loadPart')
open MeetsSeq MeetsSeq3
def lexlt : List Int → List Int → Bool
  | a :: as, b :: bs => if a = b then lexlt as bs else decide (a < b)
  | _, _ => false
theorem lt_loop (l b : Addr) (xs ys : List Value) (n n2 : Nat) : ∀ (ns ms : List Int) (i : Nat), IntsAre (xs.drop i) ns → IntsAre (ys.drop i) ms → ns.length = ms.length → i ≤ xs.length → xs.length = ys.length →
    Meets (Builtin.«list.__eq__.loop» ⟨[.ref l, .ref b, rawInt i, rawInt 0], []⟩)
      (fun _ R s => s.heap.get? l = some { cls := .type "list", dict := none, data := .seq xs.toArray n, slots := #[] } ∧ s.heap.get? b = some { cls := .type "list", dict := none, data := .seq ys.toArray n2, slots := #[] } ∧
        R (.ok (.ret (.bool (lexlt ns ms)))) s) := by
  intro ns
  induction ns with
  | nil =>
    intro ms i h1 h2 hlen hi hsz prog w A R s h
    obtain ⟨hp, g, d, tk, os⟩ := s; obtain ⟨hl, hb, h⟩ := h
    have hx : xs.length - i = 0 := by simpa using h1.length
    wp_walk using wpAny_loadPart' hl, wpAny_loadPart' hb
    have hi1 : xs.toArray[((i : Nat) : Int).toNat]? = none := by simp; (first | lia | omega)
    have hi2 : ys.toArray[((i : Nat) : Int).toNat]? = none := by simp; (first | lia | omega)
    rw [hi1, hi2]
    wp_walk using wpAny_loadPart' hl, wpAny_loadPart' hb
    show R (.ok (.ret (.bool (decide (xs.toArray.size < ys.toArray.size))))) _
    have : decide (xs.toArray.size < ys.toArray.size) = false := by simp; (first | lia | omega)
    rw [this]
    exact h
  | cons a as ih =>
    intro ms i h1 h2 hlen hi hsz prog w A R s h
    obtain ⟨hp, g, d, tk, os⟩ := s; obtain ⟨hl, hb, h⟩ := h
    cases ms with
    | nil => simp at hlen
    | cons c cs =>
      obtain ⟨t, xr, hx, hxr⟩ := h1.cons_inv
      obtain ⟨u, yr, hy, hyr⟩ := h2.cons_inv
      have g1 : xs[i]? = some (.int a t) := by
        have := congrArg (·[0]?) hx; simpa using this
      have g2 : ys[i]? = some (.int c u) := by
        have := congrArg (·[0]?) hy; simpa using this
      have hlt : i < xs.length := (List.getElem?_eq_some_iff.mp g1).1
      have d1 : IntsAre (xs.drop (i + 1)) as := by rw [← List.drop_drop, hx]; exact hxr
      have d2 : IntsAre (ys.drop (i + 1)) cs := by rw [← List.drop_drop, hy]; exact hyr
      wp_walk using wpAny_loadPart' hl, wpAny_loadPart' hb
      have hi1 : xs.toArray[((i : Nat) : Int).toNat]? = some (.int a t) := by simpa using g1
      have hi2 : ys.toArray[((i : Nat) : Int).toNat]? = some (.int c u) := by simpa using g2
      have hc : ((i : Int) + 1) = ((i + 1 : Nat) : Int) := by push_cast; rfl
      rw [hi1, hi2]
      refine wpAny_bind (EqGives.int a c t u prog w _ _ _ _ ?_)
      unfold lexlt at h
      by_cases e : a = c
      · rw [if_pos e] at h
        have e' : (a == c) = true := by simp [e]
        rw [e']
        wp_walk
        rw [hc]
        exact ⟨plainId_quiet plain_eq_loop _, codeAny_builtin entry_eq_loop (by
          rw [Around.under_plainId plain_eq_loop _]
          exact ih cs (i + 1) d1 d2 (by simpa using hlen) (by (first | lia | omega)) hsz prog w A R _ ⟨hl, hb, h⟩)⟩
      · rw [if_neg e] at h
        have e' : (a == c) = false := by simp [e]
        rw [e']
        wp_walk using wpAny_loadPart' hl, wpAny_loadPart' hb
        rw [hi1, hi2]
        refine wpAny_bind (show wpAny _ _ (compareOp .Lt (.int a t) (.int c u)) _ _ _ from lt_int ?_)
        wp_walk
        exact h
theorem list_lt (l b : Addr) (xs ys : List Value) (n n2 : Nat) (ns ms : List Int) (h1 : IntsAre xs ns) (h2 : IntsAre ys ms) (hlen : ns.length = ms.length) :
    Meets (Builtin.«list.__lt__» ⟨[.ref l, .ref b], []⟩)
      (fun _ R s => s.heap.get? l = some { cls := .type "list", dict := none, data := .seq xs.toArray n, slots := #[] } ∧ s.heap.get? b = some { cls := .type "list", dict := none, data := .seq ys.toArray n2, slots := #[] } ∧
        R (.ok (.ret (.bool (lexlt ns ms)))) s) := by
  intro prog w A R s h
  obtain ⟨hp, g, d, tk, os⟩ := s; obtain ⟨hl, hb, h⟩ := h
  have f3 := AutoSeq1.sub_list_list
  wp_walk using wpAny_loadPart' hl, wpAny_loadPart' hb
  exact ⟨plainId_quiet plain_eq_loop _, codeAny_builtin entry_eq_loop (by
    rw [Around.under_plainId plain_eq_loop _]
    exact lt_loop l b xs ys n n2 ns ms 0 (by simpa using h1) (by simpa using h2) hlen (Nat.zero_le _) (by rw [h1.length, h2.length, hlen]) prog w A R _ ⟨hl, hb, h⟩)⟩
/-- the number of a rank's figures -/
def key (x : Int) : Int := rk (x / 262144 % 64) * 262144 + rk (x / 4096 % 64) * 4096 + rk (x / 64 % 64) * 64 + rk (x % 64)
theorem rk_range {k : Int} (h0 : 0 ≤ k) (h1 : k < 64) : 0 ≤ rk k ∧ rk k < 64 := by
  unfold rk
  split
  · (first | lia | omega)
  · split <;> (first | lia | omega)
theorem rk_inj {j k : Int} (h0 : 0 ≤ j) (h1 : j < 64) (h2 : 0 ≤ k) (h3 : k < 64) (e : rk j = rk k) : j = k := by
  unfold rk at e
  repeat' split at e
  all_goals (first | lia | omega)
theorem rks_eq {x y : Int} : rks x = rks y ↔ key x = key y := by
  unfold rks key
  have a3 := rk_range (k := x / 262144 % 64) (sx_b rfl).1 (sx_b rfl).2
  have a2 := rk_range (k := x / 4096 % 64) (sx_b rfl).1 (sx_b rfl).2
  have a1 := rk_range (k := x / 64 % 64) (sx_b rfl).1 (sx_b rfl).2
  have a0 := rk_range (k := x % 64) (sx_b rfl).1 (sx_b rfl).2
  have b3 := rk_range (k := y / 262144 % 64) (sx_b rfl).1 (sx_b rfl).2
  have b2 := rk_range (k := y / 4096 % 64) (sx_b rfl).1 (sx_b rfl).2
  have b1 := rk_range (k := y / 64 % 64) (sx_b rfl).1 (sx_b rfl).2
  have b0 := rk_range (k := y % 64) (sx_b rfl).1 (sx_b rfl).2
  simp only [List.cons.injEq, and_true]
  constructor
  · rintro ⟨e3, e2, e1, e0⟩; rw [e3, e2, e1, e0]
  · intro e; exact dig4 e a2 a1 a0 b2 b1 b0
theorem rk_injm {a b : Int} (e : rk (a % 64) = rk (b % 64)) : a % 64 = b % 64 := rk_inj (sx_b rfl).1 (sx_b rfl).2 (sx_b rfl).1 (sx_b rfl).2 e
theorem key_inj {x y : Int} (h0 : 0 ≤ x) (h1 : x < 2 ^ 24) (h2 : 0 ≤ y) (h3 : y < 2 ^ 24) (e : key x = key y) : x = y := by
  have := rks_eq.mpr e
  unfold rks at this
  simp only [List.cons.injEq, and_true] at this
  exact dig_inj h0 h1 h2 h3 (rk_injm this.1) (rk_injm this.2.1) (rk_injm this.2.2.1) (rk_injm this.2.2.2)
theorem rks_lt (x y : Int) : lexlt (rks x) (rks y) = decide (key x < key y) := by
  unfold rks key
  have a3 := rk_range (k := x / 262144 % 64) (sx_b rfl).1 (sx_b rfl).2
  have a2 := rk_range (k := x / 4096 % 64) (sx_b rfl).1 (sx_b rfl).2
  have a1 := rk_range (k := x / 64 % 64) (sx_b rfl).1 (sx_b rfl).2
  have a0 := rk_range (k := x % 64) (sx_b rfl).1 (sx_b rfl).2
  have b3 := rk_range (k := y / 262144 % 64) (sx_b rfl).1 (sx_b rfl).2
  have b2 := rk_range (k := y / 4096 % 64) (sx_b rfl).1 (sx_b rfl).2
  have b1 := rk_range (k := y / 64 % 64) (sx_b rfl).1 (sx_b rfl).2
  have b0 := rk_range (k := y % 64) (sx_b rfl).1 (sx_b rfl).2
  generalize rk (x / 262144 % 64) = p3 at *
  generalize rk (x / 4096 % 64) = p2 at *
  generalize rk (x / 64 % 64) = p1 at *
  generalize rk (x % 64) = p0 at *
  generalize rk (y / 262144 % 64) = q3 at *
  generalize rk (y / 4096 % 64) = q2 at *
  generalize rk (y / 64 % 64) = q1 at *
  generalize rk (y % 64) = q0 at *
  simp only [lexlt]
  by_cases e3 : p3 = q3
  · rw [if_pos e3]
    by_cases e2 : p2 = q2
    · rw [if_pos e2]
      by_cases e1 : p1 = q1
      · rw [if_pos e1]
        by_cases e0 : p0 = q0
        · rw [if_pos e0]; symm; rw [decide_eq_false_iff_not]; (first | lia | omega)
        · rw [if_neg e0]; exact decide_eq_decide.mpr (by (first | lia | omega))
      · rw [if_neg e1]; exact decide_eq_decide.mpr (by (first | lia | omega))
    · rw [if_neg e2]; exact decide_eq_decide.mpr (by (first | lia | omega))
  · rw [if_neg e3]; exact decide_eq_decide.mpr (by (first | lia | omega))
section
variable {prog : Program} {w : World} {A : Around} {E : Value → Shared → Prop} {s : Shared} {a b : Addr} {xs ys : List Value} {k j : Nat} {ns ms : List Int} {Q : Bool → Shared → Prop}
theorem eqBool_ints (ha : s.heap.get? a = some (listOf xs.toArray k)) (hb : s.heap.get? b = some (listOf ys.toArray j)) (h1 : IntsAre xs ns) (h2 : IntsAre ys ms) (hu : A.units + 64 < cLine) (h : Q (decide (ns = ms)) s) :
    wpAny (model prog w) A (eqBool (.ref a) (.ref b)) Q E s := by
  unfold eqBool
  refine wpAny_holding ?_
  show wpAny _ _ (if (Value.ref a == Value.ref b) = true then _ else _) Q E s
  by_cases hab : (Value.ref a == Value.ref b) = true
  · rw [if_pos hab]
    have e : a = b := by have := eq_of_beq hab; injection this
    subst e
    rw [ha] at hb
    have e2 : xs = ys := by injection hb with hb; injection hb with _ _ hb _; injection hb with hb _; simpa using congrArg Array.toList hb
    subst e2
    have e3 : ns = ms := by rw [← h1.nums, ← h2.nums]
    exact wpAny_bind (wpAny_rule (wpAny_pure (by simpa [e3] using h)))
  · rw [if_neg hab]
    exact wpAny_bind (show wpAny _ _ (compareOp .Eq (.ref a) (.ref b)) _ _ _ from eq_intsK ⟨_, ha, rfl, _, rfl⟩ h1 ⟨_, hb, rfl, _, rfl⟩ h2 hu (wpAny_truthy_bool h))
theorem oneLt_ints (ha : s.heap.get? a = some (listOf xs.toArray k)) (hb : s.heap.get? b = some (listOf ys.toArray j)) (h1 : IntsAre xs ns) (h2 : IntsAre ys ms) (hlen : ns.length = ms.length) (hu : A.units < cLine) (h : Q (lexlt ns ms) s) :
    wpAny (model prog w) A (oneLt' true (.ref a) (.ref b)) Q E s := by
  rw [oneLt'_eq]
  simp only [if_true]
  refine wpAny_bind (wpAny_cRoomFor hu ?_)
  refine wpAny_bind (wpAny_callSpecialIfBound?_slot ⟨_, ha, rfl⟩ PySem.F.slot_list_lt (call_meets PySem.F.slot_list_lt ⟨_, ha, rfl⟩ PySem.F.entry_list_lt (PySem.F.args_list_lt_2 _ _) (list_lt a b xs ys k j ns ms h1 h2 hlen) ⟨ha, hb, ?_⟩))
  exact wpAny_truthy_bool h
end
/-- a rank beside its number -/
def TupIs (h : Heap) (v : Value) (x : Int) : Prop := ∃ a r n k tx us, v = .ref a ∧ h.get? a = some { cls := .type "tuple", data := .seq #[.ref r, .int x tx] n } ∧ h.get? r = some (listOf us.toArray k) ∧ IntsAre us (rks x)
section
variable {prog : Program} {w : World} {A : Around} {E : Value → Shared → Prop} {s : Shared} {u v : Value} {x y : Int} {Q : Bool → Shared → Prop}
theorem tup_lt (hu : TupIs s.heap u x) (hv : TupIs s.heap v y) (h0 : 0 ≤ x) (h1 : x < 2 ^ 24) (h2 : 0 ≤ y) (h3 : y < 2 ^ 24) (hun : A.units + 64 < cLine) (h : Q (decide (key x < key y)) s) :
    wpAny (model prog w) A (keyLt' (tuples' true) u v) Q E s := by
  obtain ⟨a, r, n, k, tx, us, rfl, ga, gr, hi⟩ := hu
  obtain ⟨b, q, n', k', ty, vs, rfl, gb, gq, hj⟩ := hv
  refine kat_lt ga rfl gb rfl ?_
  refine kat_cons (eqBool_ints gr gq hi hj hun ?_)
  by_cases e : rks x = rks y
  · have ek := rks_eq.mp e
    have exy := key_inj h0 h1 h2 h3 ek
    have e1 : decide (rks x = rks y) = true := decide_eq_true e
    rw [e1]
    refine kat_yes (kat_cons (wpAny_eqBool_int ?_))
    have e2 : (x == y) = true := by simp [exy]
    rw [e2]
    refine kat_yes (kat_nil ?_)
    have e3 : decide (key x < key y) = false := by rw [decide_eq_false_iff_not, ek]; exact Int.lt_irrefl _
    rw [e3] at h
    exact h
  · have e1 : decide (rks x = rks y) = false := decide_eq_false e
    rw [e1]
    refine kat_no (oneLt_ints gr gq hi hj rfl (by (first | lia | omega)) ?_)
    rw [rks_lt]; exact h
end
inductive TupsAre (h : Heap) : List Value → List Int → Prop
  | nil : TupsAre h [] []
  | cons {v : Value} {x : Int} {vs : List Value} {xs : List Int} : TupIs h v x → TupsAre h vs xs → TupsAre h (v :: vs) (x :: xs)
theorem TupsAre.length {h : Heap} {vs : List Value} {xs : List Int} (a : TupsAre h vs xs) : vs.length = xs.length := by
  induction a with
  | nil => rfl
  | cons _ _ ih => exact congrArg Nat.succ ih
theorem TupsAre.get {h : Heap} {vs : List Value} {xs : List Int} (a : TupsAre h vs xs) : ∀ i, i < vs.length → TupIs h (vs.getD i Value.none) (xs.getD i 0) := by
  induction a with
  | nil => exact fun i hi => absurd hi (Nat.not_lt_zero _)
  | cons t _ ih =>
    intro i hi
    cases i with
    | zero => exact t
    | succ i => exact ih i (Nat.lt_of_succ_lt_succ hi)
theorem TupsAre.append {h : Heap} {vs us : List Value} {xs ys : List Int} (a : TupsAre h vs xs) (q : TupsAre h us ys) : TupsAre h (vs ++ us) (xs ++ ys) := by
  induction a with
  | nil => exact q
  | cons t _ ih => exact .cons t ih
theorem TupsAre.firsts {h : Heap} : ∀ {vs : List Value} {xs : List Int}, TupsAre h vs xs → ∃ fs, KatTups h vs fs ∧ fs.length = vs.length ∧ ∀ v ∈ fs, ∃ r us k, v = .ref r ∧ h.get? r = some (listOf us k)
  | _, _, .nil => ⟨[], KatTups.nil, rfl, fun _ hv => nomatch hv⟩
  | _, _, .cons t r => by
    obtain ⟨fs, h1, h2, h3⟩ := r.firsts
    obtain ⟨a, q, n, k, tx, us, rfl, ga, gr, _⟩ := t
    refine ⟨.ref q :: fs, KatTups.cons ga rfl rfl rfl h1, by simp [h2], fun v hv => ?_⟩
    rcases List.mem_cons.mp hv with rfl | hv
    · exact ⟨q, _, _, rfl, gr⟩
    · exact h3 v hv
section
variable {prog : Program} {w : World} {A : Around} {E : Value → Shared → Prop} {s : Shared} {h₀ : Heap} {L l : Addr} {m : Str → Option Value} {news : List (Addr × Obj)} {vs : List Value} {xs : List Int} {Q : Value → Shared → Prop}
theorem sorted_tups (F : Fr h₀ L s.heap m) (N : News h₀ L s.heap news) (hl : s.heap.IsList l vs.toArray) (ht : ∀ h, News h₀ L h news → TupsAre h vs xs) (hb : ∀ x ∈ xs, 0 ≤ x ∧ x < 2 ^ 24) (h2 : 2 ≤ vs.length) (h64 : vs.length < 64) (hu : A.units + 100 < cLine)
    (h : ∀ D (p : Array Nat) c h', Fr h₀ L h' m → News h₀ L h' ((D, listOf (p.toList.map fun i => vs.getD i Value.none).toArray c) :: news) → (∀ q ∈ news, q.1 < D) → p.Perm (List.range vs.length).toArray → Up (fun i => key (xs.getD i 0)) p vs.length → Q (.ref D) { s with heap := h' }) :
    wpAny (model prog w) A (call (.builtin "sorted") [.ref l]) Q E s := by
  refine kat_sorted F N hl h2 h64 fun D e1 h' F' N' hD => ?_
  have N0 : News h₀ L h' news := fun p hp => N' p (.tail _ hp)
  have T := ht h' N0
  obtain ⟨fs, k1, k2, k3⟩ := T.firsts
  refine kat_kind (T := .type "list") k1 (by (first | lia | omega)) (fun v hv => ?_) rfl ?_
  · obtain ⟨r, us, k, rfl, gr⟩ := k3 v hv
    exact fun _ _ _ s' k q => wpAny_typeOf (s := s') (show s'.TypeIs (.ref r) "list" from ⟨_, k _ _ gr, rfl⟩) q
  · have hlen := T.length
    have rng : ∀ i, i < vs.length → 0 ≤ xs.getD i 0 ∧ xs.getD i 0 < 2 ^ 24 := fun i hi => hb _ (by
      have hi' : i < xs.length := by (first | lia | omega)
      rw [List.getD_eq_getElem?_getD, List.getElem?_eq_getElem hi']
      exact List.getElem_mem hi')
    refine kall_wp (n := vs.length) (P := fun _ => True) (lt := klt fun i => key (xs.getD i 0)) (I := fun s' => s' = { s with heap := h' }) ?_ _ _ (sort_all (by (first | lia | omega))) rfl ?_
    · rintro i j C s' hi hj rfl hC
      exact tup_lt (s := { s with heap := h' }) (T.get i hi) (T.get j hj) (rng i hi).1 (rng i hi).2 (rng j hj).1 (rng j hj).2 (by have := units_in1 A; have := units_in1 A.in1; (first | lia | omega)) (hC _ rfl)
    · rintro s' rfl
      have so := sort_ok (fun i => key (xs.getD i 0)) vs.length (by (first | lia | omega))
      exact KasFin.intro (s := { s with heap := h' }) F' N' (UpdF.head fun p hp => Nat.ne_of_lt (hD p hp)) fun h'' c F'' N'' => h D _ c h'' F'' N'' hD so.1 so.2
end
end Mine
end
section
open PySem PySem.W PySem.Calls PyProof.Rows
set_option maxRecDepth 100000
namespace Mine
section
variable {prog : Program} {w : World} {A : Around} {E : Value → Shared → Prop} {s : Shared} {h₀ : Heap} {L l : Addr} {m : Str → Option Value} {news : List (Addr × Obj)} {v : Value} {Q : Value → Shared → Prop}
theorem one_tree {a : Addr} {n : Nat} {P : Fin → Shared → Prop} (ho : s.heap.get? a = some (seqObj "list" [v].toArray n)) (h : P (.done (.ret .none)) { s with heap := sortedHeap s.heap a [v] #[v] }) :
    wpAny (model prog w) A (Builtin.«list.sort» ⟨[.ref a], []⟩) P E s := by
  have ha : a < s.heap.objs.size := Heap.lt_size ho
  obtain ⟨e1, ho1⟩ : ∃ e1, (s.heap.update a (Obj.mapSeq fun _ => #[])).get? a = some (seqObj "list" #[] e1) := ⟨_, get?_update_seq ho (fun _ => #[])⟩
  have ho6 : (((s.heap.update a (Obj.mapSeq fun _ => #[])).push (seqObj "tuple" [v].toArray 0)).push (seqObj "list" #[] 0)).get? a = some (seqObj "list" #[] e1) :=
    Heap.get?_push_of_some _ (Heap.get?_push_of_some _ ho1)
  rw [list_sort_plain]
  refine wpAny_bind (listItems_at ho rfl ?_)
  refine wpAny_bind (listUpdate_at ho rfl ?_)
  refine wpAny_bind (seqEpoch_at ho1 rfl ?_)
  refine wpAny_bind (wpAny_newTuple ?_)
  refine wpAny_bind (wpAny_newList ?_)
  refine wpAny_holding ?_
  show wpAny (model prog w) A _ P E { s with heap := ((s.heap.update a (Obj.mapSeq fun _ => #[])).push (seqObj "tuple" [v].toArray 0)).push (seqObj "list" #[] 0) }
  dsimp only
  have h2 : [v].toArray.size < 2 := Nat.lt_succ_self 1
  rw [if_pos h2, if_pos h2]
  refine wpAny_bind (wpAny_pure ?_)
  rw [StateT.run_pure]
  refine wpAny_bind (wpAny_pure ?_)
  dsimp only
  refine wpAny_bind (seqEpoch_at ho6 rfl ?_)
  have e9 : (Array.map (fun x => x.snd) (arrOf (SortSt.mk' general' (#[v].zip #[v]) #[] 7 none))) = #[v] := by
    show Array.map (fun x => x.snd) (#[v].zip #[v]) = #[v]
    simp
  rw [e9]
  refine wpAny_bind (listUpdate_at ho6 rfl ?_ (hsz2 := by rw [sizeLine_eq]; show 1 ≤ 16777216 + 1; (first | lia | omega)))
  simp only [bne_self_eq_false, Bool.false_eq_true, if_false]
  exact wpAny_pure h
theorem sorted_one (F : Fr h₀ L s.heap m) (N : News h₀ L s.heap news) (hl : s.heap.IsList l [v].toArray)
    (h : ∀ D c h', Fr h₀ L h' m → News h₀ L h' ((D, listOf [v].toArray c) :: news) → (∀ q ∈ news, q.1 < D) → Q (.ref D) { s with heap := h' }) :
    wpAny (model prog w) A (call (.builtin "sorted") [.ref l]) Q E s := by
  refine Calls.call_function_entry kind_sorted plain_sorted entry_sorted (args_sorted1 _) ?_
  unfold Builtin.«sorted»
  refine wpAny_bind (m := checkCount "sorted" 1 1 _) (wpAny_pure ?_)
  refine wpAny_bind (collect_list hl ?_)
  refine wpAny_bind (wpAny_newList ?_)
  have hsz : ((s.heap.push (seqObj "list" #[] 0)).update s.heap.objs.size (Obj.mapSeq (· ++ [v].toArray))).objs.size = s.heap.objs.size + 1 := by
    rw [Heap.size_update, size_push']
  have hoL : (((s.heap.push (seqObj "list" #[] 0)).update s.heap.objs.size (Obj.mapSeq (· ++ [v].toArray))).push (seqObj "list" [v].toArray 0)).get? (s.heap.objs.size + 1) = some (seqObj "list" [v].toArray 0) := by
    rw [← hsz]; exact Heap.get?_push_size _ rfl
  show wpAny _ _ _ _ _ { s with heap := ((s.heap.push (seqObj "list" #[] 0)).update s.heap.objs.size (Obj.mapSeq (· ++ [v].toArray))).push (seqObj "list" [v].toArray 0) }
  rw [hsz]
  refine wpAny_bind (wpAny_holding (wpAny_call_entry slot_list_sort ⟨_, hoL, rfl⟩ entry_list_sort (one_tree hoL ⟨_, rfl, ?_⟩) (args_list_sort _)))
  refine wpAny_pure ⟨_, rfl, ?_⟩
  obtain ⟨e, he⟩ := sortedAll_at s.heap [v] #[v]
  exact h _ e (sortedAll s.heap [v] #[v]) (F.kept fun _ _ => sortedAll_old) (N.kept_cons F (fun _ _ => sortedAll_old) (Nat.le_succ _) he) fun q hq => Nat.lt_succ_of_lt (Heap.lt_size (N q hq).1)
end
end Mine
end
section
open PySem PySem.W PySem.Calls PyProof.Rows
set_option maxRecDepth 100000
namespace Mine
inductive BAre : List Value → List (Array UInt8) → Prop
  | nil : BAre [] []
  | cons (b : Array UInt8) (t : Tok) {vs bs} : BAre vs bs → BAre (.bytes b t :: vs) (b :: bs)
theorem BAre.append {vs ws : List Value} {bs cs : List (Array UInt8)} (a : BAre vs bs) (h : BAre ws cs) : BAre (vs ++ ws) (bs ++ cs) := by
  induction a with
  | nil => exact h
  | cons b t _ ih => exact .cons b t ih
theorem BAre.one (b : Array UInt8) (t : Tok) : BAre [.bytes b t] [b] := .cons b t .nil
theorem BAre.length {vs : List Value} {bs : List (Array UInt8)} (a : BAre vs bs) : vs.length = bs.length := by
  induction a with
  | nil => rfl
  | cons _ _ _ ih => exact congrArg Nat.succ ih
def isI (k : Int) : Value → Bool
  | .int i _ => i == k
  | _ => false
def rmi (k : Int) : List Value → List Value
  | [] => []
  | v :: r => if isI k v then r else v :: rmi k r
theorem rmi_ints {k : Int} {l : List Value} {ns : List Int} (a : IntsAre l ns) : IntsAre (rmi k l) (ns.erase k) := by
  induction a with
  | nil => exact .nil
  | cons n t r ih =>
    unfold rmi
    rw [List.erase_cons]
    by_cases h : (n == k) = true
    · rw [if_pos (show isI k (.int n t) = true from h), if_pos h]; exact r
    · rw [if_neg (show ¬ isI k (.int n t) = true from h), if_neg h]; exact .cons n t ih
theorem rmi_spec {k : Int} {l : List Value} {ns : List Int} (a : IntsAre l ns) : k ∈ ns → ∃ j, ∃ hj : j < l.length, isI k l[j] = true ∧ (∀ i (hi : i < l.length), i < j → isI k l[i] = false) ∧ rmi k l = l.eraseIdx j := by
  induction a with
  | nil => exact fun h => nomatch h
  | cons n t r ih =>
    intro h
    by_cases e : (n == k) = true
    · exact ⟨0, Nat.succ_pos _, e, fun i _ hi => absurd hi (Nat.not_lt_zero _), if_pos e⟩
    · have hk := (List.mem_cons.mp h).resolve_left fun q => e (by rw [q]; exact beq_self_eq_true n)
      obtain ⟨j, hj, h1, h2, h3⟩ := ih hk
      refine ⟨j + 1, Nat.succ_lt_succ hj, h1, fun i hi hlt => ?_, (if_neg e).trans (congrArg _ h3)⟩
      cases i with
      | zero => exact Bool.not_eq_true _ ▸ e
      | succ i => exact h2 i (Nat.lt_of_succ_lt_succ hi) (Nat.lt_of_succ_lt_succ hlt)
theorem eqGives_int {l : List Value} {ns : List Int} (hi : IntsAre l ns) (k : Int) (t : Tok) : ∀ y ∈ l, MeetsSeq.EqGives y (.int k t) (isI k y) := fun y hy => by
  obtain ⟨n, u, rfl⟩ := hi.all y hy
  exact MeetsSeq.EqGives.int n k u t
theorem any_isI {k : Int} {l : List Value} {ns : List Int} (a : IntsAre l ns) : l.any (isI k) = decide (k ∈ ns) := by
  induction a with
  | nil => rfl
  | cons n t r ih =>
    rw [List.any_cons, ih]
    show ((n == k) || _) = _
    by_cases e : k = n
    · simp [e]
    · have e2 : (n == k) = false := by simp; exact fun q => e q.symm
      rw [e2]; simp [e]
section
variable {prog : Program} {w : World} {A : Around} {E : Value → Shared → Prop} {s : Shared} {h₀ : Heap} {L D : Addr} {m : Str → Option Value} {news news' : List (Addr × Obj)} {n : Nat} {l : List Value} {ns : List Int} {k : Int} {t : Tok} {Q : Value → Shared → Prop}
theorem in_ints (N : News h₀ L s.heap news) (hm : (D, listOf l.toArray n) ∈ news) (hi : IntsAre l ns) (h : Q (.bool (decide (k ∈ ns))) s) : wpAny (model prog w) A (compareOp .In (.int k t) (.ref D)) Q E s :=
  SeqInW.in_listW (isI k) (fun y hy => eqGives_int hi k t y (by simpa using hy)) (PySem.IsL.isList (n := n) (N _ hm).1) (by rw [← Array.any_toList, List.toList_toArray, any_isI hi]; exact h)
theorem remove_int (F : Fr h₀ L s.heap m) (N : News h₀ L s.heap news) (hi : IntsAre l ns) (hk : k ∈ ns) (U : Upd D (listOf l.toArray n) (listOf (rmi k l).toArray (n + 1)) news news') (hz : l.length ≤ 16777216)
    (h : ∀ h', Fr h₀ L h' m → News h₀ L h' news' → Q .none { s with heap := h' }) : wpAny (model prog w) A (call (.builtin "list.remove") [.ref D, .int k t]) Q E s := by
  obtain ⟨pre, post, rfl, rfl, a', b'⟩ := U.split
  have z := N (D, listOf l.toArray n) (List.mem_append.mpr (.inr (.head _)))
  obtain ⟨j, hj, h1, h2, h3⟩ := rmi_spec hi hk
  have hz' : l.toArray.size ≤ sizeLine := by rw [List.size_toArray, sizeLine_eq]; exact hz
  refine call_meets PySem.F.slot_list_remove ⟨_, z.1, rfl⟩ PySem.F.entry_list_remove (PySem.F.args_list_remove_2 _ _)
    (MeetsSeq.list_remove D l.toArray n (.int k t) (isI k) (fun y hy => eqGives_int hi k t y (by simpa using hy)) j (by simpa using hj) (by simpa using h1) (fun i hi hlt => by simpa using h2 i (by simpa using hi) hlt) hz')
    ⟨z.1, h _ (F.change (Heap.SameBut.update ..) z.2.1 z.2.2) (kl_turn _ N a' b' ?_ ?_)⟩
  · show l.toArray.eraseIdxIfInBounds j = (rmi k l).toArray
    rw [h3]
    apply Array.toList_inj.mp
    simp
  · rw [List.size_toArray, List.size_toArray, h3, List.length_eraseIdx_of_lt hj]; (first | lia | omega)
end
section
variable {prog : Program} {w : World} {A : Around} {E : Value → Shared → Prop} {s : Shared} {h₀ : Heap} {L l : Addr} {m : Str → Option Value} {news : List (Addr × Obj)} {value slice : PySem.Expr} {vs : List Value} {Q : Value → Shared → Prop}
theorem slice_all (F : Fr h₀ L s.heap m) (N : News h₀ L s.heap news) (hl : s.heap.IsList l vs.toArray)
    (h : ∀ D h', Fr h₀ L h' m → News h₀ L h' ((D, listOf vs.toArray 0) :: news) → (∀ p ∈ news, p.1 < D) → Q (.ref D) { s with heap := h' })
    (hs : subscripted slice false (.ref l) (.ref s.heap.objs.size) = operate [.ref s.heap.objs.size, .ref l] (getItem (.ref l) (.ref s.heap.objs.size))) (ht : ∀ r, letTemporaryGo value (.ref l) r = pure ()) (hz : vs.length ≤ 16777216) :
    wpAny (model prog w) A (subscriptTail value slice (.ref l) (.ref s.heap.objs.size)) Q E { s with heap := s.heap.push { cls := .type "slice", data := .fields #[.none, .none, .none] } } :=
  kmk_slice_lit F N hl IsPart.none IsPart.none (by rw [slicePick_all]) h hs ht (by rw [List.size_toArray, sizeLine_eq]; exact hz)
end
/-- the items of the one that the other lacks -/
def lessF : List Int → List Int → List Int
  | [], _ => []
  | x :: r, o => if x ∈ o then lessF r (o.erase x) else x :: lessF r o
section
variable {w : World} {mean : ExcName → Option Value} {mg mb : Str → Option Value} {p : Program} {loose : List Str}

/-- the words of the walk -/
theorem words_less1 : True := by
  k_with_none
  k_with "k_room" => ((try simp only [depth_under_make, depth_under_kw, depth_in1, depth_deeper, depth_caller]); (try dsimp only [ktrTop]); first | (refine' room_of ?h 0 rfl ?k; (case h => assumption); (case k => exact rfl)) | (refine' room_of ?h _ (Nat.add_assoc _ _ _) ?k; (case h => assumption); (case k => exact rfl)) | (refine' room_of ?h 1 rfl ?k; (case h => assumption); (case k => exact rfl)) | (refine' room_of ?h _ ((Nat.add_assoc _ _ _).trans (Nat.add_assoc _ _ _)) ?k; (case h => assumption); (case k => exact rfl)) | lia)
  k_with "ktr_room" => (k_room)
  k_with "k_units" => ((try simp only [units_in1, units_deeper, Around.mark_units, units_caller]); (try dsimp only [ktrTop]); first | (refine' room_of ?h _ (Nat.add_assoc _ _ _) ?k; (case h => assumption); (case k => exact rfl)) | (refine' room_of ?h _ ((Nat.add_assoc _ _ _).trans (Nat.add_assoc _ _ _)) ?k; (case h => assumption); (case k => exact rfl)) | (refine' room_of ?h 0 rfl ?k; (case h => assumption); (case k => exact rfl)) | (have hcL9 := cLine_is; lia))
  k_with "k_ne" => (refine neN ?_; (try dsimp only); first | assumption | exact Ne.symm (by assumption) | exact Nat.ne_of_lt (by assumption) | exact Nat.ne_of_gt (by assumption) | ((repeat' (rename _ ∧ _ => h9; obtain ⟨h8, h7⟩ := h9)); first | exact Nat.ne_of_lt (by assumption) | exact Nat.ne_of_gt (by assumption) | assumption | exact Ne.symm (by assumption)) | lia)
  k_with "exec For Name Name cons nil" => (k_here; (rename Fr _ _ _ _ => lF'); (with_unfolding_all refine' For_invVF lF' ?k1 ?k2 ?_; (case k1 => exact rfl); (case k2 => exact rfl); k_whole))
  k_with "subscriptTail Name Slice ref ref" => (k_here; k_dflt (refine' slice_all ?F ?N ?l ?_ ?s ?t ?z; (case F => k_asm); (case N => k_asm); (case l => kmk_list); (case s => with_unfolding_all rfl); (case t => kmk_pure); (case z => (first | lia | omega))); intro _ _ _ _ l1q; (try k_lt l1q); (try k_sweep))
  k_with "k_all" => (assumption)
  k_with "compareOp In int ref" => (k_dflt (refine' in_ints ?k1 ?k2 ?k3 ?_; (case k1 => k_asm); (case k2 => k_mem); (case k3 => assumption)))
  k_with "call builtin:list.remove" => (k_dflt (refine' remove_int ?k1 ?k2 ?k3 ?k4 ?k5 ?k6 ?_; (case k1 => k_asm); (case k2 => k_asm); (case k3 => assumption); (case k4 => assumption); (case k5 => k_upd); (case k6 => (first | lia | omega))); intro _ _ _)
  k_with "call builtin:list.append" => (k_dflt (refine' append_K ?k1 ?k2 ?k3 ?_ ?z; (case k1 => k_asm); (case k2 => k_asm); (case k3 => k_upd); (case z => (simp only [List.size_toArray, sizeLine_eq]; (first | lia | omega)))); intro _ _ _)
  k_with "my steps" => (repeat' (first | ((fail_if_success (with_reducible show wpAny _ _ (pyIter _) _ _ _)); (fail_if_success (with_reducible show wpAny _ _ (call (Value.ref 144) _ _) _ _ _)); (fail_if_success (with_reducible show InvEndG _ _ _ _ _ _)); first | (k_unfold; (try dsimp only)) | walk1 | (dsimp only; walk1))))
  trivial
theorem fr_eq {h₀ h : Heap} {L : Addr} {m m' : Str → Option Value} (F : Fr h₀ L h m) (e : ∀ y, m y = m' y) : Fr h₀ L h m' := by
  rw [← funext e]; exact F
inductive LessJ (DA DR l1 l2 : Addr) (ns1 ns2 : List Int) (i : Nat) (m : Str → Option Value) (nx : List (Addr × Obj)) : Prop
  | intro (R : List Value) (rs : List Int) (Al : List Value) (as : List Int) (nr na : Nat) (e : nx = [(DA, listOf (Al : List Value).toArray na), (DR, listOf (R : List Value).toArray nr)]) (hR : IntsAre R rs) (hA : BAre Al (as.map octs))
    (hm : ∀ z, z ≠ Str.ofString "x" → m z = (fun y => if y = Str.ofString "alone" then some (Value.ref DA) else if y = Str.ofString "rest" then some (Value.ref DR) else List.lookup y [(Str.ofString "one", Value.ref l1), (Str.ofString "other", Value.ref l2)].reverse) z)
    (he : as ++ lessF (ns1.drop i) rs = lessF ns1 ns2) (hrl : rs.length ≤ 1000) (hal : as.length ≤ i)
set_option maxHeartbeats 8000000 in
theorem less_does (l1 l2 : Addr) (vs1 vs2 : List Value) (ns1 ns2 : List Int) (hi1 : IntsAre vs1 ns1) (hi2 : IntsAre vs2 ns2) (hb : ∀ x ∈ ns1, 0 ≤ x ∧ x < 2 ^ 24) (hz1 : ns1.length ≤ 1000) (hz2 : ns2.length ≤ 1000) :
    Does w p loose mean mg mb 161 [.ref l1, .ref l2] [] 3 [] (fun h => h.IsList l1 vs1.toArray ∧ h.IsList l2 vs2.toArray)
      (fun h v h' => ∃ l n vs, v = .ref l ∧ h.get? l = none ∧ h'.get? l = some (listOf vs.toArray n) ∧ BAre vs ((lessF ns1 ns2).map octs)) := by
  unfold Does
  k_fill
  intro dp un gd cn cs a ccd cl outer A₀ base h₀ L m s Q E B F X N T hk hd hu hp hret
  refine wpAny_call ?_
  k_dflt (refine' code_defB (binds := [(Str.ofString "one", .ref l1), (Str.ofString "other", .ref l2)]) ?k1 ?k2 ?k3 ?k4 ?k5 ?kA ?kF ?kK ?k6 ?k7 ?k8 ?k9 ?kB ?_ ?c2 ?c3 ?c4 ?c5; (case kA => exact rfl); (case kF => exact rfl); (case kK => assumption); (case k1 => k_asm); (case k2 => k_asm); (case k3 => k_asm); (case k4 => exact News.nil); (case k5 => k_asm); (case k6 => k_is); (case k7 => k_is); (case k8 => k_room); (case k9 => exact BindsTo.of_eq rfl); (case c5 => decide); (case kB => exact locs rfl); (case c2 => exact rfl); (case c3 => exact rfl); (case c4 => exact rfl); k_whole)
  intro g L' h' KG FG F' N' B' X' T' A₁ Q₁ E₁
  try dsimp only
  try k_fold
  have hl1 : g.IsList l1 vs1.toArray := let ⟨o, ho, r⟩ := hp.1; ⟨o, KG _ _ ho (fun z => nomatch z), r⟩
  have hl2 : g.IsList l2 vs2.toArray := let ⟨o, ho, r⟩ := hp.2; ⟨o, KG _ _ ho (fun z => nomatch z), r⟩
  have q1 := hi1.length
  have q2 := hi2.length
  walk_at "my steps"
  rename_i DR h3 h2 DA h1 ll h0 N2
  rename Fr _ _ _ _ => F2
  skip
  refine iter_invG (LessJ DA DR l1 l2 ns1 ns2) rfl hl1 hi1 F2 N2 ⟨vs2, ns2, [], [], 0, 0, rfl, hi2, .nil, fun _ _ => rfl, rfl, hz2, Nat.le_refl _⟩ ?_ ?_
  · rintro i x t m₁ nx h tk own hx hI hoff ⟨R, rs, Al, as, nr, na, rfl, hR, hA, hm, he, hrl, hal⟩ F3 N3
    have F4 := fr_eq (m' := fun y => if y = Str.ofString "x" then some (Value.int x t) else if y = Str.ofString "alone" then some (Value.ref DA) else if y = Str.ofString "rest" then some (Value.ref DR) else List.lookup y [(Str.ofString "one", Value.ref l1), (Str.ofString "other", Value.ref l2)].reverse) F3 (fun y => by
      by_cases e : y = Str.ofString "x"
      · simp [e]
      · simp only [e, if_false]; exact hm y e)
    clear F3 F2 N2
    have oA : ∀ p ∈ own, p.1 ≠ DA := fun p hp => hoff p hp DA (by simp)
    have oR : ∀ p ∈ own, p.1 ≠ DR := fun p hp => hoff p hp DR (by simp)
    have hxm := List.mem_of_getElem? hx
    have hxb := hb x hxm
    have hRl := hR.length
    have hAl := hA.length
    have hil : i < ns1.length := (List.getElem?_eq_some_iff.mp hx).1
    simp only [List.length_map] at hAl
    dsimp only [List.cons_append, List.nil_append] at N3
    have hdr : ns1.drop i = x :: ns1.drop (i + 1) := by
      rw [List.drop_eq_getElem_cons hil]; congr 1; exact (List.getElem?_eq_some_iff.mp hx).2
    rw [hdr] at he
    by_cases hmem : x ∈ rs
    · walk_at "my steps"
      · rename Fr _ _ _ _ => F9
        rename News _ _ _ _ => N9
        refine InvEndG.intro F9 N9 ⟨rmi x R, rs.erase x, Al, as, nr + 1, na, rfl, rmi_ints hR, hA, fun z hz => by simp [hz], ?_, ?_, by (first | lia | omega)⟩ (fun p hp b hb => ?_) (fun p hp => ?_) (fun p hp => ?_)
        · rw [← he, lessF, if_pos hmem]
        · have := List.length_erase_le (a := x) (l := rs); (first | lia | omega)
        · simp only [List.map_cons, List.map_nil, List.mem_cons, List.not_mem_nil, or_false] at hb
          rcases hb with rfl | rfl
          · exact oA p hp
          · exact oR p hp
        · simp only [List.mem_cons, List.not_mem_nil, or_false] at hp
          rcases hp with rfl | rfl
          · exact .head _
          · exact .tail _ (.head _)
        · exact .tail _ (.tail _ hp)
      · exfalso; simp_all
    · walk_at "my steps"
      k_dflt (refine' gives_use (octets_gives _ _ ?q1 ?q2) ?k1 ?k2 ?k3 ?k4 ?k5 ?kK ?kd ?ku ?_; (case k1 => k_asm); (case k2 => k_asm); (case k3 => k_asm); (case k4 => k_asm); (case k5 => k_asm); (case kK => exact rfl); (case q1 => (first | lia | omega)); (case q2 => (first | lia | omega)); (case kd => k_room); (case ku => k_units))
      intro t9 h9 tk9 F9 N9
      clear N3 F4
      walk_at "my steps"
      rename Fr _ _ _ _ => F9
      rename News _ _ _ _ => N9
      try simp only [List.push_toArray] at N9
      refine InvEndG.intro F9 N9 ⟨R, rs, Al ++ [.bytes (octs x) t9], as ++ [x], nr, na + 1, rfl, hR, ?_, fun z hz => by simp [hz], ?_, hrl, by simp; (first | lia | omega)⟩ (fun p hp b hb => ?_) (fun p hp => ?_) (fun p hp => ?_)
      · rw [List.map_append]; exact hA.append (BAre.one _ _)
      · rw [← he, lessF, if_neg hmem, List.append_assoc]; rfl
      · simp only [List.map_cons, List.map_nil, List.mem_cons, List.not_mem_nil, or_false] at hb
        rcases hb with rfl | rfl
        · exact oA p hp
        · exact oR p hp
      · simp only [List.mem_cons, List.not_mem_nil, or_false] at hp
        rcases hp with rfl | rfl
        · exact .head _
        · exact .tail _ (.head _)
      · exact .tail _ (.tail _ hp)
  · rintro m₁ nx h tk ⟨R, rs, Al, as, nr, na, rfl, hR, hA, hm, he, hrl, hal⟩ F3 N3
    have F4 := fr_eq (m' := fun y => if y = Str.ofString "x" then m₁ y else if y = Str.ofString "alone" then some (Value.ref DA) else if y = Str.ofString "rest" then some (Value.ref DR) else List.lookup y [(Str.ofString "one", Value.ref l1), (Str.ofString "other", Value.ref l2)].reverse) F3 (fun y => by
      by_cases e : y = Str.ofString "x"
      · simp [e]
      · simp only [e, if_false]; exact hm y e)
    clear F3 F2 N2
    walk_at "my steps"
    rw [List.drop_length, lessF, List.append_nil] at he
    refine hret _ _ _ (Kept.trans KG F4) ⟨DA, na, Al, rfl, Kept.fresh KG N3 (.head _), (N3 _ (.head _)).1, ?_⟩
    rw [← he]; exact hA
end
end Mine
end
section
open PySem PySem.W PySem.Calls PyProof.Rows PyProof.Rows.LCg PyProof.Rows.LCp
set_option maxRecDepth 100000
namespace Mine
/-- a rank beside its number, in a ledger -/
def TupIn (nw : List (Addr × Obj)) (v : Value) (x : Int) : Prop := ∃ a r n k tx us, v = .ref a ∧ (a, ({ cls := .type "tuple", data := .seq #[.ref r, .int x tx] n } : Obj)) ∈ nw ∧ (r, listOf us.toArray k) ∈ nw ∧ IntsAre us (rks x)
inductive TupsIn (nw : List (Addr × Obj)) : List Value → List Int → Prop
  | nil : TupsIn nw [] []
  | cons {v : Value} {x : Int} {vs : List Value} {xs : List Int} : TupIn nw v x → TupsIn nw vs xs → TupsIn nw (v :: vs) (x :: xs)
theorem TupIn.mono {nw nw' : List (Addr × Obj)} {v : Value} {x : Int} (h : TupIn nw v x) (hs : ∀ p ∈ nw, p ∈ nw') : TupIn nw' v x := by
  obtain ⟨a, r, n, k, tx, us, e, h1, h2, h3⟩ := h
  exact ⟨a, r, n, k, tx, us, e, hs _ h1, hs _ h2, h3⟩
theorem TupsIn.mono {nw nw' : List (Addr × Obj)} (hs : ∀ p ∈ nw, p ∈ nw') {vs : List Value} {xs : List Int} (a : TupsIn nw vs xs) : TupsIn nw' vs xs := by
  induction a with
  | nil => exact .nil
  | cons t _ ih => exact .cons (t.mono hs) ih
theorem TupsIn.append {nw : List (Addr × Obj)} {vs us : List Value} {xs ys : List Int} (a : TupsIn nw vs xs) (q : TupsIn nw us ys) : TupsIn nw (vs ++ us) (xs ++ ys) := by
  induction a with
  | nil => exact q
  | cons t _ ih => exact .cons t ih
theorem TupsIn.length {nw : List (Addr × Obj)} {vs : List Value} {xs : List Int} (a : TupsIn nw vs xs) : vs.length = xs.length := by
  induction a with
  | nil => rfl
  | cons _ _ ih => exact congrArg Nat.succ ih
theorem TupsIn.get {nw : List (Addr × Obj)} {vs : List Value} {xs : List Int} (a : TupsIn nw vs xs) : ∀ i, i < vs.length → TupIn nw (vs.getD i Value.none) (xs.getD i 0) := by
  induction a with
  | nil => exact fun i hi => absurd hi (Nat.not_lt_zero _)
  | cons t _ ih =>
    intro i hi
    cases i with
    | zero => exact t
    | succ i => exact ih i (Nat.lt_of_succ_lt_succ hi)
theorem TupsIn.pick {nw : List (Addr × Obj)} {vs : List Value} {xs : List Int} (h : TupsIn nw vs xs) : ∀ (p : List Nat), (∀ i ∈ p, i < vs.length) → TupsIn nw (p.map fun i => vs.getD i Value.none) (p.map fun i => xs.getD i 0)
  | [], _ => .nil
  | i :: r, hp => .cons (h.get i (hp i (.head _))) (h.pick r fun j hj => hp j (.tail _ hj))
theorem TupsIn.are {h₀ h : Heap} {L : Addr} {nw : List (Addr × Obj)} (N : News h₀ L h nw) {vs : List Value} {xs : List Int} (b : TupsIn nw vs xs) : TupsAre h vs xs := by
  induction b with
  | nil => exact .nil
  | cons t _ ih =>
    obtain ⟨a, q, n, k, tx, us, e, h1, h2, h3⟩ := t
    exact .cons ⟨a, q, n, k, tx, us, e, (N _ h1).1, (N _ h2).1, h3⟩ ih
theorem upd_mid {D : Addr} {o o' : Obj} {post : List (Addr × Obj)} (h2 : ∀ p ∈ post, p.1 ≠ D) : ∀ {pre : List (Addr × Obj)}, (∀ p ∈ pre, p.1 ≠ D) → Upd D o o' (pre ++ (D, o) :: post) (pre ++ (D, o') :: post)
  | [], _ => Upd.head h2
  | _ :: _, h1 => Upd.tail (h1 _ (.head _)) (upd_mid h2 fun p hp => h1 p (.tail _ hp))
section
variable {prog : Program} {w : World} {A : Around} {E : Value → Shared → Prop} {s : Shared} {h₀ : Heap} {L l : Addr} {m : Str → Option Value} {news : List (Addr × Obj)} {value slice : PySem.Expr} {vs : List Value} {Q : Value → Shared → Prop}
theorem slice_upto {y : Int} {t : Tok} (F : Fr h₀ L s.heap m) (N : News h₀ L s.heap news) (hl : s.heap.IsList l vs.toArray) (hy : 0 ≤ y)
    (h : ∀ D h', Fr h₀ L h' m → News h₀ L h' ((D, listOf (vs.take y.toNat).toArray 0) :: news) → (∀ p ∈ news, p.1 < D) → Q (.ref D) { s with heap := h' })
    (hs : subscripted slice false (.ref l) (.ref s.heap.objs.size) = operate [.ref s.heap.objs.size, .ref l] (getItem (.ref l) (.ref s.heap.objs.size))) (ht : ∀ r, letTemporaryGo value (.ref l) r = pure ()) (hz : vs.length ≤ 16777216) :
    wpAny (model prog w) A (subscriptTail value slice (.ref l) (.ref s.heap.objs.size)) Q E { s with heap := s.heap.push { cls := .type "slice", data := .fields #[.none, .int y t, .none] } } := by
  refine kmk_slice_lit F N hl IsPart.none (IsPart.int _ _) ?_ h hs ht (by rw [List.size_toArray, sizeLine_eq]; exact hz)
  obtain ⟨b, rfl⟩ : ∃ b : Nat, y = (b : Int) := ⟨y.toNat, by (first | lia | omega)⟩
  rw [slicePick_upto', Int.toNat_natCast]
theorem slice_last (k : Nat) {y : Int} {t : Tok} (F : Fr h₀ L s.heap m) (N : News h₀ L s.heap news) (hl : s.heap.IsList l vs.toArray) (hk : 1 ≤ k) (hy : y = -(k : Int))
    (h : ∀ D h', Fr h₀ L h' m → News h₀ L h' ((D, listOf (vs.drop (vs.length - k)).toArray 0) :: news) → (∀ p ∈ news, p.1 < D) → Q (.ref D) { s with heap := h' })
    (hs : subscripted slice false (.ref l) (.ref s.heap.objs.size) = operate [.ref s.heap.objs.size, .ref l] (getItem (.ref l) (.ref s.heap.objs.size))) (ht : ∀ r, letTemporaryGo value (.ref l) r = pure ()) (hz : vs.length ≤ 16777216) :
    wpAny (model prog w) A (subscriptTail value slice (.ref l) (.ref s.heap.objs.size)) Q E { s with heap := s.heap.push { cls := .type "slice", data := .fields #[.int y t, .none, .none] } } := by
  refine kmk_slice_lit F N hl (IsPart.int _ _) IsPart.none ?_ h hs ht (by rw [List.size_toArray, sizeLine_eq]; exact hz)
  subst hy
  rw [slicePick_last _ k hk, List.size_toArray]
end
end Mine
end
section
open PySem PySem.W PySem.Calls PyProof.Rows
set_option maxRecDepth 100000
namespace Mine
/-- the same numbers in the keys' order -/
def SrtOf (S pre : List Int) : Prop := S.Perm pre ∧ S.Pairwise fun a b => key a ≤ key b
theorem allLt_mem {d : Addr} : ∀ {l : List (Addr × Obj)}, AllLt d l → ∀ p ∈ l, p.1 < d
  | [], _, _, h => nomatch h
  | _ :: _, h, _, .head _ => h.1
  | _ :: _, h, _, .tail _ q => allLt_mem h.2 _ q
theorem map_getD_range (xs : List Int) : (List.range xs.length).map (fun i => xs.getD i 0) = xs := by
  apply List.ext_getElem
  · simp
  · intro i h1 h2
    simp [List.getD_eq_getElem?_getD, List.getElem?_eq_getElem h2]
theorem srt_of {p : Array Nat} {xs : List Int} {n : Nat} (hn : xs.length = n) (hp : p.Perm (List.range n).toArray) (hu : Up (fun i => key (xs.getD i 0)) p n) : SrtOf (p.toList.map fun i => xs.getD i 0) xs := by
  subst hn
  have hp' : p.toList.Perm (List.range xs.length) := by
    have := Array.perm_iff_toList_perm.mp hp
    simpa using this
  constructor
  · have := hp'.map (fun i => xs.getD i 0)
    rwa [map_getD_range] at this
  · have hlen : p.toList.length = xs.length := by rw [hp'.length_eq, List.length_range]
    rw [List.pairwise_iff_getElem]
    intro i j hi hj hij
    have hi' : i < xs.length := by simpa [hlen] using hi
    have hj' : j < xs.length := by simpa [hlen] using hj
    have hsz : p.size = xs.length := by rw [← hlen, Array.length_toList]
    have hi2 : i < p.size := by (first | lia | omega)
    have hj2 : j < p.size := by (first | lia | omega)
    have := hu i j (Nat.le_of_lt hij) hj'
    unfold ky at this
    rw [Array.getD_eq_getD_getElem?, Array.getD_eq_getD_getElem?, getElem?_pos p i hi2, getElem?_pos p j hj2] at this
    simpa using this
section
variable {prog : Program} {w : World} {A : Around} {E : Value → Shared → Prop} {s : Shared} {h₀ : Heap} {L l : Addr} {m : Str → Option Value} {news : List (Addr × Obj)} {vs : List Value} {xs : List Int} {Q : Value → Shared → Prop}
theorem sorted_srt (F : Fr h₀ L s.heap m) (N : News h₀ L s.heap news) (hl : s.heap.IsList l vs.toArray) (hT : TupsIn news vs xs) (hb : ∀ x ∈ xs, 0 ≤ x ∧ x < 2 ^ 24) (h1 : 1 ≤ vs.length) (h64 : vs.length < 64) (hu : A.units + 100 < cLine)
    (h : ∀ D c h' vs' S, Fr h₀ L h' m → News h₀ L h' ((D, listOf (vs' : List Value).toArray c) :: news) → (∀ q ∈ news, q.1 < D) → TupsIn news vs' S → SrtOf S xs → Q (.ref D) { s with heap := h' }) :
    wpAny (model prog w) A (call (.builtin "sorted") [.ref l]) Q E s := by
  have hlen := hT.length
  by_cases h2 : 2 ≤ vs.length
  · refine sorted_tups F N hl (fun h n => hT.are n) hb h2 h64 hu fun D p c h' F' N' hD hp hU => ?_
    refine h D c h' _ (p.toList.map fun i => xs.getD i 0) F' N' hD (hT.pick _ fun i hi => ?_) (srt_of hlen.symm hp hU)
    have hp' := (Array.perm_iff_toList_perm.mp hp).mem_iff.mp hi
    simpa using hp'
  · obtain ⟨v, rfl⟩ : ∃ v, vs = [v] := List.length_eq_one_iff.mp (by (first | lia | omega))
    obtain ⟨x, rfl⟩ : ∃ x, xs = [x] := List.length_eq_one_iff.mp (by (first | lia | omega))
    exact sorted_one F N hl fun D c h' F' N' hD => h D c h' [v] [x] F' N' hD hT ⟨List.Perm.refl _, List.pairwise_singleton _ _⟩
end
end Mine
end
section
open PySem PySem.W PySem.Calls PyProof.Rows PyProof.V PySem.Spec
set_option maxRecDepth 100000
namespace Mine
section
variable {prog : Program} {w : World} {A : Around} {E : Value → Shared → Prop} {s : Shared} {env : Env} {h₀ : Heap} {x : Str} {body : List Stmt} {Q : Flow → Shared → Prop}
theorem iter_rangeG {r : Addr} {a₀ b₀ : Int} {t₀ u₀ v₀ : Tok} {n : Nat} {m₀ : Str → Option Value} {news : List (Addr × Obj)} (J : Nat → (Str → Option Value) → List (Addr × Obj) → Prop)
    (hh : A.handled = none) (hr : IsRange s.heap r a₀ b₀ 1 t₀ u₀ v₀) (hsmall : Builtin.Range.small a₀ b₀ 1 = true) (hn : Builtin.Range.rangeSize a₀ b₀ 1 = (n : Int)) (F : Fr h₀ env.locals s.heap m₀) (N : News h₀ env.locals s.heap news) (hj : J 0 m₀ news)
    (turn : ∀ (i : Nat) t m₁ news₁ h tk own, i < n → OwnOff own (news₁.map (·.1)) → J i m₁ news₁ → Fr h₀ env.locals h (fun y => if y = x then some (.int (a₀ + (i : Int)) t) else m₁ y) → News h₀ env.locals h (news₁ ++ own) →
      wpAny (model prog w) A (execs body env) (InvPostG h₀ env.locals (J (i + 1)) own { s with heap := h, toks := tk } Q) E { s with heap := h, toks := tk })
    (done : ∀ m₁ news₁ h tk, J n m₁ news₁ → Fr h₀ env.locals h m₁ → News h₀ env.locals h news₁ → Q .next { s with heap := h, toks := tk }) :
    wpAny (model prog w) A (pyIter (.ref r)) (fun it s₂ => LoopAtV prog w A h₀ env x body Q E it s₂) E s := by
  refine wpAny_pyIter_range hr hsmall ?_
  have W : Walks prog w A s.heap.objs.size [s.heap.objs.size] [s.heap.objs.size] n (fun i v => i < n ∧ ∃ t, v = .int (a₀ + i * 1) t)
      (fun i h => IsRangeIter h s.heap.objs.size (a₀ + (i : Nat) * 1) ((n : Int) - (i : Nat)) 1) := (Walks.range hh _ a₀ 1 n).bound
  refine ⟨_, _, _, n, _, _, m₀, news, J, rfl, W, ?_, ?_, ?_, (by show IsRangeIter _ _ _ _ _; rw [hn]; simpa using Heap.get?_push_size _ rfl), F.push _, (fun p hp => ⟨Heap.get?_push_of_some _ (N p hp).1, (N p hp).2⟩), hj, ?_, ?_⟩
  · intro hm
    exact absurd F.ns.lt ((List.mem_singleton.mp hm) ▸ Nat.lt_irrefl _)
  · intro b hb
    rw [List.mem_singleton.mp hb]
    exact next_is_new F
  · intro p hp hI
    exact absurd (Heap.lt_size (N p hp).1) ((List.mem_singleton.mp hI) ▸ Nat.lt_irrefl _)
  · rintro i v m₁ news₁ s₁ own ⟨hh', tk', rfl⟩ hin hP hJ hoff hown _ hfp hst F₁ N₁
    have hI0 : h₀.get? s.heap.objs.size = none := next_is_new F
    have hst' : hh'.get? s.heap.objs.size = some _ := hst
    have hIown := hfp _ (List.mem_singleton.mpr rfl) hI0 _ hst'
    have hsep : OwnOff own (news₁.map (·.1)) := by
      intro p hp b hb e
      obtain ⟨q, hq, rfl⟩ := List.mem_map.mp hb
      exact hoff q hq (e ▸ hown p hp)
    obtain ⟨_, t, rfl⟩ := hP
    have e1 : a₀ + (i : Int) * 1 = a₀ + (i : Int) := by (first | lia | omega)
    rw [e1] at F₁
    have N₂ : News h₀ env.locals hh' (news₁ ++ own) := fun p hp => N₁ p ((List.mem_append.mp hp).elim (fun h => List.mem_append.mpr (.inr h)) fun h => List.mem_append.mpr (.inl h))
    refine wpAny_mono (turn i t m₁ news₁ hh' tk' own hin hsep hJ F₁ N₂) (fun f s₂ p => ?_) fun _ _ e => e
    have fin : InvEndG h₀ env.locals (J (i + 1)) own { s with heap := hh', toks := tk' } s₂ → LoopStepU h₀ env.locals [s.heap.objs.size] own (J (i + 1)) { s with heap := hh', toks := tk' } .next s₂ := by
      rintro ⟨h', tk, m', news', nx, e, F', N', hn, ho, ha, hm⟩
      refine ⟨rfl, h', tk, m', nx, e, F', fun p hp => N' p ((List.mem_append.mp hp).elim (ho p) (hn p)), fun p hp hq => ?_, hm⟩
      exact ha _ hIown p.1 (List.mem_map.mpr ⟨p, hp, rfl⟩) (List.mem_singleton.mp hq).symm
    cases f with
    | ret v => exact .ret p
    | brk => exact .brk p
    | next => exact .next (fin p)
    | cont => exact .cont (fin p)
  · rintro h' tk m' news' F' N' _ hJ
    exact done m' news' h' tk hJ F' N'
end
end Mine
end
section
open PySem PySem.W PySem.Calls PyProof.Rows PyProof.Rows.LCg PyProof.Rows.LCp
set_option maxRecDepth 100000
namespace Mine
theorem ints_take {l : List Value} {ns : List Int} (a : IntsAre l ns) : ∀ k, IntsAre (l.take k) (ns.take k) := by
  induction a with
  | nil => intro k; rw [List.take_nil, List.take_nil]; exact .nil
  | cons n t _ ih =>
    intro k
    cases k with
    | zero => exact .nil
    | succ k => exact .cons n t (ih k)
theorem ints_drop {l : List Value} {ns : List Int} (a : IntsAre l ns) : ∀ k, IntsAre (l.drop k) (ns.drop k) := by
  induction a with
  | nil => intro k; rw [List.drop_nil, List.drop_nil]; exact .nil
  | cons n t r ih =>
    intro k
    cases k with
    | zero => exact .cons n t r
    | succ k => exact ih k
section
variable {prog : Program} {w : World} {A : Around} {E : Value → Shared → Prop} {s : Shared}
theorem item_at {value slice : PySem.Expr} {l : Addr} {vs : List Value} {k : Int} {u : Tok} {v : Value} {Q : Value → Shared → Prop}
    (hl : s.heap.IsList l vs.toArray) (h0 : 0 ≤ k) (hhi : k < 2 ^ 63) (hx : vs[k.toNat]? = some v) (h : Q v s)
    (hs : subscripted slice false (.ref l) (.int k u) = operate [.ref l, .int k u] (getItem (.ref l) (.int k u)) := by with_unfolding_all rfl) :
    wpAny (model prog w) A (subscriptTail value slice (.ref l) (.int k u)) Q E s :=
  tail_any hl.typeIs slot_list_getitem.lookup (wpAny_getItem_list hl h0 hhi (by simpa using hx) h) hs
end
theorem small_up0 {b : Int} (h0 : 0 ≤ b) (h : b ≤ 1000) : Builtin.Range.small 0 b 1 = true := by
  unfold Builtin.Range.small
  rw [rangeSize_one]
  simp only [Builtin.Range.rangeFitsLong, Bool.and_eq_true, Bool.or_eq_true, decide_eq_true_eq, beq_iff_eq, show ((1 : Int) > 0) by decide, if_true]
  split <;> (first | lia | omega)
theorem small_up {n : Nat} (h : n ≤ 1000) : Builtin.Range.small 0 (n : Int) 1 = true := small_up0 (by (first | lia | omega)) (by (first | lia | omega))
theorem range_up (n : Nat) : Builtin.Range.rangeSize 0 (n : Int) 1 = (n : Int) := by
  rw [rangeSize_nat]; (first | lia | omega)
theorem fresh_ne {h₀ h : Heap} {L a : Addr} {nw : List (Addr × Obj)} (N : News h₀ L h nw) (e : h.get? a = none) : ∀ p ∈ nw, p.1 ≠ a := fun p hp q => by
  have := (N p hp).1; rw [q, e] at this; cases this
theorem off3_of {I C D : Addr} {l : List (Addr × Obj)} (h1 : ∀ p ∈ l, p.1 ≠ I ∧ p.1 ≠ C ∧ p.1 ≠ D) : Off3 I C D l := Off3.of h1
/-- one item of either list -/
inductive It
  | three (a : Array UInt8) (g n : List (Array UInt8))
  | two (g n : List (Array UInt8))
/-- a value that bears it: tuple and lists stand in the ledger -/
inductive ItIn (nw : List (Addr × Obj)) : Value → It → Prop
  | three {t lg ln : Addr} {ta : Tok} {kt kg kn : Nat} {vg vn : List Value} {a : Array UInt8} {g n : List (Array UInt8)} :
      (t, ({ cls := .type "tuple", data := .seq #[.bytes a ta, .ref lg, .ref ln] kt } : Obj)) ∈ nw → (lg, listOf vg.toArray kg) ∈ nw → (ln, listOf vn.toArray kn) ∈ nw → BAre vg g → BAre vn n → ItIn nw (.ref t) (.three a g n)
  | two {t lg ln : Addr} {kt kg kn : Nat} {vg vn : List Value} {g n : List (Array UInt8)} :
      (t, ({ cls := .type "tuple", data := .seq #[.ref lg, .ref ln] kt } : Obj)) ∈ nw → (lg, listOf vg.toArray kg) ∈ nw → (ln, listOf vn.toArray kn) ∈ nw → BAre vg g → BAre vn n → ItIn nw (.ref t) (.two g n)
theorem ItIn.mono {nw nw' : List (Addr × Obj)} {v : Value} {x : It} (h : ItIn nw v x) (hs : ∀ p ∈ nw, p ∈ nw') : ItIn nw' v x := by
  cases h with
  | three h1 h2 h3 h4 h5 => exact .three (hs _ h1) (hs _ h2) (hs _ h3) h4 h5
  | two h1 h2 h3 h4 h5 => exact .two (hs _ h1) (hs _ h2) (hs _ h3) h4 h5
inductive ItsIn (nw : List (Addr × Obj)) : List Value → List It → Prop
  | nil : ItsIn nw [] []
  | cons {v : Value} {x : It} {vs : List Value} {xs : List It} : ItIn nw v x → ItsIn nw vs xs → ItsIn nw (v :: vs) (x :: xs)
theorem ItsIn.mono {nw nw' : List (Addr × Obj)} (hs : ∀ p ∈ nw, p ∈ nw') {vs : List Value} {xs : List It} (a : ItsIn nw vs xs) : ItsIn nw' vs xs := by
  induction a with
  | nil => exact .nil
  | cons t _ ih => exact .cons (t.mono hs) ih
theorem ItsIn.append {nw : List (Addr × Obj)} {vs us : List Value} {xs ys : List It} (a : ItsIn nw vs xs) (q : ItsIn nw us ys) : ItsIn nw (vs ++ us) (xs ++ ys) := by
  induction a with
  | nil => exact q
  | cons t _ ih => exact .cons t ih
theorem ItsIn.length {nw : List (Addr × Obj)} {vs : List Value} {xs : List It} (a : ItsIn nw vs xs) : vs.length = xs.length := by
  induction a with
  | nil => rfl
  | cons _ _ ih => exact congrArg Nat.succ ih
/-- what due comes to, row by row -/
inductive DueR (xs : List Int) : Nat → List It → List Int → Prop
  | zero : DueR xs 0 [] []
  | succ {i : Nat} {its : List It} {before S : List Int} : DueR xs i its before → SrtOf S (xs.take (i + 1)) →
      DueR xs (i + 1) (its ++ [.three (octs ((S.drop (S.length - 3)).headD 0)) ((lessF before (S.drop (S.length - 3))).map octs) ((lessF (S.drop (S.length - 3)) before).map octs), .two [] []]) (S.drop (S.length - 3))
end Mine
end
section
open PySem PySem.W PySem.Calls PyProof.Rows PyProof.Rows.LCg PyProof.Rows.LCp
set_option maxRecDepth 100000
namespace Mine
/-- the loop's word -/
inductive DueJ (lr : Addr) (xs : List Int) (i : Nat) (m : Str → Option Value) (nx : List (Addr × Obj)) : Prop
  | intro (D B : Addr) (nD nB : Nat) (vs bvs : List Value) (rest : List (Addr × Obj)) (its : List It) (bs : List Int) (e : nx = (D, listOf (vs : List Value).toArray nD) :: (B, listOf (bvs : List Value).toArray nB) :: rest) (hI : IntsAre bvs bs) (hbb : ∀ x ∈ bs, 0 ≤ x ∧ x < 2 ^ 24) (hbl : bs.length ≤ 3) (hit : ItsIn rest vs its) (hrD : ∀ p ∈ rest, p.1 ≠ D) (hBD : B ≠ D) (hvl : vs.length = 2 * i) (hdr : DueR xs i its bs)
    (hm : ∀ z, z ≠ Str.ofString "k" → z ≠ Str.ofString "last" → m z = (fun y => if y = Str.ofString "due" then some (Value.ref D) else if y = Str.ofString "before" then some (Value.ref B) else List.lookup y [(Str.ofString "row", Value.ref lr)].reverse) z)
section
variable {w : World} {mean : ExcName → Option Value} {mg mb : Str → Option Value} {p : Program} {loose : List Str}
/-- the words of the walk -/
theorem words_due1 : True := by
  k_with_none
  k_with "k_room" => ((try simp only [depth_under_make, depth_under_kw, depth_in1, depth_deeper, depth_caller]); (try dsimp only [ktrTop]); first | (refine' room_of ?h 0 rfl ?k; (case h => assumption); (case k => exact rfl)) | (refine' room_of ?h _ (Nat.add_assoc _ _ _) ?k; (case h => assumption); (case k => exact rfl)) | (refine' room_of ?h 1 rfl ?k; (case h => assumption); (case k => exact rfl)) | (refine' room_of ?h _ ((Nat.add_assoc _ _ _).trans (Nat.add_assoc _ _ _)) ?k; (case h => assumption); (case k => exact rfl)) | lia)
  k_with "ktr_room" => (k_room)
  k_with "k_units" => ((try simp only [units_in1, units_deeper, Around.mark_units, units_caller]); (try dsimp only [ktrTop]); first | (refine' room_of ?h _ (Nat.add_assoc _ _ _) ?k; (case h => assumption); (case k => exact rfl)) | (refine' room_of ?h _ ((Nat.add_assoc _ _ _).trans (Nat.add_assoc _ _ _)) ?k; (case h => assumption); (case k => exact rfl)) | (refine' room_of ?h 0 rfl ?k; (case h => assumption); (case k => exact rfl)) | (have hcL9 := cLine_is; lia))
  k_with "k_ne" => (refine neN ?_; (try dsimp only); first | assumption | exact Ne.symm (by assumption) | exact Nat.ne_of_lt (by assumption) | exact Nat.ne_of_gt (by assumption) | ((repeat' (rename _ ∧ _ => h9; obtain ⟨h8, h7⟩ := h9)); first | exact Nat.ne_of_lt (by assumption) | exact Nat.ne_of_gt (by assumption) | assumption | exact Ne.symm (by assumption)) | lia)
  k_with "exec For Name Call cons nil" => (k_here; (rename Fr _ _ _ _ => lF'); (with_unfolding_all refine' For_invVF lF' ?k1 ?k2 ?_; (case k1 => exact rfl); (case k2 => exact rfl); k_whole))
  k_with "k_all" => (assumption)
  k_with "call builtin:list.append" => (k_dflt (refine' append_K ?k1 ?k2 ?k3 ?_ ?z; (case k1 => k_asm); (case k2 => k_asm); (case k3 => k_upd); (case z => (simp only [List.size_toArray, sizeLine_eq]; (first | lia | omega)))); intro _ _ _)
  k_with "subscriptTail Name Slice ref ref" => (k_here; k_dflt (refine' slice_upto ?F ?N ?l ?y ?_ ?s ?t ?z; (case F => k_asm); (case N => k_asm); (case l => kmk_list); (case y => (first | lia | omega)); (case s => with_unfolding_all rfl); (case t => kmk_pure); (case z => (first | lia | omega))); intro _ _ _ _ _)
  k_with "my steps" => (repeat' (first | ((fail_if_success (with_reducible show wpAny _ _ (pyIter _) _ _ _)); (fail_if_success (with_reducible show wpAny _ _ (eval (Expr.ListComp _ _ _ _) _) _ _ _)); (fail_if_success (with_reducible show wpAny _ _ (call (Value.ref 144) _ _) _ _ _)); (fail_if_success (with_reducible show wpAny _ _ (call (Value.ref 149) _ _) _ _ _)); (fail_if_success (with_reducible show wpAny _ _ (call (Value.ref 161) _ _) _ _ _)); (fail_if_success (with_reducible show wpAny _ _ (call (Value.builtin "sorted") _ _) _ _ _)); (fail_if_success (with_reducible show CompSrc _ _ _ _ _ _ _ _ _ _ _ _ _ _)); (fail_if_success (with_reducible show SrcLP _ _ _ _ _ _ _ _ _ _ _ _ _ _ _)); (fail_if_success (with_reducible show CompEnd _ _ _ _ _ _ _ _ _ _ _ _ _ _)); (fail_if_success (with_reducible show InvEndG _ _ _ _ _ _)); (fail_if_success (with_reducible show FinE _ _ _ _ _ _ _)); (fail_if_success (with_reducible show wpAny _ _ (subscriptTail _ _ (Value.ref _) _) _ _ _)); first | (k_unfold; (try dsimp only)) | walk1 | (dsimp only; walk1))))
  trivial
set_option maxHeartbeats 8000000 in
theorem due_does (lr : Addr) (rvs : List Value) (xs : List Int) (hi : IntsAre rvs xs) (hb : ∀ x ∈ xs, 0 ≤ x ∧ x < 2 ^ 24) (hz : xs.length ≤ 40) :
    Does w p loose mean mg mb 166 [.ref lr] [] 30 [] (fun h => h.IsList lr rvs.toArray)
      (fun h v h' => ∃ l n vs nw its bs, v = .ref l ∧ h'.get? l = some (listOf vs.toArray n) ∧ ItsIn nw vs its ∧ (∀ q ∈ nw, h'.get? q.1 = some q.2) ∧ DueR xs xs.length its bs) := by
  unfold Does
  k_fill
  intro dp un gd cn cs a ccd cl outer A₀ base h₀ L m s Q E B F X N T hk hd hu hp hret
  refine wpAny_call ?_
  k_dflt (refine' code_defB (binds := [(Str.ofString "row", .ref lr)]) ?k1 ?k2 ?k3 ?k4 ?k5 ?kA ?kF ?kK ?k6 ?k7 ?k8 ?k9 ?kB ?_ ?c2 ?c3 ?c4 ?c5; (case kA => exact rfl); (case kF => exact rfl); (case kK => assumption); (case k1 => k_asm); (case k2 => k_asm); (case k3 => k_asm); (case k4 => exact News.nil); (case k5 => k_asm); (case k6 => k_is); (case k7 => k_is); (case k8 => k_room); (case k9 => exact BindsTo.of_eq rfl); (case c5 => decide); (case kB => exact locs rfl); (case c2 => exact rfl); (case c3 => exact rfl); (case c4 => exact rfl); k_whole)
  intro g L' h' KG FG F' N' B' X' T' A₁ Q₁ E₁
  try dsimp only
  try k_fold
  have hl1 : g.IsList lr rvs.toArray := let ⟨o, ho, r⟩ := hp; ⟨o, KG _ _ ho (fun z => nomatch z), r⟩
  have q1 := hi.length
  walk_at "my steps"
  rename_i lB h4 l1 h3 tk1 lD h2 l2 h1 F2 N2 h0 tk0 t1 u1 v1 hR F3 N3 hup
  clear F2 N2 hup
  refine iter_rangeG (DueJ lr xs) rfl hR (small_up (by (first | lia | omega))) (range_up _) F3 N3 ⟨lD, lB, 0, 0, [], [], [], [], [], rfl, .nil, (fun _ hx => nomatch hx), Nat.zero_le _, .nil, (fun _ hx => nomatch hx), neN (by (first | lia | omega)), rfl, .zero, fun _ _ _ => rfl⟩ ?_ ?_
  · rintro i t m₁ nx h tk own hin hoff ⟨D, B, nD, nB, vs, bvs, rest, its, bs, rfl, hI, hbb, hbl, hit, hrD, hBD, hvl, hdr, hm⟩ F4 N4
    have F5 := fr_eq (m' := fun y => if y = Str.ofString "k" then some (Value.int (0 + (i : Int)) t) else if y = Str.ofString "last" then m₁ y else if y = Str.ofString "due" then some (Value.ref D) else if y = Str.ofString "before" then some (Value.ref B) else List.lookup y [(Str.ofString "row", Value.ref lr)].reverse) F4 (fun y => by
      by_cases e : y = Str.ofString "k"
      · simp [e]
      · by_cases e2 : y = Str.ofString "last"
        · simp [e2]
        · simp only [e, e2, if_false]; exact hm y e e2)
    clear F4 F3 N3
    dsimp only [List.cons_append] at N4
    replace hBD := neN hBD
    have oD : ∀ p ∈ rest ++ own, p.1 ≠ D := fun p hp => (List.mem_append.mp hp).elim (hrD p) fun hp => hoff p hp D (by simp)
    generalize hro : rest ++ own = ro at N4 oD
    change Fr g L' h _ at F5
    change News g L' h _ at N4
    walk_at "my steps"
    refine ListComp_P (F₀ := by k_asm) (by with_unfolding_all rfl) (by decide) (by rfl) (by decide) (by rfl) (by rfl) (by decide) ?_
    walk_at "my steps"
    refine LCg.ListComp_U (F₀ := by k_asm) (by rfl) (by decide) (by rfl) (by decide) (by rfl) ?_
    walk_at "my steps"
    k_dflt (refine' slice_upto ?F ?N ?l ?y ?_ ?s ?t ?z; (case F => k_asm); (case N => k_asm); (case l => kmk_list); (case y => (first | lia | omega)); (case s => with_unfolding_all rfl); (case t => kmk_pure); (case z => (first | lia | omega)))
    intro S h6 F6 N6 l6
    walk_at "my steps"
    clear N4
    have hi1 : (0 + (i : Int) + 1).toNat = i + 1 := by (first | lia | omega)
    rw [hi1] at N6
    have hIt : IntsAre (rvs.take (i + 1)) (xs.take (i + 1)) := ints_take hi (i + 1)
    have hlt : (xs.take (i + 1)).length = i + 1 := by rw [List.length_take]; (first | lia | omega)
    have hlv : (rvs.take (i + 1)).length = i + 1 := by rw [List.length_take]; (first | lia | omega)
    have hbt : ∀ x ∈ xs.take (i + 1), 0 ≤ x ∧ x < 2 ^ 24 := fun x hx => hb x (List.mem_of_mem_take hx)
    generalize hts : rvs.take (i + 1) = ts at N6 hIt hlv
    generalize hxt : xs.take (i + 1) = xt at hIt hlt hbt
    refine LCg.CompSrc.ledger (by rfl) F6 N6 (List.Mem.head _) (by rw [List.size_toArray, sizeLine_eq]; (first | lia | omega)) ?_
    intro g2
    refine comp_ind (fun j ys nw => (∀ p ∈ (S, listOf ts.toArray 0) :: (D, listOf vs.toArray nD) :: (B, listOf bvs.toArray nB) :: ro, p ∈ nw) ∧ TupsIn nw ys (xt.take j)) (i + 1) ?_ ?_ _ 0 [] _ (by rw [List.size_toArray]; (first | lia | omega)) ⟨fun _ h => h, .nil⟩
    · rintro j ys nw v I oI C oC Dc m₂ h7 tk7 E7 hj ⟨hsub, hT⟩ hv hC hx F7 N7 off7
      obtain ⟨x, hxj⟩ : ∃ x, xt[j]? = some x := ⟨xt[j]'(by (first | lia | omega)), List.getElem?_eq_getElem (by (first | lia | omega))⟩
      obtain ⟨tx, hvx⟩ := hIt.get j x hxj
      have hv2 : v = .int x tx := by
        have : ts[j]? = some v := by simpa using hv
        rw [hvx] at this; exact (Option.some.inj this).symm
      subst hv2
      walk_at "my steps"
      k_dflt (refine' does_use (muts := []) (rank_does x tx) ?k1 ?k2 ?k3 ?k4 ?k5 ?kK ?kd ?ku ?kp ?_; (case k1 => k_asm); (case k2 => k_asm); (case k3 => k_asm); (case k4 => exact News.nil); (case k5 => k_asm); (case kK => exact rfl); (case kp => trivial); (case kd => k_room); (case ku => k_units))
      intro v8 h8 tk8 K8 F8 hh
      apply ref_k hh
      clear hh
      intro lx nx8 us hf8 hg8 hr8
      have N8 := news_app (news_new F7 hf8 hg8) (K8.led N7 fun _ _ hq => nomatch hq)
      have o8 := fresh_ne N7 hf8
      clear N7 K8
      dsimp only [List.cons_append, List.nil_append] at N8
      walk_at "my steps"
      rename_i t9 h9 F9 N9 l9
      try k_unfold
      refine CompEnd.intro F9 N9 ((t9, { cls := Value.type "tuple", data := Data.seq #[Value.ref lx, Value.int x tx] }) :: (lx, W.listOf us.toArray nx8) :: nw) ?_ (Off3.of ?_) ?_ ⟨?_, ?_⟩
      · intro p hp
        rcases List.mem_cons.mp hp with rfl | hp
        · exact .tail _ (.tail _ (.head _))
        rcases List.mem_cons.mp hp with rfl | hp
        · exact .tail _ (.tail _ (.tail _ (.head _)))
        rcases List.mem_cons.mp hp with rfl | hp
        · exact .tail _ (.tail _ (.tail _ (.tail _ (.head _))))
        rcases List.mem_cons.mp hp with rfl | hp
        · exact .head _
        rcases List.mem_cons.mp hp with rfl | hp
        · exact .tail _ (.head _)
        · exact .tail _ (.tail _ (.tail _ (.tail _ (.tail _ hp))))
      · intro p hp
        rcases List.mem_cons.mp hp with rfl | hp
        · exact ⟨neN (by (first | lia | omega)), neN (by (first | lia | omega)), neN (by (first | lia | omega))⟩
        rcases List.mem_cons.mp hp with rfl | hp
        · exact ⟨Ne.symm (o8 _ (.head _)), Ne.symm (o8 _ (.tail _ (.head _))), Ne.symm (o8 _ (.tail _ (.tail _ (.head _))))⟩
        · exact off7.mem _ hp
      · exact .inr ⟨_, .tail _ (.tail _ (hsub _ (.head _))), rfl, _, rfl⟩
      · exact fun p hp => .tail _ (.tail _ (hsub p hp))
      · rw [List.take_add_one, hxj]
        exact (hT.mono fun p hp => .tail _ (.tail _ hp)).append (.cons ⟨t9, lx, _, nx8, tx, us, rfl, .head _, .tail _ (.head _), hr8⟩ .nil)
    · refine fun ys nw hh => and_k hh ?_
      clear hh
      intro hsub hT
      rw [← hlt, List.take_length] at hT
      clear F6 N6 F5
      unfold FinE
      intro X2 h10 tk10 F10 N10 o10
      walk_at "my steps"
      k_dflt (refine' sorted_srt ?F ?N ?l (TupsIn.mono (nw' := (X2, lst ys) :: nw) (fun p hp => List.Mem.tail _ hp) hT) hbt ?h1 ?h2 ?hu ?_; (case F => exact F10); (case N => exact N10); (case l => exact News.isList N10 (.head _)); (case h1 => (rw [hT.length]; (first | lia | omega))); (case h2 => (rw [hT.length]; (first | lia | omega))); (case hu => k_units))
      intro X3 c11 h11 ws Ss F11 N11 l11 hW hS
      clear F10 N10 o10
      walk_at "my steps"
      have hSl : Ss.length = i + 1 := by rw [hS.1.length_eq]; exact hlt
      have hWl := hW.length
      refine SrcLP.ledger (by rfl) F11 N11 (.head _) (by rw [List.size_toArray, sizeLine_eq]; (first | lia | omega)) ?_
      intro g3
      refine compP_ind (fun j zs nw' => (∀ p ∈ (X3, listOf ws.toArray c11) :: (X2, lst ys) :: nw, p ∈ nw') ∧ IntsAre zs (Ss.take j)) (i + 1) ?_ ?_ _ 0 [] _ (by rw [List.size_toArray]; (first | lia | omega)) ⟨fun _ h => h, .nil⟩
      · rintro j zs nw3 v hj ⟨hsub3, hZ⟩ hv
        obtain ⟨a', r', n', k', tx, us, e, m1, m2, m3⟩ := hW.get j (by (first | lia | omega))
        have hv2 : v = .ref a' := by
          have : ws[j]? = some v := by simpa using hv
          rw [List.getD_eq_getElem?_getD, this] at e; exact e
        refine ⟨a', _, .ref r', .int (Ss.getD j 0) tx, n', hv2, hsub3 _ (.tail _ m1), rfl, rfl, ?_⟩
        intro I oI C oC Dc m₂ h7 tk7 E7 hC hx hx2 F7 N7 off7
        walk_at "my steps"
        try k_unfold
        refine CompEnd.intro F7 N7 nw3 (fun p hp => hp) off7 ?_ ⟨hsub3, ?_⟩
        · exact .inr ⟨_, hsub3 _ (.head _), rfl, _, rfl⟩
        · rw [List.take_add_one, List.getElem?_eq_getElem (by (first | lia | omega)), List.getD_eq_getElem?_getD, List.getElem?_eq_getElem (by (first | lia | omega))]
          exact hZ.append (.cons _ _ .nil)
      · refine fun zs nw3 hh => and_k hh ?_
        clear hh
        intro hsub3 hZ
        rw [← hSl, List.take_length] at hZ
        clear F11 N11
        have hZl := hZ.length
        intro X4 h12 tk12 F12 N12 o12
        walk_at "my steps"
        k_dflt (refine kba_turn (value' := PySem.Expr.Name (PySem.Str.ofString "x") ⟨0, 0, 0, 0⟩) (fun _ => rfl) ?_)
        k_dflt (refine' slice_last 3 ?F ?N ?l ?k ?y ?_ ?s ?t ?z; (case F => k_asm); (case N => k_asm); (case l => kmk_list); (case k => decide); (case y => exact rfl); (case s => with_unfolding_all rfl); (case t => kmk_pure); (case z => (first | lia | omega)))
        intro X5 h13 F13 N13 l13
        clear F12 N12
        have hZ5 := ints_drop hZ (zs.length - 3)
        have hSz : zs.length - 3 = Ss.length - 3 := by (first | lia | omega)
        rw [hSz] at hZ5 N13
        have N14 : News g L' h13 ((X5, listOf (zs.drop (Ss.length - 3)).toArray 0) :: (D, listOf vs.toArray nD) :: (B, listOf bvs.toArray nB) :: ro) := fun p hp => by
          rcases List.mem_cons.mp hp with rfl | hp
          · exact N13 _ (.head _)
          · exact N13 _ (.tail _ (.tail _ (hsub3 _ (.tail _ (.tail _ (hsub _ (.tail _ hp)))))))
        have l14 : ∀ p ∈ (D, listOf vs.toArray nD) :: (B, listOf bvs.toArray nB) :: ro, p.1 < X5 := fun p hp => l13 p (.tail _ (hsub3 _ (.tail _ (.tail _ (hsub _ (.tail _ hp))))))
        clear N13 l13
        have hlsL : (Ss.drop (Ss.length - 3)).length = min 3 (i + 1) := by rw [List.length_drop]; (first | lia | omega)
        have hlsB : ∀ x ∈ Ss.drop (Ss.length - 3), 0 ≤ x ∧ x < 2 ^ 24 := fun x hx => hbt x (hS.1.mem_iff.mp (List.mem_of_mem_drop hx))
        have hDue := DueR.succ hdr (S := Ss) (by rw [hxt]; exact hS)
        generalize zs.drop (Ss.length - 3) = lvs at hZ5 N14
        generalize Ss.drop (Ss.length - 3) = ls at hZ5 hlsL hlsB hDue
        cases hZ5 with
        | nil => simp at hlsL; (first | lia | omega)
        | cons l0 t0 hZ6 =>
          rename_i lv2 ls2
          have b0 := hlsB l0 (.head _)
          walk_at "my steps"
          rename_i h15 F15 N15
          try clear N14
          k_dflt (refine' item_at (v := .int l0 t0) ?l ?h0 ?h1 ?hx ?_ ?hs; (case l => exact News.isList N15 (.head _)); (case h0 => decide); (case h1 => decide); (case hx => rfl); (case hs => with_unfolding_all rfl))
          walk_at "my steps"
          k_dflt (refine' gives_use (octets_gives _ _ ?q1 ?q2) ?k1 ?k2 ?k3 ?k4 ?k5 ?kK ?kd ?ku ?_; (case k1 => k_asm); (case k2 => k_asm); (case k3 => k_asm); (case k4 => k_asm); (case k5 => k_asm); (case kK => exact rfl); (case q1 => exact b0.1); (case q2 => exact b0.2); (case kd => k_room); (case ku => k_units))
          intro ta h16 tk16 F16 N16
          clear F15 N15
          walk_at "my steps"
          k_dflt (refine' does_use (muts := []) (less_does B X5 bvs (.int l0 t0 :: lv2) bs (l0 :: ls2) hI (.cons l0 t0 hZ6) hbb ?z1 ?z2) ?k1 ?k2 ?k3 ?k4 ?k5 ?kK ?kd ?ku ?kp ?_; (case z1 => (first | lia | omega)); (case z2 => (first | lia | omega)); (case k1 => k_asm); (case k2 => k_asm); (case k3 => k_asm); (case k4 => exact News.nil); (case k5 => k_asm); (case kK => exact rfl); (case kp => exact ⟨News.isList N16 (.tail _ (.tail _ (.head _))), News.isList N16 (.head _)⟩); (case kd => k_room); (case ku => k_units))
          intro v17 h17 tk17 K17 F17 hh
          apply ref_k hh
          clear hh
          intro lg ng vg hf17 hg17 hr17
          have N17 := news_app (news_new F16 hf17 hg17) (K17.led N16 fun _ _ hq => nomatch hq)
          have o17 := fresh_ne N16 hf17
          clear N16 K17 F16
          dsimp only [List.cons_append, List.nil_append] at N17
          walk_at "my steps"
          k_dflt (refine' does_use (muts := []) (less_does X5 B (.int l0 t0 :: lv2) bvs (l0 :: ls2) bs (.cons l0 t0 hZ6) hI hlsB ?z1 ?z2) ?k1 ?k2 ?k3 ?k4 ?k5 ?kK ?kd ?ku ?kp ?_; (case z1 => (first | lia | omega)); (case z2 => (first | lia | omega)); (case k1 => k_asm); (case k2 => k_asm); (case k3 => k_asm); (case k4 => exact News.nil); (case k5 => k_asm); (case kK => exact rfl); (case kp => exact ⟨News.isList N17 (.tail _ (.head _)), News.isList N17 (.tail _ (.tail _ (.tail _ (.head _))))⟩); (case kd => k_room); (case ku => k_units))
          intro v18 h18 tk18 K18 F18 hh
          apply ref_k hh
          clear hh
          intro ln nn vn hf18 hg18 hr18
          have N18 := news_app (news_new F17 hf18 hg18) (K18.led N17 fun _ _ hq => nomatch hq)
          have o18 := fresh_ne N17 hf18
          clear N17 K18 F17
          dsimp only [List.cons_append, List.nil_append] at N18
          have e1 : lg ≠ D := Ne.symm (o17 _ (.tail _ (.head _)))
          have e2 : ln ≠ D := Ne.symm (o18 _ (.tail _ (.tail _ (.head _))))
          have e3 : D < X5 := l14 _ (.head _)
          replace e1 := neN e1
          replace e2 := neN e2
          replace e3 := ltN e3
          have hvz : vs.length ≤ 100 := by (first | lia | omega)
          walk_at "my steps"
          rename_i T1 hh1 q1' hh2 tkk E1 hh3 q2' E2 hh4 q3' T2 hh5 q4' hh6 hh7 F19 N19
          simp only [List.push_toArray, List.append_assoc, List.cons_append, List.nil_append] at N19
          refine and6 q1' ?_
          clear q1'
          intro a1 a2 a3 a4 a5 a6
          refine and7 q2' ?_
          clear q2'
          intro b1 b2 b3 b4 b5 b6 b7
          refine and8 q3' ?_
          clear q3'
          intro c1 c2 c3 c4 c5 c6 c7 c8
          refine and9 q4' ?_
          clear q4'
          intro d1 d2 d3 d4 d5 d6 d7 d8 d9
          have a7 := allLt_mem a6
          have b8 := allLt_mem b7
          have c9 := allLt_mem c8
          have d10 := allLt_mem d9
          have inr : ∀ p ∈ rest, p ∈ ro := fun p hp => hro ▸ List.mem_append.mpr (.inl hp)
          have ino : ∀ p ∈ own, p ∈ ro := fun p hp => hro ▸ List.mem_append.mpr (.inr hp)
          refine InvEndG.intro F19 N19 ⟨D, X5, nD + 1 + 1, 0, vs ++ [.ref T1, .ref T2], .int l0 t0 :: lv2, (T2, { cls := Value.type "tuple", data := Data.seq #[Value.ref E1, Value.ref E2] }) :: (E2, W.listOf #[] 0) :: (E1, W.listOf #[] 0) :: (T1, { cls := Value.type "tuple", data := Data.seq #[Value.bytes (octs l0) ta, Value.ref lg, Value.ref ln] }) :: (ln, W.listOf vn.toArray nn) :: (lg, W.listOf vg.toArray ng) :: rest, _, l0 :: ls2, rfl, .cons l0 t0 hZ6, hlsB, by (first | lia | omega), ?_, ?_, neN (by (first | lia | omega)), ?_, hDue, ?_⟩ ?_ ?_ ?_
          · refine (hit.mono fun p hp => ?_).append (.cons ?_ (.cons ?_ .nil))
            · exact .tail _ (.tail _ (.tail _ (.tail _ (.tail _ (.tail _ hp)))))
            · exact .three (.tail _ (.tail _ (.tail _ (.head _)))) (.tail _ (.tail _ (.tail _ (.tail _ (.tail _ (.head _)))))) (.tail _ (.tail _ (.tail _ (.tail _ (.head _))))) hr17 hr18
            · exact .two (vg := []) (vn := []) (.head _) (.tail _ (.tail _ (.head _))) (.tail _ (.head _)) .nil .nil
          · intro p hp
            simp only [List.mem_cons] at hp
            rcases hp with rfl | rfl | rfl | rfl | rfl | rfl | hp
            · exact neN (by (first | lia | omega))
            · exact neN (by (first | lia | omega))
            · exact neN (by (first | lia | omega))
            · exact neN (by (first | lia | omega))
            · exact e2
            · exact e1
            · exact hrD p hp
          · simp only [List.length_append, List.length_cons, List.length_nil]; (first | lia | omega)
          · intro z z1 z2
            by_cases z3 : z = Str.ofString "due"
            · subst z3; rfl
            · by_cases z4 : z = Str.ofString "before"
              · subst z4; rfl
              · simp [z1, z2, z3, z4]
          · intro p hp b hb e
            have hpr := ino p hp
            simp only [List.map_cons, List.mem_cons] at hb
            rcases hb with rfl | rfl | rfl | rfl | rfl | rfl | rfl | rfl | hb
            · exact oD p hpr e
            · exact Nat.ne_of_lt (l14 p (.tail _ (.tail _ hpr))) e
            · exact Nat.ne_of_lt (d10 p hpr) e
            · exact Nat.ne_of_lt (c9 p hpr) e
            · exact Nat.ne_of_lt (b8 p hpr) e
            · exact Nat.ne_of_lt (a7 p hpr) e
            · exact o18 p (.tail _ (.tail _ (.tail _ (.tail _ hpr)))) e
            · exact o17 p (.tail _ (.tail _ (.tail _ hpr))) e
            · exact hoff p hp b (by simp only [List.map_cons, List.mem_cons]; exact .inr (.inr hb)) e
          · intro p hp
            simp only [List.mem_cons] at hp
            rcases hp with rfl | rfl | rfl | rfl | rfl | rfl | rfl | rfl | hp
            · exact .tail _ (.tail _ (.tail _ (.tail _ (.tail _ (.tail _ (.tail _ (.head _)))))))
            · exact .tail _ (.tail _ (.tail _ (.tail _ (.tail _ (.tail _ (.head _))))))
            · exact .head _
            · exact .tail _ (.head _)
            · exact .tail _ (.tail _ (.head _))
            · exact .tail _ (.tail _ (.tail _ (.head _)))
            · exact .tail _ (.tail _ (.tail _ (.tail _ (.head _))))
            · exact .tail _ (.tail _ (.tail _ (.tail _ (.tail _ (.head _)))))
            · exact .tail _ (.tail _ (.tail _ (.tail _ (.tail _ (.tail _ (.tail _ (.tail _ (.tail _ (inr p hp)))))))))
          · exact fun p hp => .tail _ (.tail _ (.tail _ (.tail _ (.tail _ (.tail _ (.tail _ (.tail _ (.tail _ (ino p hp)))))))))
  · rintro m₁ nx h tk ⟨D, B, nD, nB, vs, bvs, rest, its, bs, rfl, hI, hbb, hbl, hit, hrD, hBD, hvl, hdr, hm⟩ F4 N4
    have F5 := fr_eq (m' := fun y => if y = Str.ofString "k" then m₁ y else if y = Str.ofString "last" then m₁ y else if y = Str.ofString "due" then some (Value.ref D) else if y = Str.ofString "before" then some (Value.ref B) else List.lookup y [(Str.ofString "row", Value.ref lr)].reverse) F4 (fun y => by
      by_cases e : y = Str.ofString "k"
      · simp [e]
      · by_cases e2 : y = Str.ofString "last"
        · simp [e2]
        · simp only [e, e2, if_false]; exact hm y e e2)
    clear F4 F3 N3
    change Fr g L' h _ at F5
    change News g L' h _ at N4
    walk_at "my steps"
    refine hret _ _ _ (Kept.trans KG F5) ⟨D, nD, vs, rest, its, bs, rfl, (N4 _ (.head _)).1, hit, fun q hq => (N4 q (.tail _ (.tail _ hq))).1, hdr⟩
end
end Mine
end
section
open PySem PySem.W PySem.Calls PyProof.Rows
set_option maxRecDepth 100000
namespace Mine
/-- the heap with other slots at one address -/
def hUp (h : Heap) (a : Addr) (sl : Array (Option Value)) : Heap := h.update a fun o => { o with slots := sl }
theorem hUp_ne {h : Heap} {a b : Addr} {sl : Array (Option Value)} (hb : b ≠ a) : (hUp h a sl).get? b = h.get? b := Heap.get?_update_ne _ _ _ _ hb
theorem hUp_self {h : Heap} {a : Addr} {o : Obj} {sl : Array (Option Value)} (e : h.get? a = some o) : (hUp h a sl).get? a = some { o with slots := sl } :=
  Heap.get?_update_self _ e (by
    have h1 := (Heap.get?_some_iff.mp e).2
    obtain ⟨c, d, dt, s⟩ := o
    cases dt <;> first | rfl | exact h1)
theorem hUp_size (h : Heap) (a : Addr) (sl : Array (Option Value)) : (hUp h a sl).objs.size = h.objs.size := Heap.size_update ..
theorem hUp_get {h : Heap} {a b : Addr} {o o' : Obj} {sl : Array (Option Value)} (g : h.get? a = some o) (e : (hUp h a sl).get? b = some o') : (b = a ∧ o' = { o with slots := sl }) ∨ (b ≠ a ∧ h.get? b = some o') := by
  by_cases hb : b = a
  · subst hb
    rw [hUp_self g] at e
    exact .inl ⟨rfl, (Option.some.inj e).symm⟩
  · rw [hUp_ne hb] at e
    exact .inr ⟨hb, e⟩
/-- the ground without the one frame, and the same ground with it -/
structure Gap (s0 g : Heap) (L2 : Addr) (o2 : Obj) : Prop where
  get : s0.get? L2 = some o2
  size : g.objs.size = s0.objs.size
  up : ∀ b o, s0.get? b = some o → b ≠ L2 → g.get? b = some o
  down : ∀ b o, g.get? b = some o → s0.get? b = some o
  off : g.get? L2 = none
section
variable {s0 g h : Heap} {L L2 : Addr} {o2 : Obj} {sl : Array (Option Value)} {m : Str → Option Value} {nw : List (Addr × Obj)}
theorem Gap.fr_up (G : Gap s0 g L2 o2) (F : Fr g L h m) (e : h.get? L2 = some { o2 with slots := sl }) : Fr (hUp s0 L2 sl) L h m :=
  ⟨F.ns, fun b o hb => by
    rcases hUp_get G.get hb with ⟨rfl, rfl⟩ | ⟨hn, hb⟩
    · exact e
    · exact F.keep b o (G.up b o hb hn), by rw [hUp_size, ← G.size]; exact F.above⟩
theorem Gap.ne (G : Gap s0 g L2 o2) {b : Addr} {o : Obj} (e : g.get? b = some o) : b ≠ L2 := fun q => by
  rw [q, G.off] at e; cases e
theorem Gap.fr_down (G : Gap s0 g L2 o2) (F : Fr (hUp s0 L2 sl) L h m) : Fr g L h m :=
  ⟨F.ns, fun b o hb => F.keep b o (by rw [hUp_ne (G.ne hb)]; exact G.down b o hb), by have := F.above; rw [hUp_size, ← G.size] at this; exact this⟩
theorem Gap.here (G : Gap s0 g L2 o2) (F : Fr (hUp s0 L2 sl) L h m) : h.get? L2 = some { o2 with slots := sl } := F.keep _ _ (hUp_self G.get)
theorem Gap.news_up (G : Gap s0 g L2 o2) (N : News g L h nw) (hn : ∀ p ∈ nw, p.1 ≠ L2) : News (hUp s0 L2 sl) L h nw := fun p hp =>
  ⟨(N p hp).1, (N p hp).2.1, by
    rw [hUp_ne (hn p hp)]
    cases q : s0.get? p.1 with
    | none => rfl
    | some o => have := G.up _ _ q (hn p hp); rw [(N p hp).2.2] at this; cases this⟩
theorem Gap.news_down (G : Gap s0 g L2 o2) (N : News (hUp s0 L2 sl) L h nw) : News g L h nw := fun p hp =>
  ⟨(N p hp).1, (N p hp).2.1, by
    cases q : g.get? p.1 with
    | none => rfl
    | some o => have := (N p hp).2.2; rw [hUp_ne (G.ne q), G.down _ _ q] at this; cases this⟩
theorem Gap.news_off (G : Gap s0 g L2 o2) (N : News (hUp s0 L2 sl) L h nw) : ∀ p ∈ nw, p.1 ≠ L2 := fun p hp q => by
  have := (N p hp).2.2; rw [q, hUp_self G.get] at this; cases this
theorem Gap.frame_ne (G : Gap s0 g L2 o2) (F : Fr (hUp s0 L2 sl) L h m) : L2 ≠ L := fun q => by
  have h1 := Heap.lt_size G.get
  have h2 := F.above
  rw [hUp_size] at h2
  exact absurd (Nat.lt_of_lt_of_le h1 h2) (q ▸ Nat.lt_irrefl _)
/-- what stands on the ground's own ground stands on it, whatever the slots -/
theorem stays_up {hL : Heap} (hL0 : ∀ b o, hL.get? b = some o → s0.get? b = some o) (hLs : hL.objs.size ≤ L2) (b : Addr) (o : Obj) (e : hL.get? b = some o) : (hUp s0 L2 sl).get? b = some o := by
  have hb : b ≠ L2 := Nat.ne_of_lt (Nat.lt_of_lt_of_le (Heap.lt_size e) hLs)
  rw [hUp_ne hb]; exact hL0 b o e
theorem below_up {A : Around} {base : Heap} {l : List Env} (B : Below A base l s0) (g2 : s0.get? L2 = some o2) (hb : base.get? L2 = none) : Below A base l (hUp s0 L2 sl) :=
  ⟨B.stack, fun b o e => by
    have hn : b ≠ L2 := fun q => by rw [q, hb] at e; cases e
    rw [hUp_ne hn]; exact B.stays b o e, B.frames.of_keeps fun b o e _ => by
    by_cases q : b = L2
    · subst q
      rw [g2] at e; cases e
      exact ⟨_, hUp_self g2, rfl⟩
    · exact ⟨o, by rw [hUp_ne q]; exact e, rfl⟩⟩
end
section
variable {w : World} {mean : ExcName → Option Value} {mg mb : Str → Option Value} {p : Program} {loose : List Str}
theorem uld_use {dp un : Nat} {gd : Option (List Code)} {cn : Str} {cs : Scope} {L1 a : Addr} {ccd : Value} {cl : List (Str × Addr)} {e2 : Env} {hL s0 g : Heap} {s : Shared} {Q E : Value → Shared → Prop} {le la L2 : Addr} {o2 : Obj} {X Y : List Value} {nx ny : Nat} {m : Str → Option Value} {nw rest : List (Addr × Obj)} {sl : Array (Option Value)}
    (hk1 : cs.kind ≠ .module) (he2 : e2.scope.kind ≠ .module) (hf2 : e2.frame = some L2) (hd2 : ∃ es ep, o2.data = .dict es ep) (hL0 : ∀ b o, hL.get? b = some o → s0.get? b = some o) (hLs : hL.objs.size ≤ L2)
    (XL : (hd.heap_39 w.params).In hL) (TL : Top p loose mean mg mb hL) (G : Gap s0 g L2 o2) (F : Fr (hUp s0 L2 sl) L1 s.heap m) (N : News (hUp s0 L2 sl) L1 s.heap nw)
    (m1 : (le, listOf X.toArray nx) ∈ nw) (m2 : (la, listOf Y.toArray ny) ∈ nw) (hne : le ≠ la) (hr : ∀ p ∈ rest, p ∈ nw ∧ p.1 ≠ le ∧ p.1 ≠ la) (hX : AllB X) (hY : AllB Y) (hxl : X.length ≤ 1000) (hyl : Y.length ≤ 1000) (hdp : dp + 2 < recursionLimit) (hun : un + 16 < cLine)
    (ret : ∀ h' tk' t lm k1 k2 sl', Fr (hUp s0 L2 sl') L1 h' m → News (hUp s0 L2 sl') L1 h' ((t, { cls := .type "tuple", data := .seq #[.ref lm, .ref la] }) :: (lm, listOf (uldR X.reverse Y []).1.toArray k1) :: (la, listOf (uldR X.reverse Y []).2.toArray k2) :: rest) →
      (∀ p ∈ nw, p.1 ≠ t ∧ p.1 ≠ lm) → t ≠ lm → Q (.ref t) { s with heap := h', toks := tk' }) :
    wpAny (model Challenge.rw_pa0040_01.row.prog w) (ktrTop dp un gd cn cs L1 a ccd cl [e2]) (call (.ref 137) [.ref le, .ref la]) Q E s := by
  obtain ⟨o1, es1, ep1, g1, hd1, hk1', hl1'⟩ := F.ns
  have hG := G.get
  have g2 := F.keep _ _ (hUp_self hG)
  have st : ∀ b o, hL.get? b = some o → s.heap.get? b = some o := fun b o e => F.keep b o (stays_up hL0 hLs b o e)
  have offL : ∀ b, (hUp s0 L2 sl).get? b = none → hL.get? b = none := fun b e => by
    cases q : hL.get? b with
    | none => rfl
    | some o => rw [stays_up hL0 hLs b o q] at e; cases e
  have nL1 : (hUp s0 L2 sl).get? L1 = none := by
    cases q : (hUp s0 L2 sl).get? L1 with
    | none => rfl
    | some o => exact absurd (Nat.lt_of_lt_of_le (Heap.lt_size q) F.above) (Nat.lt_irrefl _)
  have z1 := N _ m1
  have z2 := N _ m2
  have f1 := G.news_off N _ m1
  have f2 := G.news_off N _ m2
  have f3 : L1 ≠ L2 := Ne.symm (G.frame_ne F)
  have hL2 : hL.get? L2 = none := by
    cases q : hL.get? L2 with
    | none => rfl
    | some o => exact absurd (Nat.lt_of_lt_of_le (Heap.lt_size q) hLs) (Nat.lt_irrefl _)
  obtain ⟨es2, ep2, hd2⟩ := hd2
  refine uld_does dp un gd cn cs L1 a ccd cl e2 hL s Q E le la L2 o1 { o2 with slots := sl } X Y nx ny ⟨hk1, rfl, ⟨es1, ep1, hd1⟩, he2, hf2, ⟨es2, ep2, hd2⟩, trivial⟩ st XL TL g1 g2 z1.1 z2.1 (offL _ nL1) hL2 (offL _ z1.2.2) (offL _ z2.2.2) hne z1.2.1 f1 z2.2.1 f2 f3 hX hY hxl hyl hdp hun ?_
  intro h' tk' t lm k1 k2 sl1 sl2 K r1 r2 rt rm ra ft fm tm
  have keep' : ∀ b o, s.heap.get? b = some o → b ≠ le → b ≠ la → b ≠ L1 → b ≠ L2 → h'.get? b = some o := fun b o e q1 q2 q3 q4 => K b o e (by simp; exact ⟨q1, q2, q3, q4⟩)
  have old : ∀ b, s.heap.get? b = none → b ≠ L2 → (hUp s0 L2 sl2).get? b = none := fun b e q => by
    rw [hUp_ne q]
    cases x : s0.get? b with
    | none => rfl
    | some o =>
      have := F.keep b o (by rw [hUp_ne q]; exact x)
      rw [e] at this; cases this
  have F' : Fr (hUp s0 L2 sl2) L1 h' m := by
    refine ⟨⟨_, es1, ep1, r1, hd1, hk1', hl1'⟩, fun b o e => ?_, by rw [hUp_size]; have := F.above; rw [hUp_size] at this; exact this⟩
    rcases hUp_get hG e with ⟨rfl, rfl⟩ | ⟨hn, e⟩
    · exact r2
    · have e' : (hUp s0 L2 sl).get? b = some o := by rw [hUp_ne hn]; exact e
      refine keep' b o (F.keep b o e') (fun q => ?_) (fun q => ?_) (fun q => ?_) hn
      · rw [q, z1.2.2] at e'; cases e'
      · rw [q, z2.2.2] at e'; cases e'
      · rw [q, nL1] at e'; cases e'
  have net : ∀ b o, s.heap.get? b = some o → b ≠ t ∧ b ≠ lm := fun b o e => ⟨(fun q => by rw [q, ft] at e; cases e), (fun q => by rw [q, fm] at e; cases e)⟩
  refine ret h' tk' t lm k1 k2 sl2 F' (fun q hq => ?_) (fun q hq => net _ _ (N q hq).1) tm
  rcases List.mem_cons.mp hq with rfl | hq
  · exact ⟨rt, Ne.symm (net _ _ g1).1, old _ ft (Ne.symm (net _ _ g2).1)⟩
  rcases List.mem_cons.mp hq with rfl | hq
  · exact ⟨rm, Ne.symm (net _ _ g1).2, old _ fm (Ne.symm (net _ _ g2).2)⟩
  have un0 : ∀ b, (hUp s0 L2 sl).get? b = none → b ≠ L2 → (hUp s0 L2 sl2).get? b = none := fun b e q => by rw [hUp_ne q] at e ⊢; exact e
  rcases List.mem_cons.mp hq with rfl | hq
  · exact ⟨ra, z2.2.1, un0 _ z2.2.2 f2⟩
  · obtain ⟨i1, i2, i3⟩ := hr q hq
    have zq := N q i1
    have fq := G.news_off N q i1
    exact ⟨keep' _ _ zq.1 i2 i3 zq.2.1 fq, zq.2.1, un0 _ zq.2.2 fq⟩
end
section
variable {prog : Program} {w : World} {A A₀ : Around} {E : Value → Shared → Prop} {s : Shared} {K : Frag} {L : Addr} {h₀ base : Heap} {m mg mb : Str → Option Value} {news : List (Addr × Obj)} {p : Program} {loose : List Str} {mean : ExcName → Option Value}
/-- as code_defF, and where the new frame lies -/
theorem code_defG {R : Result → Shared → Prop} {name qual : Str} {params : Arguments} {body : List Stmt} {scope : Scope} {dV kV doc pm cdv ct oc : Value} {an od : Option Addr} {osl : Array (Option Value)} {f : Addr} {args : Args} {binds : List (Str × Value)}
    (st : base.StaysIn s.heap) (X₀ : K.In base) (T : Top p loose mean mg mb base) (hn : ∀ q ∈ news, s.heap.get? q.1 = some q.2 ∧ base.get? q.1 = none)
    (ho : K.lookup f = some ⟨oc, od, .func (fnOf name qual params body scope dV kV doc pm an cdv ct), osl⟩) (hcd : codeIn K cdv qual = true) (hroom : A.depth < recursionLimit)
    (hbind : BindsTo s (fnOf name qual params body scope dV kV doc pm an cdv ct) args binds) (hloc : ∀ y ∈ binds, scope.names.lookup y.1 = some .local)
    (h : ∀ g L' h₁, L' = s.heap.objs.size → g.objs.size = L' → Kept (news.map (·.1)) s.heap g → (∀ b o, g.get? b = some o → s.heap.get? b = some o) → base.StaysIn g → Fr g L' h₁ (fun y => binds.reverse.lookup y) → News g L' h₁ news → (∀ q ∈ news, q.1 < L') → K.In g → Top p loose mean mg mb g →
      let A₁ := A.deeper (envOf qual scope L' f cdv)
      let Q₁ : Flow → Shared → Prop := fun fl s' => R (.ok (.ret (match fl with | .ret v => v | _ => .none))) s'
      let E₁ : Value → Shared → Prop := fun e s' => wpAny (model prog w) A₁ (leaving (envOf qual scope L' f cdv) e) (fun _ s'' => R (.error e) s'') (fun e' s'' => R (.error e') s'') s'
      wpAny (model prog w) A₁ (execs body (envOf qual scope L' f cdv)) Q₁ E₁ { s with heap := h₁, toks := s.toks + binds.length })
    (hco : scope.isCoroutine = false) (hgen : scope.isGenerator = false) (hk : scope.kind = .function)
    (hcell : ∀ x ∈ scope.names, x.2 ≠ .cell) : codeAny (model prog w) A (.call (.ref f) args) R s := by
  have sg : base.StaysIn (hideAll s.heap (news.map (·.1))) := fun b o e => hideAll_get _ (st b o e) fun hm => by
    obtain ⟨q, hq, rfl⟩ := List.mem_map.mp hm
    rw [(hn q hq).2] at e; cases e
  refine codeAny_call_def (fd := fnOf name qual params body scope dV kV doc pm an cdv ct) (body := body) (binds := binds) hroom ((X₀.keeps st) _ _ ho) rfl (T.nolimit.keeps st) (codeRec_of (X₀.keeps st) hcd) rfl hbind hcell hloc (fun h₁ hns hk₁ => ?_) hco hgen hk
  exact h _ s.heap.objs.size h₁ rfl (hideAll_size _ _) (fun b o e n => hideAll_get _ e n) (fun b o e => of_hideAll _ e) sg ⟨hns, fun b o e => hk₁ b o (of_hideAll _ e), Nat.le_of_eq (hideAll_size _ _)⟩
    (fun q hq => ⟨hk₁ _ _ (hn q hq).1, Nat.ne_of_lt (Heap.lt_size (hn q hq).1), hideAll_none _ (List.mem_map_of_mem hq)⟩) (fun q hq => Heap.lt_size (hn q hq).1) (X₀.keeps sg) (T.keeps sg)
end
end Mine
end
section
open PySem PySem.W PySem.Calls PyProof.Rows
set_option maxRecDepth 100000
namespace Mine
/-- the sign at a place of the order -/
def sgn (k : Int) : Int := if k < 2 then 43 + 4 * k else if k < 12 then k + 46 else if k < 38 then k + 53 else k + 59
theorem sgn_lt {j k : Int} (h0 : 0 ≤ j) (h1 : j < 64) (h2 : 0 ≤ k) (h3 : k < 64) : sgn j < sgn k ↔ j < k := by
  unfold sgn
  repeat' split
  all_goals (first | lia | omega)
theorem ch_all : ∀ i : Fin 64, ((ch (i.val : Int)).toNat : Int) = sgn (rk (i.val : Int)) := by decide +kernel
theorem ch_sgn {i : Int} (h0 : 0 ≤ i) (h1 : i < 64) : ((ch i).toNat : Int) = sgn (rk i) := by
  obtain ⟨a, rfl⟩ : ∃ k : Nat, i = (k : Int) := ⟨i.toNat, by (first | lia | omega)⟩
  exact ch_all ⟨a, by (first | lia | omega)⟩
theorem ch_lt {i j : Int} (h0 : 0 ≤ i) (h1 : i < 64) (h2 : 0 ≤ j) (h3 : j < 64) : (ch i < ch j) ↔ rk i < rk j := by
  have a := rk_range h0 h1
  have b := rk_range h2 h3
  rw [← sgn_lt a.1 a.2 b.1 b.2, ← ch_sgn h0 h1, ← ch_sgn h2 h3, UInt8.lt_iff_toNat_lt]
  (first | lia | omega)
theorem ch_inj {i j : Int} (h0 : 0 ≤ i) (h1 : i < 64) (h2 : 0 ≤ j) (h3 : j < 64) (e : ch i = ch j) : i = j := by
  have a := rk_range h0 h1
  have b := rk_range h2 h3
  have q : sgn (rk i) = sgn (rk j) := by rw [← ch_sgn h0 h1, ← ch_sgn h2 h3, e]
  have c1 := sgn_lt a.1 a.2 b.1 b.2
  have c2 := sgn_lt b.1 b.2 a.1 a.2
  exact rk_inj h0 h1 h2 h3 (by (first | lia | omega))
/-- one sign of the order of two writings -/
theorem order_cons {i j : Int} {xs ys : List UInt8} {b : Bool} (h0 : 0 ≤ i) (h1 : i < 64) (h2 : 0 ≤ j) (h3 : j < 64) (hb : (Builtin.Bytes.order xs ys == .lt) = b) :
    (Builtin.Bytes.order (ch i :: xs) (ch j :: ys) == .lt) = if rk i = rk j then b else decide (rk i < rk j) := by
  have e1 := ch_lt h0 h1 h2 h3
  have e2 := ch_lt h2 h3 h0 h1
  show ((if ch i < ch j then Ordering.lt else if ch i > ch j then Ordering.gt else Builtin.Bytes.order xs ys) == Ordering.lt) = _
  by_cases c1 : rk i < rk j
  · rw [if_pos (e1.mpr c1), if_neg (by (first | lia | omega)), decide_eq_true c1]; rfl
  · by_cases c2 : rk j < rk i
    · rw [if_neg (fun q => c1 (e1.mp q)), if_pos (e2.mpr c2), if_neg (by (first | lia | omega)), decide_eq_false c1]; rfl
    · rw [if_neg (fun q => c1 (e1.mp q)), if_neg (fun q => c2 (e2.mp q)), if_pos (by (first | lia | omega))]; exact hb
theorem blt_wrt (x y : Int) : blt (wrt x) (wrt y) = decide (key x < key y) := by
  rw [← rks_lt]
  show (Builtin.Bytes.order [ch (x / 262144 % 64), ch (x / 4096 % 64), ch (x / 64 % 64), ch (x % 64)] [ch (y / 262144 % 64), ch (y / 4096 % 64), ch (y / 64 % 64), ch (y % 64)] == .lt) = _
  exact order_cons (by (first | lia | omega)) (by (first | lia | omega)) (by (first | lia | omega)) (by (first | lia | omega)) (order_cons (by (first | lia | omega)) (by (first | lia | omega)) (by (first | lia | omega)) (by (first | lia | omega)) (order_cons (by (first | lia | omega)) (by (first | lia | omega)) (by (first | lia | omega)) (by (first | lia | omega)) (order_cons (by (first | lia | omega)) (by (first | lia | omega)) (by (first | lia | omega)) (by (first | lia | omega)) rfl)))
theorem ch_injm {a b : Int} (e : ch (a % 64) = ch (b % 64)) : a % 64 = b % 64 := ch_inj (sx_b rfl).1 (sx_b rfl).2 (sx_b rfl).1 (sx_b rfl).2 e
theorem wrt_inj {x y : Int} (h0 : 0 ≤ x) (h1 : x < 2 ^ 24) (h2 : 0 ≤ y) (h3 : y < 2 ^ 24) (e : wrt x = wrt y) : x = y := by
  have e' : [ch (x / 262144 % 64), ch (x / 4096 % 64), ch (x / 64 % 64), ch (x % 64)] = [ch (y / 262144 % 64), ch (y / 4096 % 64), ch (y / 64 % 64), ch (y % 64)] := congrArg Array.toList e
  simp only [List.cons.injEq, and_true] at e'
  exact dig_inj h0 h1 h2 h3 (ch_injm e'.1) (ch_injm e'.2.1) (ch_injm e'.2.2.1) (ch_injm e'.2.2.2)
/-- the writings of these numbers -/
inductive WAre : List Value → List Int → Prop
  | nil : WAre [] []
  | cons (n : Int) (t : Tok) {vs ns} : 0 ≤ n → n < 2 ^ 24 → WAre vs ns → WAre (.bytes (wrt n) t :: vs) (n :: ns)
theorem WAre.append {vs us : List Value} {ns ms : List Int} (a : WAre vs ns) (h : WAre us ms) : WAre (vs ++ us) (ns ++ ms) := by
  induction a with
  | nil => exact h
  | cons n t h0 h1 _ ih => exact .cons n t h0 h1 ih
theorem WAre.length {vs : List Value} {ns : List Int} (a : WAre vs ns) : vs.length = ns.length := by
  induction a with
  | nil => rfl
  | cons _ _ _ _ _ ih => exact congrArg Nat.succ ih
theorem WAre.allB {vs : List Value} {ns : List Int} (a : WAre vs ns) : AllB vs := by
  induction a with
  | nil => exact fun _ h => nomatch h
  | cons n t _ _ _ ih => exact List.forall_mem_cons.mpr ⟨⟨_, _, rfl⟩, ih⟩
theorem WAre.are {vs : List Value} {ns : List Int} (a : WAre vs ns) : BAre vs (ns.map wrt) := by
  induction a with
  | nil => exact .nil
  | cons _ _ _ _ _ ih => exact .cons _ _ ih
theorem WAre.range {vs : List Value} {ns : List Int} (a : WAre vs ns) : ∀ x ∈ ns, 0 ≤ x ∧ x < 2 ^ 24 := by
  induction a with
  | nil => exact fun _ h => nomatch h
  | cons _ _ h0 h1 _ ih => exact List.forall_mem_cons.mpr ⟨⟨h0, h1⟩, ih⟩
theorem WAre.reverse {vs : List Value} {ns : List Int} (a : WAre vs ns) : WAre vs.reverse ns.reverse := by
  induction a with
  | nil => exact .nil
  | cons n t h0 h1 _ ih =>
    rw [List.reverse_cons, List.reverse_cons]
    exact ih.append (.cons n t h0 h1 .nil)
theorem WAre.get {vs : List Value} {ns : List Int} (a : WAre vs ns) : ∀ (i : Nat) (n : Int), ns[i]? = some n → ∃ t, vs[i]? = some (Value.bytes (wrt n) t) := by
  induction a with
  | nil => exact fun _ _ h => nomatch h
  | cons n t _ _ _ ih =>
    intro i k h
    cases i with
    | zero => cases h; exact ⟨t, rfl⟩
    | succ i => exact ih i k h
theorem vb_wrt {n k : Int} {t u : Tok} (h0 : 0 ≤ n) (h1 : n < 2 ^ 24) (h2 : 0 ≤ k) (h3 : k < 2 ^ 24) : (vb (Value.bytes (wrt n) t) == vb (Value.bytes (wrt k) u)) = (n == k) := by
  show ((wrt n).toList == (wrt k).toList) = (n == k)
  by_cases e : n = k
  · subst e; simp
  · have h : ¬ (wrt n).toList = (wrt k).toList := fun q => e (wrt_inj h0 h1 h2 h3 (Array.toList_inj.mp q))
    rw [beq_eq_false_iff_ne.mpr h, beq_eq_false_iff_ne.mpr e]
/-- the same of the numbers -/
def rmN (k : Int) : List Int → Option (List Int)
  | [] => none
  | x :: r => if x == k then some r else (rmN k r).map (x :: ·)
theorem rmN_eq (k : Int) : ∀ l : List Int, rmN k l = if k ∈ l then some (l.erase k) else none
  | [] => by simp [rmN]
  | x :: r => by
    unfold rmN
    rw [rmN_eq k r, List.erase_cons]
    by_cases e : x = k
    · subst e; simp
    · have e1 : (x == k) = false := beq_eq_false_iff_ne.mpr e
      have e2 : ¬ k = x := fun q => e q.symm
      rw [e1]
      by_cases m : k ∈ r
      · simp [m]
      · simp [m, e2]
theorem rmv_wrt {n : Int} {t : Tok} (h0 : 0 ≤ n) (h1 : n < 2 ^ 24) : ∀ {vs : List Value} {ns : List Int}, WAre vs ns → (∃ q ms, rmv (Value.bytes (wrt n) t) vs = some q ∧ rmN n ns = some ms ∧ WAre q ms) ∨ (rmv (Value.bytes (wrt n) t) vs = none ∧ rmN n ns = none)
  | _, _, .nil => .inr ⟨rfl, rfl⟩
  | _, _, .cons k u g0 g1 r => by
    unfold rmv rmN
    rw [vb_wrt g0 g1 h0 h1]
    by_cases e : (k == n) = true
    · rw [if_pos e, if_pos e]; exact .inl ⟨_, _, rfl, rfl, r⟩
    · rw [if_neg e, if_neg e]
      rcases rmv_wrt (t := t) h0 h1 r with ⟨q, ms, e1, e2, e3⟩ | ⟨e1, e2⟩
      · rw [e1, e2]; exact .inl ⟨_, _, rfl, rfl, .cons k u g0 g1 e3⟩
      · rw [e1, e2]; exact .inr ⟨rfl, rfl⟩
def uldN : List Int → List Int → List Int → List Int × List Int
  | [], Y, M => (M, Y)
  | v :: X, Y, M => match rmN v Y with
    | some Y' => uldN X Y' M
    | none => uldN X Y (M ++ [v])
theorem uld_wrt {xs : List Value} {ns : List Int} (a : WAre xs ns) : ∀ {ys ms : List Value} {ks ls : List Int}, WAre ys ks → WAre ms ls → WAre (uldR xs ys ms).1 (uldN ns ks ls).1 ∧ WAre (uldR xs ys ms).2 (uldN ns ks ls).2 := by
  induction a with
  | nil => exact fun hy hm => ⟨hm, hy⟩
  | cons n t h0 h1 _ ih =>
    intro ys ms ks ls hy hm
    unfold uldR uldN
    rcases rmv_wrt (t := t) h0 h1 hy with ⟨q, qs, e1, e2, e3⟩ | ⟨e1, e2⟩
    · rw [e1, e2]; exact ih e3 hm
    · rw [e1, e2]; exact ih hy (hm.append (.cons n t h0 h1 .nil))
/-- a heap of three at most takes one more: what it is, and what is thrown away -/
def pushN (v : Int) : List Int → List Int × List Int
  | [] => ([v], [])
  | [a] => (if key v < key a then [v, a] else [a, v], [])
  | [a, b] => (if key v < key a then [v, b, a] else [a, b, v], [])
  | a :: b :: c :: r => if key a < key v then (if key b < key c then (if key v < key b then [v, b, c] else [b, v, c]) else (if key v < key c then [v, b, c] else [c, b, v]), [a]) else (a :: b :: c :: r, [v])
end Mine
end
section
open PySem PySem.W PySem.Calls PyProof.Rows PyProof.Rows.LCg PyProof.Rows.LCp
set_option maxRecDepth 100000
namespace Mine
theorem add_listsL {prog : Program} {w : World} {A : Around} {E : Value → Shared → Prop} {s : Shared} {h₀ : Heap} {L l b : Addr} {m : Str → Option Value} {news : List (Addr × Obj)} {vs ws : List Value} {Q : Value → Shared → Prop} (F : Fr h₀ L s.heap m) (N : News h₀ L s.heap news) (hl : s.heap.IsList l vs.toArray) (hb : s.heap.IsList b ws.toArray)
    (hz : vs.length + ws.length ≤ 16777216)
    (h : ∀ D h', Fr h₀ L h' m → News h₀ L h' ((D, listOf (vs ++ ws).toArray 0) :: news) → (∀ p ∈ news, p.1 < D) → Q (.ref D) { s with heap := h' }) :
    wpAny (model prog w) A (binaryOp .Add (.ref l) (.ref b)) Q E s :=
  add_lists (hsz := by rw [sizeLine_eq]; exact hz) F N hl hb fun h' F' N' => h _ h' F' N' fun p hp => Heap.lt_size (N p hp).1
theorem head_get {l : List Int} (h : 1 ≤ l.length) : l[0]? = some (l.headD 0) := by
  cases l with
  | nil => simp at h
  | cons a r => rfl
theorem map_take_succ {l : List Int} {i : Nat} {n : Int} (e : l[i]? = some n) : (l.take (i + 1)).map octs = (l.take i).map octs ++ [octs n] := by
  rw [List.take_add_one, e]; simp
/-- what told comes to, row by row -/
inductive ToldR (xs : List Int) : Nat → List It → List Int → List Int → Prop
  | zero : ToldR xs 0 [] [] []
  | succ {i : Nat} {its : List It} {H T : List Int} {x : Int} : ToldR xs i its H T → xs[i]? = some x →
      ToldR xs (i + 1) (its ++ [.three (octs ((pushN x H).1.headD 0)) ((uldN H.reverse (pushN x H).1 []).1.map octs) ((uldN H.reverse (pushN x H).1 []).2.map octs),
        .two ((uldN (xs.take (i + 1)).reverse ((pushN x H).1 ++ (T ++ (pushN x H).2)) []).1.map wrt) ((uldN (xs.take (i + 1)).reverse ((pushN x H).1 ++ (T ++ (pushN x H).2)) []).2.map wrt)]) (pushN x H).1 (T ++ (pushN x H).2)
theorem push1_w {x a : Int} (tv ta : Tok) (h0 : 0 ≤ x) (h1 : x < 2 ^ 24) (g0 : 0 ≤ a) (g1 : a < 2 ^ 24) : ∃ hv : List Value, (if blt (wrt x) (wrt a) = true then #[Value.bytes (wrt x) tv, Value.bytes (wrt a) ta] else #[Value.bytes (wrt a) ta, Value.bytes (wrt x) tv]) = hv.toArray ∧ WAre hv (pushN x [a]).1 := by
  unfold pushN
  simp only [blt_wrt, decide_eq_true_eq]
  split
  · exact ⟨[.bytes (wrt x) tv, .bytes (wrt a) ta], rfl, .cons _ _ h0 h1 (.cons _ _ g0 g1 .nil)⟩
  · exact ⟨[.bytes (wrt a) ta, .bytes (wrt x) tv], rfl, .cons _ _ g0 g1 (.cons _ _ h0 h1 .nil)⟩
theorem push2_w {x a b : Int} (tv ta tb : Tok) (h0 : 0 ≤ x) (h1 : x < 2 ^ 24) (g0 : 0 ≤ a) (g1 : a < 2 ^ 24) (f0 : 0 ≤ b) (f1 : b < 2 ^ 24) : ∃ hv : List Value, (if blt (wrt x) (wrt a) = true then #[Value.bytes (wrt x) tv, Value.bytes (wrt b) tb, Value.bytes (wrt a) ta] else #[Value.bytes (wrt a) ta, Value.bytes (wrt b) tb, Value.bytes (wrt x) tv]) = hv.toArray ∧ WAre hv (pushN x [a, b]).1 := by
  unfold pushN
  simp only [blt_wrt, decide_eq_true_eq]
  split
  · exact ⟨[.bytes (wrt x) tv, .bytes (wrt b) tb, .bytes (wrt a) ta], rfl, .cons _ _ h0 h1 (.cons _ _ f0 f1 (.cons _ _ g0 g1 .nil))⟩
  · exact ⟨[.bytes (wrt a) ta, .bytes (wrt b) tb, .bytes (wrt x) tv], rfl, .cons _ _ g0 g1 (.cons _ _ f0 f1 (.cons _ _ h0 h1 .nil))⟩
theorem pop3_w {x a b c : Int} (tv ta tb tc : Tok) (h0 : 0 ≤ x) (h1 : x < 2 ^ 24) (g0 : 0 ≤ a) (g1 : a < 2 ^ 24) (f0 : 0 ≤ b) (f1 : b < 2 ^ 24) (e0 : 0 ≤ c) (e1 : c < 2 ^ 24) :
    (∃ hv : List Value, popL (wrt a) (wrt b) (wrt c) (wrt x) ta tb tc tv = hv.toArray ∧ WAre hv (pushN x [a, b, c]).1) ∧ WAre [popOut (wrt a) (wrt x) ta tv] (pushN x [a, b, c]).2 := by
  unfold popL popOut pushN
  simp only [blt_wrt, decide_eq_true_eq]
  by_cases q1 : key a < key x
  · simp only [q1, if_true]
    refine ⟨?_, .cons _ _ g0 g1 .nil⟩
    by_cases q2 : key b < key c
    · simp only [q2, if_true]
      by_cases q3 : key x < key b
      · simp only [q3, if_true]
        exact ⟨[_, _, _], rfl, .cons _ _ h0 h1 (.cons _ _ f0 f1 (.cons _ _ e0 e1 .nil))⟩
      · simp only [q3, if_false]
        exact ⟨[_, _, _], rfl, .cons _ _ f0 f1 (.cons _ _ h0 h1 (.cons _ _ e0 e1 .nil))⟩
    · simp only [q2, if_false]
      by_cases q3 : key x < key c
      · simp only [q3, if_true]
        exact ⟨[_, _, _], rfl, .cons _ _ h0 h1 (.cons _ _ f0 f1 (.cons _ _ e0 e1 .nil))⟩
      · simp only [q3, if_false]
        exact ⟨[_, _, _], rfl, .cons _ _ e0 e1 (.cons _ _ f0 f1 (.cons _ _ h0 h1 .nil))⟩
  · simp only [q1, if_false]
    exact ⟨⟨[_, _, _], rfl, .cons _ _ g0 g1 (.cons _ _ f0 f1 (.cons _ _ e0 e1 .nil))⟩, .cons _ _ h0 h1 .nil⟩
theorem rmN_len {k : Int} {l : List Int} : ∀ {r : List Int}, rmN k l = some r → r.length ≤ l.length := by
  induction l with
  | nil => exact fun h => nomatch h
  | cons x l ih =>
    intro r h
    unfold rmN at h
    by_cases e : (x == k) = true
    · rw [if_pos e] at h; cases h; exact Nat.le_succ _
    · rw [if_neg e] at h
      cases q : rmN k l with
      | none => rw [q] at h; cases h
      | some r' => rw [q] at h; cases h; exact Nat.succ_le_succ (ih q)
theorem uldN_len (X : List Int) : ∀ Y M : List Int, (uldN X Y M).1.length ≤ M.length + X.length ∧ (uldN X Y M).2.length ≤ Y.length := by
  induction X with
  | nil => exact fun Y M => ⟨Nat.le_refl _, Nat.le_refl _⟩
  | cons v X ih =>
    intro Y M
    unfold uldN
    cases q : rmN v Y with
    | some Y' => exact ⟨Nat.le_succ_of_le (ih Y' M).1, Nat.le_trans (ih Y' M).2 (rmN_len q)⟩
    | none =>
      have := ih Y (M ++ [v])
      rw [List.length_append, Nat.add_assoc, Nat.add_comm [v].length] at this
      exact this
theorem pushN_lenE (x : Int) {H : List Int} (h : H.length ≤ 3) : (pushN x H).1.length = min 3 (H.length + 1) := by
  match H, h with
  | [], _ => rfl
  | [a], _ => simp only [pushN]; split <;> rfl
  | [a, b], _ => simp only [pushN]; split <;> rfl
  | [a, b, c], _ =>
    simp only [pushN]
    split
    · dsimp only
      split <;> split <;> rfl
    · rfl
  | a :: b :: c :: d :: r, h => exact absurd h (by simp only [List.length_cons]; omega)
theorem pushN_len (x : Int) {H : List Int} (h : H.length ≤ 3) : (pushN x H).1.length ≤ 3 ∧ 1 ≤ (pushN x H).1.length := by
  rw [pushN_lenE x h]; omega
theorem pushN_len2 (x : Int) (H : List Int) : (pushN x H).2.length ≤ 1 := by
  match H with
  | [] => exact Nat.zero_le _
  | [a] => exact Nat.zero_le _
  | [a, b] => exact Nat.zero_le _
  | a :: b :: c :: r =>
    simp only [pushN]
    by_cases h1 : key a < key x <;> simp [h1]
/-- what the branch leaves, whichever it is -/
inductive IfPost (h₀ : Heap) (L : Addr) (m : Str → Option Value) (Hp Th : Addr) (H T : List Int) (oth : List (Addr × Obj)) (s : Shared) (f : Flow) (s' : Shared) : Prop
  | intro (e : f = .next) (h' : Heap) (tk nH nT : Nat) (hv tv : List Value) (e' : s' = { s with heap := h', toks := tk }) (F : Fr h₀ L h' m) (N : News h₀ L h' ((Hp, listOf (hv : List Value).toArray nH) :: (Th, listOf (tv : List Value).toArray nT) :: oth)) (w1 : WAre hv H) (w2 : WAre tv T)
theorem join_if {M : Model} {A : Around} {E : Value → Shared → Prop} {s : Shared} {e : Sem Flow} {Q : Flow → Shared → Prop} {h₀ : Heap} {L : Addr} {m : Str → Option Value} {Hp Th : Addr} {H T : List Int} {oth : List (Addr × Obj)} (_F : Fr h₀ L s.heap m) (h : wpAny M A e (IfPost h₀ L m Hp Th H T oth s) E s)
    (k : ∀ h' tk nH nT hv tv, Fr h₀ L h' m → News h₀ L h' ((Hp, listOf (hv : List Value).toArray nH) :: (Th, listOf (tv : List Value).toArray nT) :: oth) → WAre hv H → WAre tv T → Q .next { s with heap := h', toks := tk }) : wpAny M A e Q E s :=
  wpAny_mono h (fun f s' hv => by
    obtain ⟨rfl, h', tk, nH, nT, hv, tv, rfl, F, N, w1, w2⟩ := hv
    exact k h' tk nH nT hv tv F N w1 w2) fun _ _ x => x
theorem news_three {h₀ h : Heap} {L : Addr} {a b : Addr × Obj} {l l' : List (Addr × Obj)} (N : News h₀ L h l) (ha : a ∈ l) (hb : b ∈ l) (hl : ∀ p ∈ l', p ∈ l) : News h₀ L h (a :: b :: l') := fun p hp => by
  rcases List.mem_cons.mp hp with rfl | hp
  · exact N _ ha
  rcases List.mem_cons.mp hp with rfl | hp
  · exact N _ hb
  · exact N _ (hl p hp)
theorem upd_kept {h₀ h h' : Heap} {L D : Addr} {o o' : Obj} {tail : List (Addr × Obj)} (N : News h₀ L h ((D, o) :: tail)) (K : Kept [D] h h') (g : h'.get? D = some o') (ht : ∀ p ∈ tail, p.1 ∉ [D]) : News h₀ L h' ((D, o') :: tail) := fun p hp => by
  rcases List.mem_cons.mp hp with rfl | hp
  · exact ⟨g, (N _ (.head _)).2⟩
  · exact K.led (fun q hq => N q (.tail _ hq)) ht p hp
def tmpN : List Str := [Str.ofString "x", Str.ofString "writing", Str.ofString "before", Str.ofString "gone", Str.ofString "new"]
def toldM (lr D Ca Th Hp : Addr) : Str → Option Value := fun y => if y = Str.ofString "told" then some (Value.ref D) else if y = Str.ofString "came" then some (Value.ref Ca) else if y = Str.ofString "thrown" then some (Value.ref Th) else if y = Str.ofString "heap" then some (Value.ref Hp) else List.lookup y [(Str.ofString "row", Value.ref lr)].reverse
/-- the loop's word -/
inductive ToldJ (lr L2 : Addr) (o2 : Obj) (xs : List Int) (i : Nat) (m : Str → Option Value) (nx : List (Addr × Obj)) : Prop
  | intro (Hp Th Ca D : Addr) (nH nT nC nD : Nat) (hv tv cv vs : List Value) (sl : Array (Option Value)) (rest : List (Addr × Obj)) (its : List It) (H T : List Int)
    (e : nx = (Hp, listOf (hv : List Value).toArray nH) :: (Th, listOf (tv : List Value).toArray nT) :: (Ca, listOf (cv : List Value).toArray nC) :: (D, listOf (vs : List Value).toArray nD) :: (L2, { o2 with slots := sl }) :: rest)
    (wH : WAre hv H) (wT : WAre tv T) (wC : WAre cv (xs.take i)) (lenH : H.length = min 3 i) (lenT : T.length ≤ i) (hit : ItsIn rest vs its) (hrest : ∀ p ∈ rest, p.1 ≠ Hp ∧ p.1 ≠ Th ∧ p.1 ≠ D ∧ p.1 ≠ L2)
    (d1 : Hp ≠ Th) (d2 : Hp ≠ Ca) (d3 : Hp ≠ D) (d4 : Hp ≠ L2) (d5 : Th ≠ Ca) (d6 : Th ≠ D) (d7 : Th ≠ L2) (d8 : Ca ≠ D) (d9 : Ca ≠ L2) (d10 : D ≠ L2)
    (hvl : vs.length = 2 * i) (htr : ToldR xs i its H T) (hm : ∀ z, z ∉ tmpN → m z = toldM lr D Ca Th Hp z)
theorem told_map {lr D Ca Th Hp : Addr} {m₁ : Str → Option Value} {v : Option Value} (hm : ∀ z, z ∉ tmpN → m₁ z = toldM lr D Ca Th Hp z) (y : Str) :
    (if y = Str.ofString "x" then v else m₁ y) = (fun y => if y = Str.ofString "x" then v else if y = Str.ofString "writing" then m₁ y else if y = Str.ofString "before" then m₁ y else if y = Str.ofString "gone" then m₁ y else if y = Str.ofString "new" then m₁ y else toldM lr D Ca Th Hp y) y := by
  dsimp only
  by_cases e1 : y = Str.ofString "x"
  · rw [if_pos e1, if_pos e1]
  rw [if_neg e1, if_neg e1]
  by_cases e2 : y = Str.ofString "writing"
  · rw [if_pos e2]
  rw [if_neg e2]
  by_cases e3 : y = Str.ofString "before"
  · rw [if_pos e3]
  rw [if_neg e3]
  by_cases e4 : y = Str.ofString "gone"
  · rw [if_pos e4]
  rw [if_neg e4]
  by_cases e5 : y = Str.ofString "new"
  · rw [if_pos e5]
  rw [if_neg e5]
  exact hm y (by unfold tmpN; simp only [List.mem_cons, List.not_mem_nil, or_false, not_or]; exact ⟨e1, e2, e3, e4, e5⟩)
/-- an address that a turn has made -/
def NewA (Hp Th D : Addr) (own : List (Addr × Obj)) (a : Addr) : Prop := a ≠ Hp ∧ a ≠ Th ∧ a ≠ D ∧ ∀ p ∈ own, p.1 ≠ a
theorem told_end {s0 g h : Heap} {L' L2 Hp Th Ca2 D T1 Nd Gd t2 ml Hs lr : Addr} {o2 : Obj} {sl : Array (Option Value)} {m : Str → Option Value} {s1 : Shared} {tk nH nT nC nD k3 k4 i : Nat} {hv tv cv vs gy ny mv av : List Value} {td : Tok} {n0 : Int} {xs H Tn G1 N1 M1 A1 : List Int} {its : List It} {rest own : List (Addr × Obj)}
    (G : Gap s0 g L2 o2) (F : Fr (hUp s0 L2 sl) L' h m)
    (N : News (hUp s0 L2 sl) L' h ((t2, { cls := Value.type "tuple", data := Data.seq #[Value.ref ml, Value.ref Hs] }) :: (ml, listOf mv.toArray k3) :: (Hs, listOf av.toArray k4) :: (Hp, listOf hv.toArray nH) :: (Th, listOf tv.toArray nT) :: (Ca2, listOf cv.toArray nC) :: (T1, { cls := Value.type "tuple", data := Data.seq #[Value.bytes (octs n0) td, Value.ref Gd, Value.ref Nd] }) :: (Nd, lst ny) :: (Gd, lst gy) :: (D, listOf (vs ++ [Value.ref T1, Value.ref t2]).toArray nD) :: (rest ++ own)))
    (wh : WAre hv H) (wt : WAre tv Tn) (wc : WAre cv (xs.take (i + 1))) (wg : BAre gy (G1.map octs)) (wn : BAre ny (N1.map octs)) (wm : WAre mv M1) (wa : WAre av A1) (lenH : H.length = min 3 (i + 1)) (lenT : Tn.length ≤ i + 1) (hit : ItsIn rest vs its) (hvl : vs.length = 2 * i)
    (htr : ToldR xs (i + 1) (its ++ [.three (octs n0) (G1.map octs) (N1.map octs), .two (M1.map wrt) (A1.map wrt)]) H Tn)
    (hrest : ∀ p ∈ rest, p.1 ≠ Hp ∧ p.1 ≠ Th ∧ p.1 ≠ D ∧ p.1 ≠ L2) (i1 : ∀ p ∈ own, p.1 ≠ Hp ∧ p.1 ≠ Th ∧ p.1 ≠ D ∧ p.1 ≠ L2) (i2 : ∀ p ∈ own, ∀ b ∈ rest.map (·.1), p.1 ≠ b)
    (d1 : Hp ≠ Th) (d3 : Hp ≠ D) (d6 : Th ≠ D)
    (a1 : NewA Hp Th D own T1) (a2 : NewA Hp Th D own Nd) (a3 : NewA Hp Th D own Gd) (a4 : NewA Hp Th D own t2) (a5 : NewA Hp Th D own ml) (a6 : NewA Hp Th D own Hs) (a7 : NewA Hp Th D own Ca2)
    (hm : ∀ z, z ∉ tmpN → m z = toldM lr D Ca2 Th Hp z) :
    InvEndG g L' (ToldJ lr L2 o2 xs (i + 1)) own s1 { s1 with heap := h, toks := tk } := by
  have off2 := G.news_off N
  have NL : News g L' h ((L2, { o2 with slots := sl }) :: _) := List.forall_mem_cons.mpr ⟨⟨G.here F, G.frame_ne F, G.off⟩, G.news_down N⟩
  refine InvEndG.intro (G.fr_down F) NL ⟨Hp, Th, Ca2, D, nH, nT, nC, nD, hv, tv, cv, vs ++ [.ref T1, .ref t2], sl,
    (T1, { cls := Value.type "tuple", data := Data.seq #[Value.bytes (octs n0) td, Value.ref Gd, Value.ref Nd] }) :: (Nd, lst ny) :: (Gd, lst gy) :: (t2, { cls := Value.type "tuple", data := Data.seq #[Value.ref ml, Value.ref Hs] }) :: (ml, listOf mv.toArray k3) :: (Hs, listOf av.toArray k4) :: rest, _, H, Tn, rfl, wh, wt, wc, lenH, lenT, ?_, ?_, d1, Ne.symm a7.1, d3, off2 (Hp, listOf hv.toArray nH) (by k_mem), Ne.symm a7.2.1, d6, off2 (Th, listOf tv.toArray nT) (by k_mem), a7.2.2.1, off2 (Ca2, listOf cv.toArray nC) (by k_mem), off2 (D, listOf (vs ++ [Value.ref T1, Value.ref t2]).toArray nD) (by k_mem), ?_, htr, hm⟩ ?_ ?_ ?_
  · refine (hit.mono fun p hp => ?_).append (.cons ?_ (.cons ?_ .nil))
    · exact .tail _ (.tail _ (.tail _ (.tail _ (.tail _ (.tail _ hp)))))
    · exact .three (vg := gy) (vn := ny) (.head _) (.tail _ (.tail _ (.head _))) (.tail _ (.head _)) wg wn
    · exact .two (.tail _ (.tail _ (.tail _ (.head _)))) (.tail _ (.tail _ (.tail _ (.tail _ (.head _))))) (.tail _ (.tail _ (.tail _ (.tail _ (.tail _ (.head _)))))) wm.are wa.are
  · intro p hp
    simp only [List.mem_cons] at hp
    rcases hp with rfl | rfl | rfl | rfl | rfl | rfl | hp
    · exact ⟨a1.1, a1.2.1, a1.2.2.1, off2 _ (by k_mem)⟩
    · exact ⟨a2.1, a2.2.1, a2.2.2.1, off2 _ (by k_mem)⟩
    · exact ⟨a3.1, a3.2.1, a3.2.2.1, off2 _ (by k_mem)⟩
    · exact ⟨a4.1, a4.2.1, a4.2.2.1, off2 _ (by k_mem)⟩
    · exact ⟨a5.1, a5.2.1, a5.2.2.1, off2 _ (by k_mem)⟩
    · exact ⟨a6.1, a6.2.1, a6.2.2.1, off2 _ (by k_mem)⟩
    · exact hrest p hp
  · rw [List.length_append, hvl]; show 2 * i + 2 = _; (first | lia | omega)
  · intro p hp b hb e
    simp only [List.map_cons, List.mem_cons] at hb
    rcases hb with rfl | rfl | rfl | rfl | rfl | rfl | rfl | rfl | rfl | rfl | rfl | hb
    · exact (i1 p hp).1 e
    · exact (i1 p hp).2.1 e
    · exact a7.2.2.2 p hp e
    · exact (i1 p hp).2.2.1 e
    · exact (i1 p hp).2.2.2 e
    · exact a1.2.2.2 p hp e
    · exact a2.2.2.2 p hp e
    · exact a3.2.2.2 p hp e
    · exact a4.2.2.2 p hp e
    · exact a5.2.2.2 p hp e
    · exact a6.2.2.2 p hp e
    · exact i2 p hp b hb e
  · intro p hp
    simp only [List.mem_cons] at hp
    rcases hp with rfl | rfl | rfl | rfl | rfl | rfl | rfl | rfl | rfl | rfl | rfl | hp
    · exact .tail _ (by k_mem)
    · exact .tail _ (by k_mem)
    · exact .tail _ (by k_mem)
    · exact .tail _ (by k_mem)
    · exact .head _
    · exact .tail _ (by k_mem)
    · exact .tail _ (by k_mem)
    · exact .tail _ (by k_mem)
    · exact .tail _ (by k_mem)
    · exact .tail _ (by k_mem)
    · exact .tail _ (by k_mem)
    · exact .tail _ (.tail _ (.tail _ (.tail _ (.tail _ (.tail _ (.tail _ (.tail _ (.tail _ (.tail _ (.tail _ (List.mem_append.mpr (.inl hp))))))))))))
  · exact fun p hp => .tail _ (.tail _ (.tail _ (.tail _ (.tail _ (.tail _ (.tail _ (.tail _ (.tail _ (.tail _ (.tail _ (List.mem_append.mpr (.inr hp))))))))))))
end Mine
end
section
open PySem PySem.W PySem.Calls PyProof.Rows PyProof.Rows.LCg PyProof.Rows.LCp
set_option maxRecDepth 100000
namespace Mine
section
variable {w : World} {mean : ExcName → Option Value} {mg mb : Str → Option Value} {p : Program} {loose : List Str}
theorem wAre_four {C : List Value → List Int → Prop} {hv : List Value} {H : List Int} (w : WAre hv H) (len : H.length ≤ 3) (k0 : C [] [])
    (k1 : ∀ n1 t1, 0 ≤ n1 → n1 < 2 ^ 24 → C [.bytes (wrt n1) t1] [n1]) (k2 : ∀ n1 t1, 0 ≤ n1 → n1 < 2 ^ 24 → ∀ n2 t2, 0 ≤ n2 → n2 < 2 ^ 24 → C [.bytes (wrt n1) t1, .bytes (wrt n2) t2] [n1, n2])
    (k3 : ∀ n1 t1, 0 ≤ n1 → n1 < 2 ^ 24 → ∀ n2 t2, 0 ≤ n2 → n2 < 2 ^ 24 → ∀ n3 t3, 0 ≤ n3 → n3 < 2 ^ 24 → C [.bytes (wrt n1) t1, .bytes (wrt n2) t2, .bytes (wrt n3) t3] [n1, n2, n3]) : C hv H := by
  cases w with
  | nil => exact k0
  | cons n1 t1 p1 p2 w => cases w with
    | nil => exact k1 n1 t1 p1 p2
    | cons n2 t2 p3 p4 w => cases w with
      | nil => exact k2 n1 t1 p1 p2 n2 t2 p3 p4
      | cons n3 t3 p5 p6 w => cases w with
        | nil => exact k3 n1 t1 p1 p2 n2 t2 p3 p4 n3 t3 p5 p6
        | cons n4 t4 p7 p8 w => exact absurd len (by simp only [List.length_cons]; omega)
/-- the words of the walk -/
theorem words_told1 : True := by
  k_with_none
  k_with "k_room" => ((try simp only [depth_under_make, depth_under_kw, depth_in1, depth_deeper, depth_caller]); (try dsimp only [ktrTop]); first | (refine' room_of ?h 0 rfl ?k; (case h => assumption); (case k => exact rfl)) | (refine' room_of ?h _ (Nat.add_assoc _ _ _) ?k; (case h => assumption); (case k => exact rfl)) | (refine' room_of ?h 1 rfl ?k; (case h => assumption); (case k => exact rfl)) | (refine' room_of ?h _ ((Nat.add_assoc _ _ _).trans (Nat.add_assoc _ _ _)) ?k; (case h => assumption); (case k => exact rfl)) | lia)
  k_with "ktr_room" => (k_room)
  k_with "k_units" => ((try simp only [units_in1, units_deeper, Around.mark_units, units_caller]); (try dsimp only [ktrTop]); first | (refine' room_of ?h _ (Nat.add_assoc _ _ _) ?k; (case h => assumption); (case k => exact rfl)) | (refine' room_of ?h _ ((Nat.add_assoc _ _ _).trans (Nat.add_assoc _ _ _)) ?k; (case h => assumption); (case k => exact rfl)) | (refine' room_of ?h 0 rfl ?k; (case h => assumption); (case k => exact rfl)) | (have hcL9 := cLine_is; lia))
  k_with "k_ne" => (refine neN ?_; (try dsimp only); first | assumption | exact Ne.symm (by assumption) | exact Nat.ne_of_lt (by assumption) | exact Nat.ne_of_gt (by assumption) | ((repeat' (rename _ ∧ _ => h9; obtain ⟨h8, h7⟩ := h9)); first | exact Nat.ne_of_lt (by assumption) | exact Nat.ne_of_gt (by assumption) | assumption | exact Ne.symm (by assumption)) | lia)
  k_with "exec For Name Name cons nil" => (k_here; (rename Fr _ _ _ _ => lF'); (with_unfolding_all refine' For_invVF lF' ?k1 ?k2 ?_; (case k1 => exact rfl); (case k2 => exact rfl); k_whole))
  k_with "k_all" => (assumption)
  k_with "call builtin:list.append" => (k_dflt (refine' append_K ?k1 ?k2 ?k3 ?_ ?z; (case k1 => k_asm); (case k2 => k_asm); (case k3 => k_upd); (case z => (simp only [List.size_toArray, sizeLine_eq]; (first | lia | omega)))); intro _ _ _)
  k_with "my steps" => (repeat' (first | ((fail_if_success (with_reducible show wpAny _ _ (pyIter _) _ _ _)); (fail_if_success (with_reducible show wpAny _ _ (eval (Expr.ListComp _ _ _ _) _) _ _ _)); (fail_if_success (with_reducible show wpAny _ _ (exec (Stmt.If _ _ _ _) _) _ _ _)); (fail_if_success (with_reducible show wpAny _ _ (binaryOp _ (Value.ref _) (Value.ref _)) _ _ _)); (fail_if_success (with_reducible show wpAny _ _ (call (Value.ref _) _ _) _ _ _)); (fail_if_success (with_reducible show CompSrc _ _ _ _ _ _ _ _ _ _ _ _ _ _)); (fail_if_success (with_reducible show CompEnd _ _ _ _ _ _ _ _ _ _ _ _ _ _)); (fail_if_success (with_reducible show InvEndG _ _ _ _ _ _)); (fail_if_success (with_reducible show FinE _ _ _ _ _ _ _)); (fail_if_success (with_reducible show wpAny _ _ (subscriptTail _ _ (Value.ref _) _) _ _ _)); first | (k_unfold; (try dsimp only)) | walk1 | (dsimp only; walk1))))
  k_with "my steps2" => (repeat' (first | ((fail_if_success (with_reducible show wpAny _ _ (pyIter _) _ _ _)); (fail_if_success (with_reducible show wpAny _ _ (eval (Expr.ListComp _ _ _ _) _) _ _ _)); (fail_if_success (with_reducible show IfPost _ _ _ _ _ _ _ _ _ _ _)); (fail_if_success (with_reducible show wpAny _ _ (binaryOp _ (Value.ref _) (Value.ref _)) _ _ _)); (fail_if_success (with_reducible show wpAny _ _ (call (Value.ref _) _ _) _ _ _)); (fail_if_success (with_reducible show CompSrc _ _ _ _ _ _ _ _ _ _ _ _ _ _)); (fail_if_success (with_reducible show CompEnd _ _ _ _ _ _ _ _ _ _ _ _ _ _)); (fail_if_success (with_reducible show InvEndG _ _ _ _ _ _)); (fail_if_success (with_reducible show FinE _ _ _ _ _ _ _)); (fail_if_success (with_reducible show wpAny _ _ (subscriptTail _ _ (Value.ref _) _) _ _ _)); first | (k_unfold; (try dsimp only)) | walk1 | (dsimp only; walk1))))
  trivial
set_option maxHeartbeats 8000000 in
theorem told_does (dp un : Nat) (gd : Option (List Code)) (cn : Str) (cs : Scope) (L2 a : Addr) (ccd : Value) (cl : List (Str × Addr)) (A₀ : Around) (base hL : Heap) (mL : Str → Option Value) (s : Shared) (Q E : Value → Shared → Prop) (lr : Addr) (rvs : List Value) (xs : List Int) (o2 : Obj)
    (hi : IntsAre rvs xs) (hb : ∀ x ∈ xs, 0 ≤ x ∧ x < 2 ^ 24) (hz : xs.length ≤ 40)
    (B : Below A₀ base [] hL) (F : Fr hL L2 s.heap mL) (X : (hd.heap_39 w.params).In hL) (T : Top p loose mean mg mb hL) (hk : cs.kind = .function) (g2 : s.heap.get? L2 = some o2) (hp : s.heap.IsList lr rvs.toArray) (hdp : dp + 30 < recursionLimit) (hun : un + 240 < cLine)
    (ret : ∀ h' tk' l n vs nw its H T sl, Kept [L2] s.heap h' → h'.get? L2 = some { o2 with slots := sl } → h'.get? l = some (listOf (vs : List Value).toArray n) → ItsIn nw vs its → (∀ q ∈ nw, h'.get? q.1 = some q.2) → ToldR xs xs.length its H T → Q (.ref l) { s with heap := h', toks := tk' }) :
    wpAny (model Challenge.rw_pa0040_01.row.prog w) (ktrTop dp un gd cn cs L2 a ccd cl []) (call (.ref 154) [.ref lr]) Q E s := by
  have hd2 : ∃ es ep, o2.data = .dict es ep := by
    obtain ⟨o, es, ep, e, hd, _⟩ := F.ns
    rw [g2] at e; cases e; exact ⟨es, ep, hd⟩
  have hlr : lr ≠ L2 := fun q => by
    obtain ⟨o, e, _, n, hq⟩ := hp
    obtain ⟨es, ep, hd⟩ := hd2
    rw [q, g2] at e; cases e
    rw [hd] at hq; cases hq
  have hL2 : hL.get? L2 = none := by
    cases q : hL.get? L2 with
    | none => rfl
    | some o => exact absurd (Nat.lt_of_lt_of_le (Heap.lt_size q) F.above) (Nat.lt_irrefl _)
  have hbL2 : base.get? L2 = none := by
    cases q : base.get? L2 with
    | none => rfl
    | some o => rw [B.stays _ _ q] at hL2; cases hL2
  have BP : Below (ktrTop dp un gd cn cs L2 a ccd cl []) base [envX cn cs L2 a ccd cl] s.heap := ⟨rfl, fun b o e => F.keep b o (B.stays b o e), by
    refine ⟨by show cs.kind ≠ _; rw [hk]; decide, ⟨L2, o2, rfl, hbL2, g2, fun vs q => ?_⟩, trivial⟩
    obtain ⟨es, ep, hd⟩ := hd2
    rw [hd] at q; cases q⟩
  have X0 := X
  revert X
  k_fill
  intro XL
  refine wpAny_call ?_
  k_dflt (refine' code_defG (binds := [(Str.ofString "row", .ref lr)]) (news := [(L2, o2)]) F.keep XL T ?hn ?k6 ?k7 ?k8 ?k9 ?kB ?_ ?c2 ?c3 ?c4 ?c5; (case hn => (intro q hq; rw [List.mem_singleton.mp hq]; exact ⟨g2, hL2⟩)); (case k6 => k_is); (case k7 => k_is); (case k8 => k_room); (case k9 => exact BindsTo.of_eq rfl); (case c5 => decide); (case kB => exact locs rfl); (case c2 => exact rfl); (case c3 => exact rfl); (case c4 => exact rfl); k_whole)
  intro g L' h₁ hsz0 hsz KG gsub stg F1 N1 hlt XG TG A₁ Q₁ E₁
  have G : Gap s.heap g L2 o2 := ⟨g2, by rw [hsz, hsz0], fun b o e hb => KG b o e (by simpa using hb), gsub, (N1 _ (.head _)).2.2⟩
  try dsimp only
  try k_fold
  have hl1 : g.IsList lr rvs.toArray := let ⟨o, ho, r⟩ := hp; ⟨o, G.up _ _ ho hlr, r⟩
  have q1 := hi.length
  have n0 : L2 < L' := hlt _ (.head _)
  clear hlt
  walk_at "my steps"
  rename_i lH h9 l9 h8 tk1 lT h7 l7 h6 tk2 lC h5 l5 h4 lD h3 l3 h2 N2
  rename Fr _ _ _ _ => F2
  have N2' : News g L' h2 [(lH, listOf #[] 0), (lT, listOf #[] 0), (lC, listOf #[] 0), (lD, listOf #[] 0), (L2, { o2 with slots := o2.slots })] := fun p hp => N2 p (by
    simp only [List.mem_cons, List.not_mem_nil, or_false] at hp ⊢
    rcases hp with q | q | q | q | q
    · exact .inr (.inr (.inr (.inl q)))
    · exact .inr (.inr (.inl q))
    · exact .inr (.inl q)
    · exact .inl q
    · exact .inr (.inr (.inr (.inr q))))
  clear N2
  refine iter_invG (ToldJ lr L2 o2 xs) rfl hl1 hi F2 N2' ⟨lH, lT, lC, lD, 0, 0, 0, 0, [], [], [], [], o2.slots, [], [], [], [], rfl, .nil, .nil, .nil, rfl, Nat.zero_le _, .nil, (fun _ hx => nomatch hx), neN (by (first | lia | omega)), neN (by (first | lia | omega)), neN (by (first | lia | omega)), neN (by (first | lia | omega)), neN (by (first | lia | omega)), neN (by (first | lia | omega)), neN (by (first | lia | omega)), neN (by (first | lia | omega)), neN (by (first | lia | omega)), neN (by (first | lia | omega)), rfl, .zero, fun _ _ => rfl⟩ ?_ ?_
  · rintro i x t m₁ nx h tk own hx hI hoff ⟨Hp, Th, Ca, D, nH, nT, nC, nD, hv, tv, cv, vs, sl, rest, its, H, Tn, rfl, wH, wT, wC, lenH, lenT, hit, hrest, d1, d2, d3, d4, d5, d6, d7, d8, d9, d10, hvl, htr, hm⟩ F3 N3
    replace d1 := neN d1
    replace d2 := neN d2
    replace d3 := neN d3
    replace d4 := neN d4
    replace d5 := neN d5
    replace d6 := neN d6
    replace d7 := neN d7
    replace d8 := neN d8
    replace d9 := neN d9
    replace d10 := neN d10
    have lenH3 : (pushN x H).1.length = min 3 (i + 1) := by rw [pushN_lenE x (by (first | lia | omega)), lenH]; (first | lia | omega)
    have i2 : ∀ p ∈ own, ∀ b ∈ rest.map (·.1), p.1 ≠ b := fun p hp b hb => hoff p hp b (by simp only [List.map_cons, List.mem_cons]; exact .inr (.inr (.inr (.inr (.inr hb)))))
    have lhv := wH.length
    have ltv := wT.length
    have lcv := wC.length
    have lct : (xs.take i).length ≤ 40 := by rw [List.length_take]; (first | lia | omega)
    have F4 := fr_eq F3 (told_map hm)
    have xb := hb x (List.mem_of_getElem? hx)
    have hil : i < xs.length := (List.getElem?_eq_some_iff.mp hx).1
    have htr2 := htr.succ hx
    clear F3 F2 N2'
    dsimp only [List.cons_append] at N3
    unfold toldM at F4
    change Fr g L' h _ at F4
    change News g L' h _ at N3
    have i1 : ∀ p ∈ own, p.1 ≠ Hp ∧ p.1 ≠ Th ∧ p.1 ≠ D ∧ p.1 ≠ L2 := fun p hp => ⟨hoff p hp _ (by simp), hoff p hp _ (by simp), hoff p hp _ (by simp), hoff p hp _ (by simp)⟩
    have hL2h := (N3 (L2, { o2 with slots := sl }) (.tail _ (.tail _ (.tail _ (.tail _ (.head _)))))).1
    have F5 := G.fr_up F4 hL2h
    have N5 : News (hUp s.heap L2 sl) L' h ((Hp, listOf hv.toArray nH) :: (Th, listOf tv.toArray nT) :: (Ca, listOf cv.toArray nC) :: (D, listOf vs.toArray nD) :: (rest ++ own)) := G.news_up (fun p hp => N3 p (by
      simp only [List.mem_cons] at hp ⊢
      rcases hp with q | q | q | q | q
      · exact .inl q
      · exact .inr (.inl q)
      · exact .inr (.inr (.inl q))
      · exact .inr (.inr (.inr (.inl q)))
      · exact .inr (.inr (.inr (.inr (.inr q)))))) (fun p hp => by
      simp only [List.mem_cons, List.mem_append] at hp
      rcases hp with rfl | rfl | rfl | rfl | q | q
      · exact d4
      · exact d7
      · exact d9
      · exact d10
      · exact (hrest p q).2.2.2
      · exact (i1 p q).2.2.2)
    have oro : ∀ p ∈ rest ++ own, p.1 ≠ Hp ∧ p.1 ≠ Th ∧ p.1 ≠ D := fun p hp => (List.mem_append.mp hp).elim (fun q => ⟨(hrest p q).1, (hrest p q).2.1, (hrest p q).2.2.1⟩) fun q => ⟨(i1 p q).1, (i1 p q).2.1, (i1 p q).2.2.1⟩
    generalize hro : rest ++ own = ro at N5 oro
    clear N3 F4
    have B5 := below_up (sl := sl) BP g2 hbL2
    have st5 := fun (sl : Array (Option Value)) => stays_up (sl := sl) (L2 := L2) F.keep F.above
    have X5 : (hd.heap_39 w.params).In (hUp s.heap L2 sl) := XL.keeps (st5 sl)
    revert X5
    k_fill
    intro X5
    have T5 := T.keeps (st5 sl)
    clear XG TG
    walk_at "my steps"
    k_dflt (refine' gives_use (octets_gives _ _ ?q1 ?q2) ?k1 ?k2 ?k3 ?k4 ?k5 ?kK ?kd ?ku ?_; (case k1 => k_asm); (case k2 => k_asm); (case k3 => k_asm); (case k4 => k_asm); (case k5 => k_asm); (case kK => exact rfl); (case q1 => exact xb.1); (case q2 => exact xb.2); (case kd => k_room); (case ku => k_units))
    intro ta h6 tk6 F6 N6
    clear F5 N5
    walk_at "my steps"
    k_dflt (refine' gives_use (enc_gives x _ ?q1 ?q2) ?k1 ?k2 ?k3 ?k4 ?k5 ?kK ?kd ?ku ?_; (case k1 => k_asm); (case k2 => k_asm); (case k3 => k_asm); (case k4 => k_asm); (case k5 => k_asm); (case kK => exact rfl); (case q1 => exact xb.1); (case q2 => exact xb.2); (case kd => k_room); (case ku => k_units))
    intro tw h7 tk7 F7 N7
    clear F6 N6
    walk_at "my steps"
    k_dflt (refine' slice_all ?F ?N ?l ?_ ?s ?t ?z; (case F => k_asm); (case N => k_asm); (case l => kmk_list); (case s => with_unfolding_all rfl); (case t => kmk_pure); (case z => (first | lia | omega)))
    intro Bf h8 F8 N8 l8
    try clear F7 N7
    replace l8 := allLt_of l8
    simp only [AllLt] at l8
    walk_at "my steps"
    k_dflt (refine' add_listsL ?F ?N ?l ?b ?z ?_; (case F => k_asm); (case N => k_asm); (case l => kmk_list); (case b => kmk_list); (case z => (simp only [List.length_cons, List.length_nil]; (first | lia | omega))))
    intro Ca2 h9 F9 N9 l9
    replace l9 := allLt_of l9
    simp only [AllLt] at l9
    walk_at "my steps"
    rename_i k8 k8t k9 lw k10 lw1 k11 F10 N10
    refine and6 l9.2 ?_
    intro z1 z2 z3 z4 z5 z6
    replace z6 := allLt_mem z6
    have N11 := news_three (l' := (Ca2, W.listOf (cv ++ [Value.bytes (wrt x) tw]).toArray 0) :: (Bf, W.listOf hv.toArray 0) :: (D, W.listOf vs.toArray nD) :: ro) (a := (Hp, W.listOf hv.toArray nH)) (b := (Th, W.listOf tv.toArray nT)) N10 (.tail _ (.tail _ (.tail _ (.head _)))) (.tail _ (.tail _ (.tail _ (.tail _ (.head _))))) (fun p hp => by
      simp only [List.mem_cons] at hp ⊢
      rcases hp with q | q | q | q
      · exact .inl q
      · exact .inr (.inr (.inl q))
      · exact .inr (.inr (.inr (.inr (.inr (.inr (.inl q))))))
      · exact .inr (.inr (.inr (.inr (.inr (.inr (.inr q)))))))
    clear N10
    refine join_if (Hp := Hp) (Th := Th) (H := (pushN x H).1) (T := Tn ++ (pushN x H).2) (oth := (Ca2, W.listOf (cv ++ [Value.bytes (wrt x) tw]).toArray 0) :: (Bf, W.listOf hv.toArray 0) :: (D, W.listOf vs.toArray nD) :: ro) F10 ?_ ?_
    · clear htr2 hit
      have b8 := l8
      have oth1 : ∀ p ∈ (Th, W.listOf tv.toArray nT) :: (Ca2, W.listOf (cv ++ [Value.bytes (wrt x) tw]).toArray 0) :: (Bf, W.listOf hv.toArray 0) :: (D, W.listOf vs.toArray nD) :: ro, p.1 ∉ [Hp] := fun p hp q => by
        have q' := List.mem_singleton.mp q
        simp only [List.mem_cons] at hp
        rcases hp with rfl | rfl | rfl | rfl | hp
        · exact d1 q'.symm
        · exact Nat.ne_of_gt z2 q'
        · exact Nat.ne_of_gt b8.1 q'
        · exact d3 q'.symm
        · exact (oro p hp).1 q'
      have oth2 : ∀ p ∈ (Ca2, W.listOf (cv ++ [Value.bytes (wrt x) tw]).toArray 0) :: (Bf, W.listOf hv.toArray 0) :: (D, W.listOf vs.toArray nD) :: ro, p.1 ≠ Th := fun p hp q' => by
        simp only [List.mem_cons] at hp
        rcases hp with rfl | rfl | rfl | hp
        · exact Nat.ne_of_gt z3 q'
        · exact Nat.ne_of_gt b8.2.1 q'
        · exact d6 q'.symm
        · exact (oro p hp).2.1 q'
      have len3 : H.length ≤ 3 := by (first | lia | omega)
      revert N11 oth1 oth2
      apply wAre_four wH len3
      · intro N11 oth1 oth2
        walk_at "my steps2"
        k_dflt (refine' does_use (muts := [(Hp, _)]) (push0_does Hp nH (wrt x) tw) ?k1 ?k2 ?k3 ?k4 ?k5 ?kK ?kd ?ku ?kp ?_; (case k1 => k_asm); (case k2 => k_asm); (case k3 => k_asm); (case k4 => exact fun q hq => (List.mem_singleton.mp hq).symm ▸ N11 _ (.head _)); (case k5 => k_asm); (case kK => exact rfl); (case kp => trivial); (case kd => k_room); (case ku => k_units))
        refine fun v13 h13 tk13 K13 F13 hh => ex_k hh ?_
        clear hh
        intro n13 g13
        have N13 := upd_kept N11 K13 g13 oth1
        clear N11 F10
        walk_at "my steps2"
        exact ⟨rfl, _, _, n13, nT, [_], tv, rfl, F13, N13, .cons _ _ xb.1 xb.2 .nil, by rw [pushN, List.append_nil]; exact wT⟩
      · intro n1 t1 p1 p2 N11 oth1 oth2
        walk_at "my steps2"
        k_dflt (refine' does_use (muts := [(Hp, _)]) (push1_does Hp nH (wrt n1) (wrt x) t1 tw) ?k1 ?k2 ?k3 ?k4 ?k5 ?kK ?kd ?ku ?kp ?_; (case k1 => k_asm); (case k2 => k_asm); (case k3 => k_asm); (case k4 => exact fun q hq => (List.mem_singleton.mp hq).symm ▸ N11 _ (.head _)); (case k5 => k_asm); (case kK => exact rfl); (case kp => trivial); (case kd => k_room); (case ku => k_units))
        refine fun v13 h13 tk13 K13 F13 hh => ex_k hh ?_
        clear hh
        intro n13 g13
        refine ex_and (push1_w tw t1 xb.1 xb.2 p1 p2) ?_
        intro hv13 e13 w13
        rw [e13] at g13
        have N13 := upd_kept N11 K13 g13 oth1
        clear N11 F10
        walk_at "my steps2"
        exact ⟨rfl, _, _, n13, nT, hv13, tv, rfl, F13, N13, w13, by rw [pushN, List.append_nil]; exact wT⟩
      · intro n1 t1 p1 p2 n2 t2 p3 p4 N11 oth1 oth2
        walk_at "my steps2"
        k_dflt (refine' does_use (muts := [(Hp, _)]) (push2_does Hp nH (wrt n1) (wrt n2) (wrt x) t1 t2 tw) ?k1 ?k2 ?k3 ?k4 ?k5 ?kK ?kd ?ku ?kp ?_; (case k1 => k_asm); (case k2 => k_asm); (case k3 => k_asm); (case k4 => exact fun q hq => (List.mem_singleton.mp hq).symm ▸ N11 _ (.head _)); (case k5 => k_asm); (case kK => exact rfl); (case kp => trivial); (case kd => k_room); (case ku => k_units))
        refine fun v13 h13 tk13 K13 F13 hh => ex_k hh ?_
        clear hh
        intro n13 g13
        refine ex_and (push2_w tw t1 t2 xb.1 xb.2 p1 p2 p3 p4) ?_
        intro hv13 e13 w13
        rw [e13] at g13
        have N13 := upd_kept N11 K13 g13 oth1
        clear N11 F10
        walk_at "my steps2"
        exact ⟨rfl, _, _, n13, nT, hv13, tv, rfl, F13, N13, w13, by rw [pushN, List.append_nil]; exact wT⟩
      · intro n1 t1 p1 p2 n2 t2 p3 p4 n3 t3 p5 p6 N11 oth1 oth2
        walk_at "my steps2"
        k_dflt (refine' does_use (muts := [(Hp, _)]) (pop3_does Hp nH (wrt n1) (wrt n2) (wrt n3) (wrt x) t1 t2 t3 tw) ?k1 ?k2 ?k3 ?k4 ?k5 ?kK ?kd ?ku ?kp ?_; (case k1 => k_asm); (case k2 => k_asm); (case k3 => k_asm); (case k4 => exact fun q hq => (List.mem_singleton.mp hq).symm ▸ N11 _ (.head _)); (case k5 => k_asm); (case kK => exact rfl); (case kp => trivial); (case kd => k_room); (case ku => k_units))
        refine fun v13 h13 tk13 K13 F13 hh => and_k hh fun ev hi => ex_k hi ?_
        clear hh hi
        intro n13 g13
        refine and_k (pop3_w tw t1 t2 t3 xb.1 xb.2 p1 p2 p3 p4 p5 p6) fun hp3 wo => ex_and hp3 ?_
        clear hp3
        intro hv13 e13 w13
        rw [e13] at g13
        rw [← ev] at wo
        clear ev
        have N13 := upd_kept N11 K13 g13 oth1
        clear N11 F10
        walk_at "my steps2"
        rename_i h14 F14 N14
        try simp only [List.push_toArray] at N14
        exact ⟨rfl, _, _, n13, nT + 1, hv13, tv ++ [v13], rfl, F14, N14, w13, wT.append wo⟩
    · intro h12 tk12 nH2 nT2 hv2 tv2 F12 N12 w1 w2
      have lw1 := w1.length
      have lw2 := w2.length
      have lenH2 : (pushN x H).1.length ≤ 3 ∧ 1 ≤ (pushN x H).1.length := pushN_len x (by (first | lia | omega))
      have lenT2 : (Tn ++ (pushN x H).2).length ≤ i + 1 := by
        have := pushN_len2 x H
        rw [List.length_append]; (first | lia | omega)
      clear N11 F10
      walk_at "my steps"
      k_dflt (refine' slice_all ?F ?N ?l ?_ ?s ?t ?z; (case F => k_asm); (case N => k_asm); (case l => kmk_list); (case s => with_unfolding_all rfl); (case t => kmk_pure); (case z => (first | lia | omega)))
      intro Hc h15 F15 N15 l15
      replace l15 := allLt_of l15
      simp only [AllLt] at l15
      refine and6 l15 ?_
      clear l15
      intro c1 c2 c3 c4 c5 c6
      have b8 := l8
      clear N12
      walk_at "my steps"
      k_dflt (refine' uld_use (X := hv) (Y := hv2) (nx := 0) (ny := 0) (rest := (Hp, W.listOf hv2.toArray nH2) :: (Th, W.listOf tv2.toArray nT2) :: (Ca2, W.listOf (cv ++ [Value.bytes (wrt x) tw]).toArray 0) :: (D, W.listOf vs.toArray nD) :: ro) ?u1 ?u2 ?u3 hd2 F.keep F.above X0 T G F15 N15 ?m1 (.head _) ?ne ?hr wH.allB w1.allB ?z1 ?z2 ?kd ?ku ?_; (case u1 => decide); (case u2 => (show cs.kind ≠ _; rw [hk]; decide)); (case u3 => exact rfl); (case m1 => exact .tail _ (.tail _ (.tail _ (.tail _ (.head _))))); (case ne => exact Nat.ne_of_lt c4); (case z1 => (first | lia | omega)); (case z2 => (first | lia | omega)); (case kd => k_room); (case ku => k_units))
      · intro p hp
        simp only [List.mem_cons] at hp ⊢
        rcases hp with rfl | rfl | rfl | rfl | q
        · exact ⟨.inr (.inl rfl), Nat.ne_of_lt b8.1, Nat.ne_of_lt c1⟩
        · exact ⟨.inr (.inr (.inl rfl)), Nat.ne_of_lt b8.2.1, Nat.ne_of_lt c2⟩
        · exact ⟨.inr (.inr (.inr (.inl rfl))), Nat.ne_of_gt z1, Nat.ne_of_lt c3⟩
        · exact ⟨.inr (.inr (.inr (.inr (.inr (.inl rfl))))), Nat.ne_of_lt b8.2.2.2.1, Nat.ne_of_lt c5⟩
        · exact ⟨.inr (.inr (.inr (.inr (.inr (.inr q))))), Nat.ne_of_lt (allLt_mem b8.2.2.2.2 p q), Nat.ne_of_lt (allLt_mem c6 p q)⟩
      · intro h16 tk16 tp gl k1 k2 sl2 F16 N16 o16 tg
        clear F15 N15 B5 X5 T5
        have B6 := below_up (sl := sl2) BP g2 hbL2
        have X6 := XL.keeps (st5 sl2)
        have T6 := T.keeps (st5 sl2)
        refine and_k (uld_wrt wH.reverse w1 .nil) ?_
        intro wg wn
        have ul := uldN_len H.reverse (pushN x H).1 []
        rw [List.length_reverse, List.length_nil] at ul
        have lg1 := wg.length
        have lg2 := wn.length
        have og1 : gl ≠ D := Ne.symm (o16 (D, W.listOf vs.toArray nD) (.tail _ (.tail _ (.tail _ (.tail _ (.tail _ (.head _))))))).2
        have og2 : tp ≠ D := Ne.symm (o16 (D, W.listOf vs.toArray nD) (.tail _ (.tail _ (.tail _ (.tail _ (.tail _ (.head _))))))).1
        have og3 : ∀ p ∈ ro, p.1 ≠ gl := fun p hp => (o16 p (.tail _ (.tail _ (.tail _ (.tail _ (.tail _ (.tail _ hp))))))).2
        have N17 : News (hUp s.heap L2 sl2) L' h16 ((tp, { cls := Value.type "tuple", data := Data.seq #[Value.ref gl, Value.ref Hc] }) :: (gl, W.listOf (uldR hv.reverse hv2 []).1.toArray k1) :: (Hc, W.listOf (uldR hv.reverse hv2 []).2.toArray k2) :: (Hp, W.listOf hv2.toArray nH2) :: (Th, W.listOf tv2.toArray nT2) :: (Ca2, W.listOf (cv ++ [Value.bytes (wrt x) tw]).toArray 0) :: (D, W.listOf vs.toArray nD) :: ro) := N16
        clear N16
        generalize (uldR hv.reverse hv2 []).1 = gv at wg lg1 N17
        generalize (uldR hv.reverse hv2 []).2 = nv at wn lg2 N17
        walk_at "my steps"
        rename_i k17a k17b k17c F18 N18
        have N19 := news_sub N18 (l' := (gl, W.listOf gv.toArray k1) :: (Hc, W.listOf nv.toArray k2) :: (Hp, W.listOf hv2.toArray nH2) :: (Th, W.listOf tv2.toArray nT2) :: (Ca2, W.listOf (cv ++ [Value.bytes (wrt x) tw]).toArray 0) :: (D, W.listOf vs.toArray nD) :: ro) (fun p hp => .tail _ hp)
        clear N18
        refine ex_k (w1.get 0 _ (head_get lenH2.2)) ?_
        intro t0 ht0
        have hb0 := w1.range _ (List.mem_of_getElem? (head_get lenH2.2))
        generalize hn0 : (pushN x H).1.headD 0 = n0 at ht0 hb0
        k_dflt (refine' item_at (v := .bytes (wrt n0) t0) ?l ?h0 ?h1 ?hx ?_ ?hs; (case l => exact News.isList N19 (.tail _ (.tail _ (.head _)))); (case h0 => decide); (case h1 => decide); (case hx => exact ht0); (case hs => with_unfolding_all rfl))
        walk_at "my steps"
        k_dflt (refine' gives_use (dec_gives n0 _ ?q1 ?q2) ?k1 ?k2 ?k3 ?k4 ?k5 ?kK ?kd ?ku ?_; (case k1 => k_asm); (case k2 => k_asm); (case k3 => k_asm); (case k4 => k_asm); (case k5 => k_asm); (case kK => exact rfl); (case q1 => exact hb0.1); (case q2 => exact hb0.2); (case kd => k_room); (case ku => k_units))
        intro td h20 tk20 F20 N20
        clear N19
        walk_at "my steps"
        refine LCg.ListComp_U (F₀ := by k_asm) (by rfl) (by decide) (by rfl) (by decide) (by rfl) ?_
        walk_at "my steps"
        refine LCg.CompSrc.ledger (by rfl) F20 N20 (.head _) (by rw [List.size_toArray, sizeLine_eq]; (first | lia | omega)) ?_
        intro g3
        refine comp_pure (fun j ys => BAre ys (((uldN H.reverse (pushN x H).1 []).1.take j).map octs)) (uldN H.reverse (pushN x H).1 []).1.length (by rw [List.size_toArray]; (first | lia | omega)) ?_ ?_ .nil
        · rintro j ys nw v I oI C oC Dc m₂ h40 tk40 E40 hj hsub hJ hv hC hx40 F40 N40 off40
          refine ex_k (⟨_, List.getElem?_eq_getElem hj⟩ : ∃ n, (uldN H.reverse (pushN x H).1 []).1[j]? = some n) ?_
          intro n hn
          refine ex_k (wg.get j n hn) ?_
          intro tn hvn
          have hnb := wg.range n (List.mem_of_getElem? hn)
          have hv2' : v = .bytes (wrt n) tn := by
            have : gv[j]? = some v := by simpa using hv
            rw [hvn] at this; exact (Option.some.inj this).symm
          subst hv2'
          walk_at "my steps"
          k_dflt (refine' gives_use (dec_gives n _ ?q1 ?q2) ?k1 ?k2 ?k3 ?k4 ?k5 ?kK ?kd ?ku ?_; (case k1 => k_asm); (case k2 => k_asm); (case k3 => k_asm); (case k4 => k_asm); (case k5 => k_asm); (case kK => exact rfl); (case q1 => exact hnb.1); (case q2 => exact hnb.2); (case kd => k_room); (case ku => k_units))
          intro t41 h41 tk41 F41 N41
          walk_at "my steps"
          try k_unfold
          refine CompEnd.intro F41 N41 nw (fun p hp => hp) off40 (.inr ⟨_, hsub _ (.head _), rfl, _, rfl⟩) ⟨hsub, ?_⟩
          rw [map_take_succ hn]
          exact hJ.append (.one _ _)
        intro gy nw hsub hJ
        rw [List.take_length] at hJ
        intro Gd h42 tk42 F21 N42 o42
        have o21 := fun p hp => off1_mem o42 p (hsub p hp)
        have N21 := news_sub N42 (l' := (Gd, lst gy) :: _) (List.forall_mem_cons.mpr ⟨.head _, fun p hp => .tail _ (hsub p hp)⟩)
        have argy := hJ
        try clear N42 o42 hsub hJ N20 F20
        walk_at "my steps"
        refine LCg.ListComp_U (F₀ := by k_asm) (by rfl) (by decide) (by rfl) (by decide) (by rfl) ?_
        walk_at "my steps"
        refine LCg.CompSrc.ledger (by rfl) F21 N21 (.tail _ (.tail _ (.head _))) (by rw [List.size_toArray, sizeLine_eq]; (first | lia | omega)) ?_
        intro g4
        refine comp_pure (fun j ys => BAre ys (((uldN H.reverse (pushN x H).1 []).2.take j).map octs)) (uldN H.reverse (pushN x H).1 []).2.length (by rw [List.size_toArray]; (first | lia | omega)) ?_ ?_ .nil
        · rintro j ys nw v I oI C oC Dc m₂ h40 tk40 E40 hj hsub hJ hv hC hx40 F40 N40 off40
          refine ex_k (⟨_, List.getElem?_eq_getElem hj⟩ : ∃ n, (uldN H.reverse (pushN x H).1 []).2[j]? = some n) ?_
          intro n hn
          refine ex_k (wn.get j n hn) ?_
          intro tn hvn
          have hnb := wn.range n (List.mem_of_getElem? hn)
          have hv2' : v = .bytes (wrt n) tn := by
            have : nv[j]? = some v := by simpa using hv
            rw [hvn] at this; exact (Option.some.inj this).symm
          subst hv2'
          walk_at "my steps"
          k_dflt (refine' gives_use (dec_gives n _ ?q1 ?q2) ?k1 ?k2 ?k3 ?k4 ?k5 ?kK ?kd ?ku ?_; (case k1 => k_asm); (case k2 => k_asm); (case k3 => k_asm); (case k4 => k_asm); (case k5 => k_asm); (case kK => exact rfl); (case q1 => exact hnb.1); (case q2 => exact hnb.2); (case kd => k_room); (case ku => k_units))
          intro t41 h41 tk41 F41 N41
          walk_at "my steps"
          try k_unfold
          refine CompEnd.intro F41 N41 nw (fun p hp => hp) off40 (.inr ⟨_, hsub _ (.tail _ (.tail _ (.head _))), rfl, _, rfl⟩) ⟨hsub, ?_⟩
          rw [map_take_succ hn]
          exact hJ.append (.one _ _)
        intro ny nw hsub hJ
        rw [List.take_length] at hJ
        intro Nd h42 tk42 F22 N42 o42
        have o22 := fun p hp => off1_mem o42 p (hsub p hp)
        have N22 := news_sub N42 (l' := (Nd, lst ny) :: _) (List.forall_mem_cons.mpr ⟨.head _, fun p hp => .tail _ (hsub p hp)⟩)
        have arny := hJ
        try clear N42 o42 hsub hJ N21 F21
        have e1 : Nd ≠ D := neN (Ne.symm (o22 (D, W.listOf vs.toArray nD) (by k_mem)))
        have e2 : Gd ≠ D := neN (Ne.symm (o21 (D, W.listOf vs.toArray nD) (by k_mem)))
        replace og1 := neN og1
        have orD : ∀ p ∈ ro, p.1 ≠ D := fun p hp => (oro p hp).2.2
        walk_at "my steps"
        rename_i T1 k43 F43 N43 l43 k44 F44 N44
        simp only [List.push_toArray] at N44
        refine and9 l43 ?_
        clear l43
        intro y1 y2 y3 y4 y5 y6 y7 y8 y9
        replace y9 := allLt_mem y9
        have N45 := news_sub N44 (l' := (Hp, W.listOf hv2.toArray nH2) :: (Th, W.listOf tv2.toArray nT2) :: (Ca2, W.listOf (cv ++ [Value.bytes (wrt x) tw]).toArray 0) :: (T1, { cls := Value.type "tuple", data := Data.seq #[Value.bytes (octs n0) td, Value.ref Gd, Value.ref Nd] }) :: (Nd, lst ny) :: (Gd, lst gy) :: (D, W.listOf (vs ++ [Value.ref T1]).toArray (nD + 1)) :: ro) (fun p hp => by
          simp only [List.mem_cons] at hp ⊢
          rcases hp with q | q | q | q | q | q | q | q
          · exact .inr (.inr (.inr (.inr (.inr (.inl q)))))
          · exact .inr (.inr (.inr (.inr (.inr (.inr (.inl q))))))
          · exact .inr (.inr (.inr (.inr (.inr (.inr (.inr (.inl q)))))))
          · exact .inl q
          · exact .inr (.inl q)
          · exact .inr (.inr (.inl q))
          · exact .inr (.inr (.inr (.inr (.inr (.inr (.inr (.inr (.inl q))))))))
          · exact .inr (.inr (.inr (.inr (.inr (.inr (.inr (.inr (.inr q)))))))))
        clear N44 N43 F43
        k_dflt (refine slice_all F44 N45 (News.isList N45 (by k_mem)) ?_ (by with_unfolding_all rfl) (by kmk_pure) (by simp only [List.length_append, List.length_cons, List.length_nil]; (first | lia | omega)))
        intro Cc h46 F46 N46 l46
        clear N45
        walk_at "my steps"
        k_dflt (refine add_listsL F46 N46 (News.isList N46 (by k_mem)) (News.isList N46 (by k_mem)) (by (first | lia | omega)) ?_)
        intro Hs h47 F47 N47 l47
        clear N46
        walk_at "my steps"
        have hcw : WAre (cv ++ [Value.bytes (wrt x) tw]) (xs.take (i + 1)) := by
          rw [List.take_add_one, hx]; exact wC.append (.cons x tw xb.1 xb.2 .nil)
        have lcw := hcw.length
        rw [List.length_take] at lcw
        have htw := w1.append w2
        have ltw := htw.length
        rw [List.length_append] at ltw
        k_dflt (refine' uld_use (X := cv ++ [Value.bytes (wrt x) tw]) (Y := hv2 ++ tv2) (nx := 0) (ny := 0) (rest := (Hp, W.listOf hv2.toArray nH2) :: (Th, W.listOf tv2.toArray nT2) :: (Ca2, W.listOf (cv ++ [Value.bytes (wrt x) tw]).toArray 0) :: (T1, { cls := Value.type "tuple", data := Data.seq #[Value.bytes (octs n0) td, Value.ref Gd, Value.ref Nd] }) :: (Nd, lst ny) :: (Gd, lst gy) :: (D, W.listOf (vs ++ [Value.ref T1]).toArray (nD + 1)) :: ro) ?v1 ?v2 ?v3 hd2 F.keep F.above X0 T G F47 N47 (.tail _ (.head _)) (.head _) (Nat.ne_of_lt (l47 _ (.head _))) (fun p hp => ⟨.tail _ (.tail _ hp), Nat.ne_of_lt (l46 p hp), Nat.ne_of_lt (l47 p (.tail _ hp))⟩) hcw.allB htw.allB ?v4 ?v5 ?v6 ?v7 ?_; (case v1 => decide); (case v2 => (show cs.kind ≠ _; rw [hk]; decide)); (case v3 => exact rfl); (case v4 => (first | lia | omega)); (case v5 => (rw [List.length_append] at ltw ⊢; (first | lia | omega))); (case v6 => k_room); (case v7 => k_units))
        intro h48 tk48 t2 ml k3 k4 sl3 F48 N48 o48 tm
        clear F47 N47 B6 X6 T6
        have B7 := below_up (sl := sl3) BP g2 hbL2
        have X7 := XL.keeps (st5 sl3)
        have T7 := T.keeps (st5 sl3)
        refine and_k (uld_wrt hcw.reverse htw .nil) ?_
        intro wm wa
        generalize (uldR (cv ++ [Value.bytes (wrt x) tw]).reverse (hv2 ++ tv2) []).1 = mv at wm N48
        generalize (uldR (cv ++ [Value.bytes (wrt x) tw]).reverse (hv2 ++ tv2) []).2 = av at wa N48
        have o49 := fun p hp => o48 p (.tail _ (.tail _ hp))
        have l49 := fun p hp => l47 p (.tail _ hp)
        replace e1 := neN e1
        replace e2 := neN e2
        have e3 : t2 ≠ D := neN (Ne.symm (o49 (D, W.listOf (vs ++ [Value.ref T1]).toArray (nD + 1)) (by k_mem)).1)
        have e4 : ml ≠ D := neN (Ne.symm (o49 (D, W.listOf (vs ++ [Value.ref T1]).toArray (nD + 1)) (by k_mem)).2)
        have e5 : Hs ≠ D := neN (Nat.ne_of_gt (l49 (D, W.listOf (vs ++ [Value.ref T1]).toArray (nD + 1)) (by k_mem)))
        replace e3 := neN e3
        replace e4 := neN e4
        replace e5 := neN e5
        have hvl2 : (vs ++ [Value.ref T1]).length = 2 * i + 1 := by rw [List.length_append, hvl]; rfl
        walk_at "my steps"
        rename_i k50 F50 N50
        simp only [List.push_toArray, List.append_assoc, List.cons_append, List.nil_append] at N50
        subst hro
        rw [hn0] at htr2
        have inr : ∀ p ∈ own, p ∈ rest ++ own := fun p hp => List.mem_append.mpr (.inr hp)
        refine told_end G F50 N50 w1 w2 hcw argy arny wm wa lenH3 lenT2 hit hvl htr2 hrest i1 i2 d1 d3 d6 ?_ ?_ ?_ ?_ ?_ ?_ ?_ ?_
        · exact ⟨Nat.ne_of_gt y5, Nat.ne_of_gt y6, Nat.ne_of_gt y8, fun p hp => Nat.ne_of_lt (y9 p (inr p hp))⟩
        · exact ⟨Ne.symm (o22 (Hp, W.listOf hv2.toArray nH2) (by k_mem)), Ne.symm (o22 (Th, W.listOf tv2.toArray nT2) (by k_mem)), e1, fun p hp => o22 p (.tail _ (.tail _ (.tail _ (.tail _ (.tail _ (.tail _ (.tail _ (inr p hp))))))))⟩
        · exact ⟨Ne.symm (o21 (Hp, W.listOf hv2.toArray nH2) (by k_mem)), Ne.symm (o21 (Th, W.listOf tv2.toArray nT2) (by k_mem)), e2, fun p hp => o21 p (.tail _ (.tail _ (.tail _ (.tail _ (.tail _ (.tail _ (inr p hp)))))))⟩
        · exact ⟨Ne.symm (o49 (Hp, W.listOf hv2.toArray nH2) (by k_mem)).1, Ne.symm (o49 (Th, W.listOf tv2.toArray nT2) (by k_mem)).1, e3, fun p hp => (o49 p (.tail _ (.tail _ (.tail _ (.tail _ (.tail _ (.tail _ (.tail _ (inr p hp))))))))).1⟩
        · exact ⟨Ne.symm (o49 (Hp, W.listOf hv2.toArray nH2) (by k_mem)).2, Ne.symm (o49 (Th, W.listOf tv2.toArray nT2) (by k_mem)).2, e4, fun p hp => (o49 p (.tail _ (.tail _ (.tail _ (.tail _ (.tail _ (.tail _ (.tail _ (inr p hp))))))))).2⟩
        · exact ⟨Nat.ne_of_gt (l49 (Hp, W.listOf hv2.toArray nH2) (by k_mem)), Nat.ne_of_gt (l49 (Th, W.listOf tv2.toArray nT2) (by k_mem)), e5, fun p hp => Nat.ne_of_lt (l49 p (.tail _ (.tail _ (.tail _ (.tail _ (.tail _ (.tail _ (.tail _ (inr p hp)))))))))⟩
        · exact ⟨Nat.ne_of_gt z2, Nat.ne_of_gt z3, Nat.ne_of_gt z5, fun p hp => Nat.ne_of_lt (z6 p (inr p hp))⟩
        · intro z hz
          unfold tmpN at hz
          simp only [List.mem_cons, List.not_mem_nil, or_false, not_or] at hz
          obtain ⟨a1, a2, a3, a4, a5⟩ := hz
          by_cases b1 : z = Str.ofString "told"
          · subst b1; rfl
          by_cases b2 : z = Str.ofString "came"
          · subst b2; rfl
          unfold toldM
          simp only [a1, a2, a3, a4, a5, b1, b2, if_false]
  · rintro m₁ nx h tk ⟨Hp, Th, Ca, D, nH, nT, nC, nD, hv, tv, cv, vs, sl, rest, its, H, Tn, rfl, wH, wT, wC, lenH, lenT, hit, hrest, -, -, -, -, -, -, -, -, -, -, hvl, htr, hm⟩ F3 N3
    have F4 := fr_eq F3 (m' := fun y => if y = Str.ofString "x" then m₁ y else if y = Str.ofString "writing" then m₁ y else if y = Str.ofString "before" then m₁ y else if y = Str.ofString "gone" then m₁ y else if y = Str.ofString "new" then m₁ y else toldM lr D Ca Th Hp y) (fun y => by
      have := told_map (v := m₁ y) hm y
      by_cases e : y = Str.ofString "x"
      · simp [e]
      · rw [if_neg e] at this; exact this)
    clear F3 F2
    unfold toldM at F4
    change Fr g L' h _ at F4
    change News g L' h _ at N3
    walk_at "my steps"
    exact ret h _ D nD vs rest its H Tn sl (fun b o e hn => F4.keep b o (G.up b o e (by simpa using hn))) (N3 (L2, _) (.tail _ (.tail _ (.tail _ (.tail _ (.head _)))))).1 (N3 (D, _) (.tail _ (.tail _ (.tail _ (.head _))))).1 hit (fun q hq => (N3 q (.tail _ (.tail _ (.tail _ (.tail _ (.tail _ hq)))))).1) htr
end
end Mine
end
section
open PySem PySem.W PySem.Calls PyProof.Rows
namespace Mine
/-- a list's numbers are in bounds -/
def InB (l : List Int) : Prop := ∀ x ∈ l, 0 ≤ x ∧ x < 2 ^ 24
theorem InB.perm {l l' : List Int} (h : InB l) (p : l'.Perm l) : InB l' := fun x hx => h x (p.mem_iff.mp hx)
theorem key_eq {a b : Int} (ha : 0 ≤ a ∧ a < 2 ^ 24) (hb : 0 ≤ b ∧ b < 2 ^ 24) (h1 : key a ≤ key b) (h2 : key b ≤ key a) : a = b :=
  key_inj ha.1 ha.2 hb.1 hb.2 (by (first | lia | omega))
theorem sub_help {a b : Nat} (h : 0 < b) : a - (b - 1) = a + 1 - b := by
  cases b with
  | zero => cases h
  | succ k => exact (Nat.add_sub_add_right a 1 k).symm
theorem sub_help2 (a b : Nat) : b - 1 - a = b - (a + 1) := by rw [Nat.sub_sub, Nat.add_comm 1 a]
theorem count_lessF (z : Int) (one : List Int) : ∀ other : List Int, (lessF one other).count z = one.count z - other.count z := by
  induction one with
  | nil => intro o; simp [lessF]
  | cons x r ih =>
    intro o
    unfold lessF
    by_cases h : x ∈ o
    · rw [if_pos h, ih, List.count_erase, List.count_cons]
      have hp := List.count_pos_iff.mpr h
      by_cases e : x = z
      · subst e; rw [if_pos (beq_self_eq_true _)]; exact sub_help hp
      · rw [if_neg (fun q => e (eq_of_beq q))]; rfl
    · rw [if_neg h, List.count_cons, List.count_cons, ih]
      by_cases e : x = z
      · subst e; rw [List.count_eq_zero_of_not_mem h]; simp
      · simp [e]
theorem count_uldN (z : Int) (X : List Int) : ∀ Y M : List Int, (uldN X Y M).1.count z = M.count z + (X.count z - Y.count z) ∧ (uldN X Y M).2.count z = Y.count z - X.count z := by
  induction X with
  | nil => intro Y M; simp [uldN]
  | cons v X ih =>
    intro Y M
    unfold uldN
    rw [rmN_eq]
    by_cases h : v ∈ Y
    · rw [if_pos h]
      have h1 := ih (Y.erase v) M
      dsimp only
      rw [h1.1, h1.2, List.count_erase, List.count_cons]
      have hp := List.count_pos_iff.mpr h
      by_cases e : v = z
      · subst e; rw [if_pos (beq_self_eq_true _)]; exact ⟨congrArg _ (sub_help hp), sub_help2 _ _⟩
      · rw [if_neg (fun q => e (eq_of_beq q))]; exact ⟨rfl, rfl⟩
    · rw [if_neg h]
      have h1 := ih Y (M ++ [v])
      dsimp only
      rw [h1.1, h1.2, List.count_append, List.count_singleton, List.count_cons (l := X)]
      by_cases e : v = z
      · subst e; rw [List.count_eq_zero_of_not_mem h]; simp; (first | lia | omega)
      · simp [e]
/-- equal counts, and no more than one item: equal lists -/
theorem eq_one {g g' u : List Int} (h : ∀ z, g.count z = g'.count z) (hu : ∀ z, g.count z ≤ u.count z) (h1 : u.length ≤ 1) : g = g' := by
  have p : g.Perm g' := List.perm_iff_count.mpr h
  match g, p, hu with
  | [], p, _ => exact (List.nil_perm.mp p).symm
  | [a], p, _ => exact List.perm_singleton.mp p.symm |>.symm
  | a :: b :: r, _, hu =>
    exfalso
    have ha := hu a
    have hb := hu b
    rw [List.count_cons_self] at ha
    rw [List.count_cons, List.count_cons_self] at hb
    match u, h1 with
    | [], _ => simp at ha
    | [c], _ =>
      rw [List.count_singleton] at ha hb
      have e1 : c = a := by
        by_cases e : c = a
        · exact e
        · simp [e] at ha
      have e2 : c = b := by
        by_cases e : c = b
        · exact e
        · simp [e] at hb
      subst e1; subst e2
      simp at ha
theorem nil_of_count {g : List Int} (h : ∀ z, g.count z = 0) : g = [] := by
  cases g with
  | nil => rfl
  | cons a r => have := h a; simp at this
theorem push_perm (x : Int) {H : List Int} (h : H.length ≤ 3) : ((pushN x H).1 ++ (pushN x H).2).Perm (x :: H) := by
  apply List.perm_iff_count.mpr
  intro z
  match H, h with
  | [], _ => simp [pushN]
  | [a], _ => simp only [pushN]; split <;> simp only [List.append_nil, List.count_cons, List.count_nil] <;> (first | lia | omega)
  | [a, b], _ => simp only [pushN]; split <;> simp only [List.append_nil, List.count_cons, List.count_nil] <;> (first | lia | omega)
  | [a, b, c], _ =>
    simp only [pushN]
    by_cases h1 : key a < key x <;> by_cases h2 : key b < key c <;> by_cases h3 : key x < key b <;> by_cases h4 : key x < key c <;>
      simp only [h1, h2, h3, h4, if_true, if_false, List.cons_append, List.nil_append, List.count_cons, List.count_nil] <;> (first | lia | omega)
  | a :: b :: c :: d :: r, h => simp only [List.length_cons] at h; (first | lia | omega)
/-- the first is the least -/
def Min0 (H : List Int) : Prop := ∀ y ∈ H, key (H.headD 0) ≤ key y
theorem push_min (x : Int) {H : List Int} (h : H.length ≤ 3) (hm : Min0 H) : Min0 (pushN x H).1 := by
  match H, h, hm with
  | [], _, _ => intro y hy; simp [pushN] at hy; subst hy; exact Int.le_refl _
  | [a], _, _ =>
    simp only [pushN]
    split <;> (intro y hy; simp only [List.mem_cons, List.not_mem_nil, or_false] at hy; simp only [List.headD_cons]; rcases hy with rfl | rfl <;> (first | lia | omega))
  | [a, b], _, hm =>
    have m1 := hm b (by simp)
    simp only [List.headD_cons] at m1
    simp only [pushN]
    split <;> (intro y hy; simp only [List.mem_cons, List.not_mem_nil, or_false] at hy; simp only [List.headD_cons]; rcases hy with rfl | rfl | rfl <;> (first | lia | omega))
  | [a, b, c], _, hm =>
    have m1 := hm b (by simp)
    have m2 := hm c (by simp)
    simp only [List.headD_cons] at m1 m2
    simp only [pushN]
    by_cases h1 : key a < key x <;> by_cases h2 : key b < key c <;> by_cases h3 : key x < key b <;> by_cases h4 : key x < key c <;>
      simp only [h1, h2, h3, h4, if_true, if_false] <;>
      (intro y hy; simp only [List.mem_cons, List.not_mem_nil, or_false] at hy; simp only [List.headD_cons]; rcases hy with rfl | rfl | rfl <;> (first | lia | omega))
  | a :: b :: c :: d :: r, h, _ => simp only [List.length_cons] at h; (first | lia | omega)
theorem push3 (x a b c : Int) : (key a < key x ∧ (pushN x [a, b, c]).2 = [a] ∧ ∀ y ∈ (pushN x [a, b, c]).1, y = x ∨ y = b ∨ y = c) ∨ (key x ≤ key a ∧ (pushN x [a, b, c]).1 = [a, b, c] ∧ (pushN x [a, b, c]).2 = [x]) := by
  unfold pushN
  dsimp only
  by_cases h : key a < key x
  · refine .inl ⟨h, by rw [if_pos h], fun y hy => ?_⟩
    rw [if_pos h] at hy
    have hp : y ∈ [x, b, c] ∨ y ∈ [b, x, c] ∨ y ∈ [c, b, x] := by
      revert hy
      dsimp only
      split
      · split
        · exact .inl
        · exact fun q => .inr (.inl q)
      · split
        · exact .inl
        · exact fun q => .inr (.inr q)
    simp only [List.mem_cons, List.not_mem_nil, or_false] at hp
    rcases hp with q | q | q
    · exact q
    · rcases q with q | q | q
      · exact .inr (.inl q)
      · exact .inl q
      · exact .inr (.inr q)
    · rcases q with q | q | q
      · exact .inr (.inr q)
      · exact .inr (.inl q)
      · exact .inl q
  · exact .inr ⟨Int.not_lt.mp h, by rw [if_neg h], by rw [if_neg h]⟩
/-- what is thrown away is below what is kept -/
theorem push_low (x : Int) {H T : List Int} (h : H.length ≤ 3) (hm : Min0 H) (ht : ∀ t ∈ T, ∀ y ∈ H, key t ≤ key y) (h3 : T ≠ [] → H.length = 3) :
    (∀ t ∈ T ++ (pushN x H).2, ∀ y ∈ (pushN x H).1, key t ≤ key y) ∧ (T ++ (pushN x H).2 ≠ [] → (pushN x H).1.length = 3) := by
  by_cases hl : H.length = 3
  · match H, hl with
    | [a, b, c], _ =>
      have m1 := hm b (by simp)
      have m2 := hm c (by simp)
      simp only [List.headD_cons] at m1 m2
      refine ⟨fun t hT y hy => ?_, fun _ => by rw [pushN_lenE x h]; simp⟩
      have t0 := fun q => ht t q a (.head _)
      have t1 := fun q => ht t q b (.tail _ (.head _))
      have t2 := fun q => ht t q c (.tail _ (.tail _ (.head _)))
      rcases push3 x a b c with ⟨hk, e2, hy1⟩ | ⟨hk, e1, e2⟩
      · rw [e2] at hT
        rcases List.mem_append.mp hT with q | q
        · rcases hy1 y hy with rfl | rfl | rfl
          · exact Int.le_trans (t0 q) (Int.le_of_lt hk)
          · exact t1 q
          · exact t2 q
        · cases List.mem_singleton.mp q
          rcases hy1 y hy with rfl | rfl | rfl
          · exact Int.le_of_lt hk
          · exact m1
          · exact m2
      · rw [e2] at hT
        rw [e1] at hy
        rcases List.mem_append.mp hT with q | q
        · exact ht t q y hy
        · cases List.mem_singleton.mp q
          exact Int.le_trans hk (hm y hy)
  · have hT : T = [] := by
      cases T with
      | nil => rfl
      | cons t r => exact absurd (h3 (by simp)) hl
    subst hT
    have e : (pushN x H).2 = [] := by
      match H, h, hl with
      | [], _, _ => rfl
      | [a], _, _ => rfl
      | [a, b], _, _ => rfl
      | [a, b, c], _, hl => exact absurd rfl hl
      | a :: b :: c :: d :: r, h, _ => simp only [List.length_cons] at h; (first | lia | omega)
    rw [e]
    exact ⟨fun _ hx => by simp at hx, fun hx => by simp at hx⟩
theorem srt_exists (l : List Int) : ∃ S, SrtOf S l := by
  refine ⟨l.mergeSort (fun a b => decide (key a ≤ key b)), List.mergeSort_perm _ _, ?_⟩
  have := List.pairwise_mergeSort (le := fun a b => decide (key a ≤ key b)) (fun a b c h1 h2 => by simp only [decide_eq_true_eq] at *; (first | lia | omega)) (fun a b => by simp only [Bool.or_eq_true, decide_eq_true_eq]; (first | lia | omega)) l
  exact this.imp fun h => of_decide_eq_true h
/-- the last three of the order are what the heap keeps -/
theorem top3 {H T S pre : List Int} (hb : InB pre) (hp : (T ++ H).Perm pre) (hS : SrtOf S pre) (hl : H.length = min 3 pre.length) (ht : ∀ t ∈ T, ∀ y ∈ H, key t ≤ key y) : H.Perm (S.drop (S.length - 3)) := by
  obtain ⟨A, a1, a2⟩ := srt_exists T
  obtain ⟨B, b1, b2⟩ := srt_exists H
  have e : A ++ B = S := by
    have q : (A ++ B).Perm S := (a1.append b1).trans (hp.trans hS.1.symm)
    refine List.Perm.eq_of_pairwise (le := fun a b => key a ≤ key b) (fun a b ha hb' h1 h2 => key_eq (hb a (hS.1.mem_iff.mp (q.mem_iff.mp ha))) (hb b (hS.1.mem_iff.mp hb')) h1 h2) ?_ hS.2 q
    rw [List.pairwise_append]
    exact ⟨a2, b2, fun a ha b hb' => ht a (a1.mem_iff.mp ha) b (b1.mem_iff.mp hb')⟩
  have l1 : S.length = pre.length := hS.1.length_eq
  have l2 : B.length = H.length := b1.length_eq
  have l3 : A.length + B.length = S.length := by rw [← e, List.length_append]
  have l4 : S.length - 3 = A.length := by (first | lia | omega)
  rw [← e]
  rw [← e] at l4
  rw [l4, List.drop_left]
  exact b1.symm
theorem head_min {H B : List Int} (hB : InB B) (hp : H.Perm B) (hm : Min0 H) (hs : B.Pairwise fun a b => key a ≤ key b) : H.headD 0 = B.headD 0 := by
  cases H with
  | nil => rw [← List.nil_perm.mp hp]
  | cons a r =>
    cases B with
    | nil => have := hp.length_eq; simp at this
    | cons b q =>
      simp only [List.headD_cons]
      have i1 : a ∈ b :: q := hp.mem_iff.mp (by simp)
      have i2 : b ∈ a :: r := hp.mem_iff.mpr (by simp)
      refine key_eq (hB a i1) (hB b (by simp)) (hm b i2) ?_
      rcases List.mem_cons.mp i1 with rfl | i
      · exact Int.le_refl _
      · exact List.rel_of_pairwise_cons hs i
structure Both (xs : List Int) (i : Nat) (H T bs : List Int) : Prop where
  perm : (T ++ H).Perm (xs.take i)
  len : H.length = min 3 i
  min : Min0 H
  low : ∀ t ∈ T, ∀ y ∈ H, key t ≤ key y
  full : T ≠ [] → H.length = 3
  same : H.Perm bs
theorem told_due {xs : List Int} (hb : InB xs) (i : Nat) : i ≤ xs.length → ∀ {its its' : List It} {H T bs : List Int}, ToldR xs i its H T → DueR xs i its' bs → its = its' ∧ Both xs i H T bs := by
  induction i with
  | zero =>
    intro _ its its' H T bs t d
    cases t
    cases d
    exact ⟨rfl, ⟨by simp, rfl, (fun _ h => nomatch h), (fun _ h => nomatch h), (fun h => absurd rfl h), List.Perm.refl _⟩⟩
  | succ i ih =>
    intro hi its0 its0' H0 T0 bs0 t0 d0
    cases t0 with
    | @succ _ its H T x t hx =>
    cases d0 with
    | @succ _ its' bs S d hS =>
    obtain ⟨e, b⟩ := ih (by (first | lia | omega)) t d
    subst e
    have hl3 : H.length ≤ 3 := by rw [b.len]; (first | lia | omega)
    have hp := push_perm x hl3
    have hlow := push_low x hl3 b.min b.low b.full
    have hlen : (pushN x H).1.length = min 3 (i + 1) := by rw [pushN_lenE x hl3, b.len]; (first | lia | omega)
    have htk : xs.take (i + 1) = xs.take i ++ [x] := by rw [List.take_add_one, hx]; rfl
    have hbt : InB (xs.take (i + 1)) := fun y hy => hb y (List.mem_of_mem_take hy)
    have hperm : ((T ++ (pushN x H).2) ++ (pushN x H).1).Perm (xs.take (i + 1)) := by
      rw [htk]
      apply List.perm_iff_count.mpr
      intro z
      have q1 := b.perm.count_eq z
      have q2 := hp.count_eq z
      simp only [List.count_append, List.count_cons, List.count_nil] at q1 q2 ⊢
      (first | lia | omega)
    have hsame := top3 hbt hperm hS (by rw [hlen, List.length_take]; (first | lia | omega)) hlow.1
    have hBB : InB (S.drop (S.length - 3)) := fun y hy => hbt y (hS.1.mem_iff.mp (List.mem_of_mem_drop hy))
    have hmin := push_min x hl3 b.min
    have hh := head_min hBB hsame hmin (List.Pairwise.sublist (List.drop_sublist _ _) hS.2)
    generalize S.drop (S.length - 3) = B2 at hsame hh
    have cnt : ∀ z, (pushN x H).1.count z + (pushN x H).2.count z = (if x = z then 1 else 0) + H.count z := fun z => by
      have q2 := hp.count_eq z
      simp only [List.count_append, List.count_cons] at q2
      by_cases e : x = z
      · simp [e] at q2 ⊢; (first | lia | omega)
      · simp [e] at q2 ⊢; (first | lia | omega)
    have sb := fun z => b.same.count_eq z
    have sb2 := fun z => hsame.count_eq z
    have e1 : (uldN H.reverse (pushN x H).1 []).1 = lessF bs B2 := by
      refine eq_one (u := (pushN x H).2) (fun z => ?_) (fun z => ?_) (pushN_len2 x H)
      · rw [(count_uldN z _ _ _).1, count_lessF, List.count_reverse, ← sb z, ← sb2 z]; simp
      · rw [(count_uldN z _ _ _).1, List.count_reverse]
        have := cnt z
        simp only [List.count_nil]
        (first | lia | omega)
    have e2 : (uldN H.reverse (pushN x H).1 []).2 = lessF B2 bs := by
      refine eq_one (u := [x]) (fun z => ?_) (fun z => ?_) (Nat.le_refl 1)
      · rw [(count_uldN z _ _ _).2, count_lessF, List.count_reverse, ← sb z, ← sb2 z]
      · rw [(count_uldN z _ _ _).2, List.count_reverse, List.count_singleton]
        have := cnt z
        by_cases e : x = z
        · simp [e] at this ⊢; (first | lia | omega)
        · simp [e] at this ⊢; (first | lia | omega)
    have e3 : (uldN (xs.take (i + 1)).reverse ((pushN x H).1 ++ (T ++ (pushN x H).2)) []).1 = [] := nil_of_count fun z => by
      rw [(count_uldN z _ _ _).1, List.count_reverse]
      have := hperm.count_eq z
      simp only [List.count_append, List.count_nil] at this ⊢
      (first | lia | omega)
    have e4 : (uldN (xs.take (i + 1)).reverse ((pushN x H).1 ++ (T ++ (pushN x H).2)) []).2 = [] := nil_of_count fun z => by
      rw [(count_uldN z _ _ _).2, List.count_reverse]
      have := hperm.count_eq z
      simp only [List.count_append] at this ⊢
      (first | lia | omega)
    rw [e1, e2, e3, e4, hh]
    exact ⟨rfl, ⟨hperm, hlen, hmin, hlow.1, hlow.2, hsame⟩⟩
end Mine
end
section
open PySem PySem.W PySem.Calls PyProof.Rows PySem.SeqAt
namespace Mine
theorem BAre.get {vs : List Value} {bs : List (Array UInt8)} (a : BAre vs bs) : ∀ i (hi : i < vs.length), ∃ b t, bs[i]? = some b ∧ vs[i] = .bytes b t := by
  induction a with
  | nil => exact fun i hi => absurd hi (Nat.not_lt_zero _)
  | cons b t _ ih =>
    intro i hi
    cases i with
    | zero => exact ⟨b, t, rfl, rfl⟩
    | succ i => exact ih i (Nat.lt_of_succ_lt_succ hi)
theorem ItsIn.get {nw : List (Addr × Obj)} {vs : List Value} {xs : List It} (a : ItsIn nw vs xs) : ∀ i (hi : i < vs.length), ∃ x, xs[i]? = some x ∧ ItIn nw vs[i] x := by
  induction a with
  | nil => exact fun i hi => absurd hi (Nat.not_lt_zero _)
  | cons t _ ih =>
    intro i hi
    cases i with
    | zero => exact ⟨_, rfl, t⟩
    | succ i => exact ih i (Nat.lt_of_succ_lt_succ hi)
section
variable {A : Around} {s : Shared}
theorem eqAt_bytes (b : Array UInt8) (t u : Tok) : EqAt A s (.bytes b t) (.bytes b u) true := fun _ _ _ _ h => eqBool_bytes (by simpa using h)
theorem all_true (n : Nat) : (List.range n).all (fun _ => true) = true := by simp
theorem eqAt_bares {l b : Addr} {vs ws : List Value} {bs : List (Array UInt8)} {k j : Nat} (hl : s.heap.get? l = some (listOf vs.toArray k)) (hb : s.heap.get? b = some (listOf ws.toArray j)) (h1 : BAre vs bs) (h2 : BAre ws bs) (hu : A.units + 20 < cLine) :
    EqAt A s (.ref l) (.ref b) true := by
  by_cases e : l = b
  · subst e; exact EqAt.same _
  · refine EqAt.of_refs e ?_
    have := RcAt.lists (A := A) (s := s) (e := fun _ => true) (items := vs.toArray) (items2 := ws.toArray) ⟨_, hl, rfl, _, rfl⟩ ⟨_, hb, rfl, _, rfl⟩ (by simp [h1.length, h2.length]) (by (first | lia | omega)) (fun i q1 q2 => by
      obtain ⟨x, t, e1, e2⟩ := h1.get i (by simpa using q1)
      obtain ⟨y, u, e3, e4⟩ := h2.get i (by simpa using q2)
      rw [e1] at e3
      cases e3
      simp only [List.getElem_toArray]
      rw [e2, e4]
      exact eqAt_bytes _ _ _)
    rwa [all_true] at this
theorem eqAt_it {nw nw' : List (Addr × Obj)} {v v' : Value} {x : It} (h1 : ItIn nw v x) (h2 : ItIn nw' v' x) (g1 : ∀ q ∈ nw, s.heap.get? q.1 = some q.2) (g2 : ∀ q ∈ nw', s.heap.get? q.1 = some q.2) (hu : A.units + 40 < cLine) : EqAt A s v v' true := by
  have hu1 := units_in1 A
  cases h1 with
  | three a1 a2 a3 a4 a5 =>
    cases h2 with
    | three b1 b2 b3 b4 b5 =>
      rename_i t lg ln ta kt kg kn vg vn a g n t' lg' ln' ta' kt' kg' kn' vg' vn'
      by_cases e : t = t'
      · subst e; exact EqAt.same _
      · refine EqAt.of_refs e ?_
        have := RcAt.tuples (A := A) (s := s) (e := fun _ => true) (items := #[.bytes a ta, .ref lg, .ref ln]) (items2 := #[.bytes a ta', .ref lg', .ref ln']) ⟨_, g1 _ a1, rfl, _, rfl⟩ ⟨_, g2 _ b1, rfl, _, rfl⟩ (by (first | lia | omega)) (fun i q1 q2 => by
          match i, q1, q2 with
          | 0, _, _ => exact eqAt_bytes _ _ _
          | 1, _, _ => exact eqAt_bares (g1 _ a2) (g2 _ b2) a4 b4 (by (first | lia | omega))
          | 2, _, _ => exact eqAt_bares (g1 _ a3) (g2 _ b3) a5 b5 (by (first | lia | omega))
          | n + 3, q1, _ => exact absurd q1 (by simp))
        exact this
  | two a1 a2 a3 a4 a5 =>
    cases h2 with
    | two b1 b2 b3 b4 b5 =>
      rename_i t lg ln kt kg kn vg vn g n t' lg' ln' kt' kg' kn' vg' vn'
      by_cases e : t = t'
      · subst e; exact EqAt.same _
      · refine EqAt.of_refs e ?_
        have := RcAt.tuples (A := A) (s := s) (e := fun _ => true) (items := #[.ref lg, .ref ln]) (items2 := #[.ref lg', .ref ln']) ⟨_, g1 _ a1, rfl, _, rfl⟩ ⟨_, g2 _ b1, rfl, _, rfl⟩ (by (first | lia | omega)) (fun i q1 q2 => by
          match i, q1, q2 with
          | 0, _, _ => exact eqAt_bares (g1 _ a2) (g2 _ b2) a4 b4 (by (first | lia | omega))
          | 1, _, _ => exact eqAt_bares (g1 _ a3) (g2 _ b3) a5 b5 (by (first | lia | omega))
          | n + 2, q1, _ => exact absurd q1 (by simp))
        exact this
theorem eq_its {prog : Program} {w : World} {E : Value → Shared → Prop} {l b : Addr} {vs ws : List Value} {xs : List It} {nw nw' : List (Addr × Obj)} {k j : Nat} {Q : Value → Shared → Prop} (hl : s.heap.get? l = some (listOf vs.toArray k)) (hb : s.heap.get? b = some (listOf ws.toArray j))
    (h1 : ItsIn nw vs xs) (h2 : ItsIn nw' ws xs) (g1 : ∀ q ∈ nw, s.heap.get? q.1 = some q.2) (g2 : ∀ q ∈ nw', s.heap.get? q.1 = some q.2) (hu : A.units + 60 < cLine) (h : Q (.bool true) s) :
    wpAny (model prog w) A (compareOp .Eq (.ref l) (.ref b)) Q E s := by
  have hu1 := units_in1 A
  refine eq_listAt (e := fun _ => true) (items := vs.toArray) (items2 := ws.toArray) ⟨_, hl, rfl, _, rfl⟩ ⟨_, hb, rfl, _, rfl⟩ (by simp [h1.length, h2.length]) (by (first | lia | omega)) (fun i q1 q2 => ?_) (by rw [all_true]; exact h)
  obtain ⟨x, e1, e2⟩ := h1.get i (by simpa using q1)
  obtain ⟨y, e3, e4⟩ := h2.get i (by simpa using q2)
  rw [e1] at e3
  cases e3
  simp only [List.getElem_toArray]
  exact eqAt_it e2 e4 g1 g2 (by (first | lia | omega))
end
end Mine
end
section
open PySem PySem.W PySem.Calls PyProof.Rows PyProof.Rows.LCg PyProof.Rows.LCp
set_option maxRecDepth 100000
namespace Mine
/-- the frame with other slots, all else kept -/
theorem fr_slots {hL h h' : Heap} {L : Addr} {m : Str → Option Value} {o2 : Obj} {sl : Array (Option Value)} (F : Fr hL L h m) (g2 : h.get? L = some o2) (K : Kept [L] h h') (g3 : h'.get? L = some { o2 with slots := sl }) : Fr hL L h' m := by
  obtain ⟨o, es, ep, e, hd, hk, hf⟩ := F.ns
  rw [g2] at e; cases e
  refine ⟨⟨_, es, ep, g3, hd, hk, hf⟩, fun b o e => K b o (F.keep b o e) fun hm => ?_, F.above⟩
  rw [List.mem_singleton.mp hm] at e
  exact absurd (Nat.lt_of_lt_of_le (Heap.lt_size e) F.above) (Nat.lt_irrefl _)
def drawnOf (ns : List Int) : List Int := [30, 62, 4, 60, 63] ++ (ns.take 7).map fun x => x % 2 ^ 24
theorem drawn_in (ns : List Int) : InB (drawnOf ns) := fun x hx => by
  unfold drawnOf at hx
  rcases List.mem_append.mp hx with hx | hx
  · simp only [List.mem_cons, List.not_mem_nil, or_false] at hx
    rcases hx with rfl | rfl | rfl | rfl | rfl <;> decide
  · obtain ⟨y, _, rfl⟩ := List.mem_map.mp hx
    exact ⟨Int.emod_nonneg _ (by decide), Int.emod_lt_of_pos _ (by decide)⟩
theorem drawn_len (ns : List Int) : (drawnOf ns).length ≤ 40 := by
  unfold drawnOf
  simp only [List.length_append, List.length_map, List.length_take, List.length_cons, List.length_nil]; (first | lia | omega)
theorem due_k {C : Value → Prop} {v : Value} {h : Heap} {xs : List Int} (e : ∃ l n vs nw its bs, v = .ref l ∧ h.get? l = some (listOf (vs : List Value).toArray n) ∧ ItsIn nw vs its ∧ (∀ q ∈ nw, h.get? q.1 = some q.2) ∧ DueR xs xs.length its bs)
    (k : ∀ l n (vs : List Value) nw its bs, h.get? l = some (listOf vs.toArray n) → ItsIn nw vs its → (∀ q ∈ nw, h.get? q.1 = some q.2) → DueR xs xs.length its bs → C (.ref l)) : C v := by
  obtain ⟨l, n, vs, nw, its, bs, rfl, a, b, c, d⟩ := e
  exact k l n vs nw its bs a b c d
/-- the words of the walk -/
theorem words_law1 : True := by
  k_with_none
  k_with "k_room" => ((try simp only [depth_under_make, depth_under_kw, depth_in1, depth_deeper, depth_caller]); (try dsimp only [ktrTop]); first | (refine' room_of ?h 0 rfl ?k; (case h => assumption); (case k => exact rfl)) | (refine' room_of ?h _ (Nat.add_assoc _ _ _) ?k; (case h => assumption); (case k => exact rfl)) | (refine' room_of ?h 1 rfl ?k; (case h => assumption); (case k => exact rfl)) | (refine' room_of ?h _ ((Nat.add_assoc _ _ _).trans (Nat.add_assoc _ _ _)) ?k; (case h => assumption); (case k => exact rfl)) | lia)
  k_with "ktr_room" => (k_room)
  k_with "k_units" => ((try simp only [units_in1, units_deeper, Around.mark_units, units_caller]); (try dsimp only [ktrTop]); first | (refine' room_of ?h _ (Nat.add_assoc _ _ _) ?k; (case h => assumption); (case k => exact rfl)) | (refine' room_of ?h _ ((Nat.add_assoc _ _ _).trans (Nat.add_assoc _ _ _)) ?k; (case h => assumption); (case k => exact rfl)) | (refine' room_of ?h 0 rfl ?k; (case h => assumption); (case k => exact rfl)) | (have hcL9 := cLine_is; lia))
  k_with "k_ne" => (refine neN ?_; (try dsimp only); first | assumption | exact Ne.symm (by assumption) | exact Nat.ne_of_lt (by assumption) | exact Nat.ne_of_gt (by assumption) | ((repeat' (rename _ ∧ _ => h9; obtain ⟨h8, h7⟩ := h9)); first | exact Nat.ne_of_lt (by assumption) | exact Nat.ne_of_gt (by assumption) | assumption | exact Ne.symm (by assumption)) | lia)
  k_with "my steps" => (repeat' (first | ((fail_if_success (with_reducible show wpAny _ _ (eval (Expr.ListComp _ _ _ _) _) _ _ _)); (fail_if_success (with_reducible show wpAny _ _ (binaryOp _ (Value.ref _) (Value.ref _)) _ _ _)); (fail_if_success (with_reducible show wpAny _ _ (call (Value.ref _) _ _) _ _ _)); (fail_if_success (with_reducible show wpAny _ _ (compareOp _ (Value.ref _) (Value.ref _)) _ _ _)); (fail_if_success (with_reducible show CompSrc _ _ _ _ _ _ _ _ _ _ _ _ _ _)); (fail_if_success (with_reducible show CompEnd _ _ _ _ _ _ _ _ _ _ _ _ _ _)); (fail_if_success (with_reducible show FinE _ _ _ _ _ _ _)); first | (k_unfold; (try dsimp only)) | walk1 | (dsimp only; walk1))))
  trivial
set_option maxHeartbeats 8000000 in
theorem law_holds : PySem.Challenge.rw_pa0040_01.Holds := hd (by
  k_go0
  all_goals (try k_fold)
  walk_at "my steps"
  refine LCg.ListComp_U (F₀ := by k_asm) (by rfl) (by decide) (by rfl) (by decide) (by rfl) ?_
  walk_at "my steps"
  rename_i lb h0 l0 Dd ws h1 F1 N1 hI hC hLe l1
  rename List Int => ns
  have hIl := hI.length
  have hC7 : (ns.take 7).length ≤ 7 := by rw [List.length_take]; (first | lia | omega)
  refine LCg.CompSrc.ledger (by rfl) F1 N1 (.head _) (by rw [List.size_toArray, sizeLine_eq]; (first | lia | omega)) ?_
  intro g3
  refine comp_pure (fun j ys => IntsAre ys (((ns.take 7).map fun x => x % 2 ^ 24).take j)) (ns.take 7).length (by rw [List.size_toArray]; (first | lia | omega)) ?_ ?_ .nil
  · rintro j ys nw v I oI C oC Dc m₂ h40 tk40 E40 hj hsub hJ hv hCo hx40 F40 N40 off40
    refine ex_k (⟨_, List.getElem?_eq_getElem hj⟩ : ∃ n, (ns.take 7)[j]? = some n) ?_
    intro n hn
    refine ex_k (hI.get j n hn) ?_
    intro tn hvn
    have hv2' : v = .int n tn := by
      have : ws[j]? = some v := by simpa using hv
      rw [hvn] at this; exact (Option.some.inj this).symm
    subst hv2'
    walk_at "my steps"
    try k_unfold
    refine CompEnd.intro F40 N40 nw (fun p hp => hp) off40 (.inr ⟨_, hsub _ (.head _), rfl, _, rfl⟩) ⟨hsub, ?_⟩
    rw [List.take_add_one, List.getElem?_map, hn]
    refine ints_snoc hJ ?_
    exact Int.fmod_eq_emod_of_nonneg n (by decide)
  intro zs nw hsub hJ
  have hml : ((ns.take 7).map fun x => x % 2 ^ 24).length = (ns.take 7).length := List.length_map _
  rw [← hml, List.take_length] at hJ
  intro Xd h42 tk42 F42 N42 o42
  have oo := fun p hp => off1_mem o42 p (hsub p hp)
  have N43 := news_sub N42 (l' := (Xd, lst zs) :: _) (List.forall_mem_cons.mpr ⟨.head _, fun p hp => .tail _ (hsub p hp)⟩)
  clear N42 o42 hsub
  walk_at "my steps"
  have hzl : zs.length ≤ 7 := by have := hJ.length; rw [hml] at this; (first | lia | omega)
  k_dflt (refine add_listsL F42 N43 (News.isList N43 (by k_mem)) (News.isList N43 (by k_mem)) (by simp only [List.length_cons, List.length_nil]; (first | lia | omega)) ?_)
  intro Dr h44 F44 N44 l44
  try clear N43 F1 N1
  refine ex_and (⟨_, fun p hp => N44 p (by rw [List.mem_singleton.mp hp]; exact .head _), IntsAre.append (.cons 30 _ (.cons 62 _ (.cons 4 _ (.cons 60 _ (.cons 63 _ .nil))))) hJ⟩ : ∃ dv, News _ _ h44 [(Dr, listOf (dv : List Value).toArray 0)] ∧ IntsAre dv (drawnOf ns)) ?_
  intro dv N45 hdr
  clear N44
  walk_at "my steps"
  rename_i h46 F46 N46
  refine ex3_k F46.ns ?_
  intro o2 es2 ep2 g46 hd46 hk46 hf46
  have lenD := drawn_len ns
  k_dflt (refine' told_does _ _ _ _ _ _ _ _ _ _ _ _ _ _ _ _ Dr dv (drawnOf ns) o2 hdr (drawn_in ns) lenD ?B F46 ?X ?T ?hk g46 (News.isList N46 (.head _)) ?dp ?un ?_; (case B => k_asm); (case X => k_asm); (case T => k_asm); (case hk => exact rfl); (case dp => k_room); (case un => k_units))
  intro h47 tk47 l47 n47 vs47 nw47 its47 H47 T47 sl47 K47 g47 gl47 hi47 hn47 tr47
  have F47 := fr_slots F46 g46 K47 g47
  have N47 : News _ _ h47 [(Dr, listOf dv.toArray 0)] := K47.led N46 (fun q hq hm => (N46 q hq).2.1 (List.mem_singleton.mp hm))
  clear F46 N46
  walk_at "my steps"
  k_dflt (refine' does_use (muts := []) (due_does Dr dv (drawnOf ns) hdr (drawn_in ns) lenD) ?B2 F47 ?X2 News.nil ?T2 ?hk2 ?dp2 ?un2 (News.isList N47 (.head _)) ?_; (case B2 => k_asm); (case X2 => k_asm); (case T2 => k_asm); (case hk2 => exact rfl); (case dp2 => k_room); (case un2 => k_units))
  intro v48 h48 tk48 K48 F48 hh
  apply due_k hh
  clear hh
  intro l48 n48 vs48 nw48 its48 bs48 gl48 hi48 hn48 du48
  have N48 : News _ _ h48 [(Dr, listOf dv.toArray 0)] := K48.led N47 (fun _ _ hm => nomatch hm)
  have eI := (told_due (drawn_in ns) (drawnOf ns).length (Nat.le_refl _) tr47 du48).1
  subst eI
  have gl49 : h48.get? l47 = some (listOf vs47.toArray n47) := K48 _ _ gl47 (fun hm => nomatch hm)
  have hn49 : ∀ q ∈ nw47, h48.get? q.1 = some q.2 := fun q hq => K48 _ _ (hn47 q hq) (fun hm => nomatch hm)
  clear F47 N47
  walk_at "my steps"
  k_dflt (refine eq_its gl49 gl48 hi47 hi48 hn49 hn48 (by k_units) ?_)
  k_steps)
end Mine
end
end
set_option maxRecDepth 100000 in
set_option maxHeartbeats 8000000 in
theorem PySem.Challenge.cw_pa0040_01_holds : PySem.Challenge.rw_pa0040_01.Holds := by
  exact Mine.law_holds
