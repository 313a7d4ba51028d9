import PyProof.Rows.All
import Wide.All
import OpenK.AllK
import Wide.FinOn
import PySem.Challenge.RW_nb0147_01
set_option Elab.async false
set_option maxRecDepth 100000
section PartFz
namespace Mine
open PySem PySem.Spec PySem.Calls PySem.W PyProof.Rows
/-- everything of h that is not among the live addresses stands in g -/
def Frozen (h : Heap) (live : List (Addr × Obj)) (g : Heap) : Prop := ∀ b o, h.get? b = some o → b ∉ live.map (·.1) → g.get? b = some o
section
variable {prog : Program} {w : World} {A₀ A : Around} {s : Shared} {base h₀ : Heap} {outer : List Env} {L : Addr} {m : Str → Option Value} {env : Env} {live rest : List (Addr × Obj)} {K : Frag}
  {R : Result → Shared → Prop} {name qual : Str} {params : Arguments} {body : List Stmt} {scope : Scope} {cl : List (Str × Addr)} {dV kV doc pm cdv ct oc : Value} {an od : Option Addr} {osl : Array (Option Value)} {fo : Obj} {f : Addr} {args : Args} {binds : List (Str × Value)}
  {p : Program} {loose : List Str} {mean : ExcName → Option Value} {mg mb : Str → Option Value}
theorem Frozen.get {h g : Heap} {b : Addr} {o : Obj} (z : Frozen h live g) (e : h.get? b = some o) (hn : ∀ q ∈ live, q.1 ≠ b) : g.get? b = some o :=
  z b o e fun q => by obtain ⟨r, hr, e2⟩ := List.mem_map.mp q; exact hn r hr e2
theorem Frozen.list {h g : Heap} {b : Addr} {items : Array Value} (z : Frozen h live g) (e : h.IsList b items) (hn : ∀ q ∈ live, q.1 ≠ b) : g.IsList b items :=
  let ⟨o, ho, r⟩ := e; ⟨o, z.get ho hn, r⟩
theorem Frozen.list0 {h g : Heap} {b : Addr} {items : Array Value} (z : Frozen h [] g) (e : h.IsList b items) : g.IsList b items := z.list e (List.forall_mem_nil _)
theorem Frozen.stays0 {h g : Heap} (z : Frozen h [] g) : ∀ b o, h.get? b = some o → g.get? b = some o := fun _ _ e => z.get e (List.forall_mem_nil _)
theorem thaw {h₀ h h' g : Heap} {L L' : Addr} {m' : Str → Option Value} {news' : List (Addr × Obj)} (z : Frozen h live g) (F' : Fr g L' h' m') (N : News h₀ L h rest) (hd : ∀ q ∈ rest, ∀ p ∈ live, p.1 ≠ q.1) (N' : News h₀ L h' news') :
    News h₀ L h' (news' ++ rest) := fun q hq => by
  rcases List.mem_append.mp hq with hq | hq
  · exact N' q hq
  · exact ⟨F'.keep _ _ (z.get (N q hq).1 (hd q hq)), (N q hq).2⟩
theorem enterF (B : Below A₀ base outer h₀) (F : Fr h₀ L s.heap m) (X₀ : K.In h₀) (N : News h₀ L s.heap live) (T : Top p loose mean mg mb h₀) (hA : A.frames = some (env :: outer)) (hf : env.frame = some L) (hke : env.scope.kind = .function)
    (ho : s.heap.get? f = some fo) (hd : fo.data = .func (fnX name qual params body scope cl dV kV doc pm an cdv ct)) (hcd : s.heap.CodeRec cdv qual) (hroom : A.depth < recursionLimit)
    (hbind : BindsTo s (fnX name qual params body scope cl dV kV doc pm an cdv ct) args binds) (hloc : ∀ y ∈ binds, scope.names.lookup y.1 = some .local)
    (h : ∀ g L' h₁, Frozen s.heap live g → Fr h₀ L g m → Fr g L' h₁ (fun y => binds.reverse.lookup y) → News g L' h₁ live → Below A base (env :: outer) g → K.In g → Top p loose mean mg mb g → (∀ p ∈ live, p.1 < L') →
      wpAny (model prog w) (A.deeper (envX qual scope L' f cdv cl)) (execs body (envX qual scope L' f cdv cl))
        (fun fl s' => LeaveK h₀ L m g R (match fl with | .ret v => v | _ => .none) s')
        (fun e s' => wpAny (model prog w) (A.deeper (envX qual scope L' f cdv cl)) (leaving (envX qual scope L' f cdv cl) e) (fun _ s'' => R (.error e) s'') (fun e' s'' => R (.error e') s'') s')
        { s with heap := h₁, toks := s.toks + binds.length })
    (hcell : ∀ x ∈ scope.names, x.2 ≠ .cell) (hco : scope.isCoroutine = false := by rfl) (hgen : scope.isGenerator = false := by rfl) (hk : scope.kind = .function := by rfl) : codeAny (model prog w) A (.call (.ref f) args) R s := by
  obtain ⟨FG, BG, st, lv⟩ := groundX (R := R) B F N hA hf hke
  refine codeAny_call_def (fd := fnX name qual params body scope cl dV kV doc pm an cdv ct) (body := body) (binds := binds) hroom ho hd (T.nolimit.keeps F.keep) hcd rfl hbind hcell hloc (fun h₁ hns hk₁ => ?_) hco hgen hk
  exact wpAny_mono (h _ s.heap.objs.size h₁ (fun b o e hn => hideAll_get _ e hn) FG ⟨hns, fun b o e => hk₁ b o (of_hideAll _ e), Nat.le_of_eq (hideAll_size _ _)⟩
    (fun p hp => ⟨hk₁ _ _ (N p hp).1, Nat.ne_of_lt (Heap.lt_size (N p hp).1), hideAll_none _ (List.mem_map_of_mem hp)⟩) BG (X₀.keeps st) (T.keeps st) (fun p hp => Heap.lt_size (N p hp).1)) (fun fl s' hl => lv _ _ hl) fun _ _ y => y
/-- a def of the text's top -/
theorem enterK (B : Below A₀ base outer h₀) (F : Fr h₀ L s.heap m) (X₀ : K.In h₀) (N : News h₀ L s.heap live) (T : Top p loose mean mg mb h₀) (hA : A.frames = some (env :: outer)) (hf : env.frame = some L) (hke : env.scope.kind = .function)
    (ho : K.lookup f = some ⟨oc, od, .func (fnOf name qual params body scope dV kV doc pm an cdv ct), osl⟩) (hcd : codeIn K cdv qual = true) (hroom : A.depth < recursionLimit)
    (hbind : BindsTo s (fnOf name qual params body scope dV kV doc pm an cdv ct) args binds) (hloc : ∀ y ∈ binds, scope.names.lookup y.1 = some .local)
    (h : ∀ g L' h₁, Frozen s.heap live g → Fr h₀ L g m → Fr g L' h₁ (fun y => binds.reverse.lookup y) → News g L' h₁ live → Below A base (env :: outer) g → K.In g → Top p loose mean mg mb g → (∀ p ∈ live, p.1 < L') →
      wpAny (model prog w) (A.deeper (envOf qual scope L' f cdv)) (execs body (envOf qual scope L' f cdv))
        (fun fl s' => LeaveK h₀ L m g R (match fl with | .ret v => v | _ => .none) s')
        (fun e s' => wpAny (model prog w) (A.deeper (envOf qual scope L' f cdv)) (leaving (envOf qual scope L' f cdv) e) (fun _ s'' => R (.error e) s'') (fun e' s'' => R (.error e') s'') s')
        { s with heap := h₁, toks := s.toks + binds.length })
    (hco : scope.isCoroutine = false) (hgen : scope.isGenerator = false) (hk : scope.kind = .function)
    (hcell : ∀ x ∈ scope.names, x.2 ≠ .cell) : codeAny (model prog w) A (.call (.ref f) args) R s :=
  enterF (cl := []) B F X₀ N T hA hf hke ((X₀.keeps F.keep) _ _ ho) rfl (codeRec_of (X₀.keeps F.keep) hcd) hroom hbind hloc h hcell hco hgen hk
/-- a def of the text's top whose names are kept in cells -/
theorem enterKC (B : Below A₀ base outer h₀) (F : Fr h₀ L s.heap m) (X₀ : K.In h₀) (N : News h₀ L s.heap live) (T : Top p loose mean mg mb h₀) (hA : A.frames = some (env :: outer)) (hf : env.frame = some L) (hke : env.scope.kind = .function)
    (ho : K.lookup f = some ⟨oc, od, .func (fnOf name qual params body scope dV kV doc pm an cdv ct), osl⟩) (hcd : codeIn K cdv qual = true) (hroom : A.depth < recursionLimit)
    (hbind : BindsTo s (fnOf name qual params body scope dV kV doc pm an cdv ct) args binds) (hkind : (binds.all fun y => scope.names.lookup y.1 == some .local || scope.names.lookup y.1 == some .cell) = true)
    (hnd : ((cellsFrom 0 scope.names []).map (·.1)).Nodup)
    (h : ∀ g L' h₁ tk cells, Frozen s.heap live g → Fr h₀ L g m → Fr g L' h₁ (bindL (envOfC qual scope L' f cdv).kindOf binds fun _ => none) → News g L' h₁ (cells ++ live) →
      CellsAre (bindC (envOfC qual scope L' f cdv).kindOf binds fun _ => none) (cellsFrom (L' + 1) scope.names []) cells → Below A base (env :: outer) g → K.In g → Top p loose mean mg mb g → (∀ p ∈ live, p.1 < L') →
      wpAny (model prog w) (A.deeper (envOfC qual scope L' f cdv)) (execs body (envOfC qual scope L' f cdv))
        (fun fl s' => LeaveK h₀ L m g R (match fl with | .ret v => v | _ => .none) s')
        (fun e s' => wpAny (model prog w) (A.deeper (envOfC qual scope L' f cdv)) (leaving (envOfC qual scope L' f cdv) e) (fun _ s'' => R (.error e) s'') (fun e' s'' => R (.error e') s'') s')
        { s with heap := h₁, toks := tk })
    (hco : scope.isCoroutine = false) (hgen : scope.isGenerator = false) (hk : scope.kind = .function) : codeAny (model prog w) A (.call (.ref f) args) R s := by
  obtain ⟨FG, BG, st, lv⟩ := groundX (R := R) B F N hA hf hke
  refine codeAny_call_function hroom ((X₀.keeps F.keep) _ _ ho) rfl hco hgen rfl (codeRec_of (X₀.keeps F.keep) hcd) (hbind _ _ _ _ ?_)
  refine wpAny_newFunctionEnv_cells hk (kindsX hkind _) fun env' he s' x => ?_
  subst he
  refine ⟨(T.nolimit.keeps F.keep).keeps x.toInCall.keep, codeAny_func ?_⟩
  obtain ⟨h₁, tk, rfl, _⟩ := x.done
  have hk₁ := x.toInCall.keep
  obtain ⟨cells, NC, Y⟩ := Cl.news (h₀ := s.heap) (Nat.le_refl _) fun n c hm => ⟨x.cell n c (lookup_of_mem_nodup (cellsFrom_names scope.names 0 (s.heap.objs.size + 1) [] [] rfl ▸ hnd) hm), x.above n c hm⟩
  refine wpAny_mono (h _ s.heap.objs.size h₁ tk cells (fun b o e hn => hideAll_get _ e hn) FG ⟨x.toInCall.ns, fun b o e => hk₁ b o (of_hideAll _ e), Nat.le_of_eq (hideAll_size _ _)⟩ (fun p hp => ?_) Y BG (X₀.keeps st) (T.keeps st) (fun p hp => Heap.lt_size (N p hp).1)) (fun fl s' hl => lv _ _ hl) fun _ _ y => y
  rcases List.mem_append.mp hp with hp | hp
  · refine ⟨(NC p hp).1, (NC p hp).2.1, ?_⟩
    cases q : (hideAll s.heap (live.map (·.1))).get? p.1 with
    | none => rfl
    | some o => have := of_hideAll _ q; rw [(NC p hp).2.2] at this; cases this
  · exact ⟨hk₁ _ _ (N p hp).1, Nat.ne_of_lt (Heap.lt_size (N p hp).1), hideAll_none _ (List.mem_map_of_mem hp)⟩
end
end Mine
end PartFz
section PartT0
open PySem PySem.W PyProof.Rows
namespace Mine
set_option maxRecDepth 100000 in
set_option maxHeartbeats 8000000 in
open_top hd for PySem.Challenge.rw_nb0147_01
end Mine
end PartT0
section PartPl
namespace Mine
open PySem PySem.Spec PySem.Calls PySem.W PyProof.Rows
/-! plain facts: figures and bits -/
def val (n : Nat) : List Int → Int
  | [] => 0
  | d :: r => d + 2 ^ n * val n r
def slice (ds : List Int) (lo hi : Int) : List Int := (ds.drop lo.toNat).take (hi.toNat - lo.toNat)
theorem val_append (n : Nat) (a b : List Int) : val n (a ++ b) = val n a + 2 ^ (n * a.length) * val n b := by
  induction a with
  | nil => simp [val]
  | cons d r ih =>
    simp only [List.cons_append, val, ih, List.length_cons]
    rw [Nat.mul_add, Nat.mul_one, Int.pow_add, Int.mul_add, Int.add_assoc, Int.mul_comm (2 ^ (n * r.length)) (2 ^ n), Int.mul_assoc]
theorem val_nonneg {n : Nat} {a : List Int} (h : ∀ d ∈ a, 0 ≤ d) : 0 ≤ val n a := by
  induction a with
  | nil => simp [val]
  | cons d r ih =>
    have h1 := h d (.head _)
    have h2 := ih fun x hx => h x (.tail _ hx)
    have h3 : (0 : Int) ≤ 2 ^ n := Int.le_of_lt (Int.pow_pos (by decide))
    have := Int.mul_nonneg h3 h2
    simp only [val]; omega
theorem val_lt {n : Nat} {a : List Int} (h : ∀ d ∈ a, 0 ≤ d ∧ d < 2 ^ n) : val n a < 2 ^ (n * a.length) := by
  induction a with
  | nil => simp [val]
  | cons d r ih =>
    have h1 := h d (.head _)
    have h2 := ih fun x hx => h x (.tail _ hx)
    simp only [val, List.length_cons, Nat.mul_add, Nat.mul_one, Int.pow_add]
    have h3 : (0 : Int) < 2 ^ n := Int.pow_pos (by decide)
    have h4 : val n r + 1 ≤ 2 ^ (n * r.length) := h2
    have h5 := Int.mul_le_mul_of_nonneg_left h4 (Int.le_of_lt h3)
    rw [Int.mul_add, Int.mul_one] at h5
    rw [Int.mul_comm (2 ^ (n * r.length)) (2 ^ n)]
    omega
theorem slice_split {ds : List Int} {lo mid hi : Int} (h0 : 0 ≤ lo) (h1 : lo ≤ mid) (h2 : mid ≤ hi) : slice ds lo hi = slice ds lo mid ++ slice ds mid hi := by
  unfold slice
  have e1 : hi.toNat - lo.toNat = (mid.toNat - lo.toNat) + (hi.toNat - mid.toNat) := by omega
  rw [e1, List.take_add, List.drop_drop]
  congr 3
  omega
theorem slice_length {ds : List Int} {lo hi : Int} (h2 : hi ≤ ds.length) : (slice ds lo hi).length = hi.toNat - lo.toNat := by
  unfold slice
  rw [List.length_take, List.length_drop]; omega
theorem slice_one {ds : List Int} {lo : Int} (h0 : 0 ≤ lo) (h1 : lo < ds.length) : slice ds lo (lo + 1) = [ds[lo.toNat]'(by omega)] := by
  unfold slice
  have e : (lo + 1).toNat - lo.toNat = 1 := by omega
  rw [e, List.drop_eq_getElem_cons (by omega : lo.toNat < ds.length)]
  rfl
theorem slice_all {ds : List Int} : slice ds 0 ds.length = ds := by
  unfold slice; simp
theorem slice_mem {ds : List Int} {lo hi d : Int} (h : d ∈ slice ds lo hi) : d ∈ ds := List.mem_of_mem_drop (List.mem_of_mem_take h)
/-- the two halves put together -/
theorem val_halves {n : Nat} {ds : List Int} {lo mid hi : Int} (h0 : 0 ≤ lo) (h1 : lo ≤ mid) (h2 : mid ≤ hi) (h3 : hi ≤ ds.length) {sh : Int} (hs : sh = (mid - lo) * (n : Int)) :
    val n (slice ds mid hi) * 2 ^ sh.toNat + val n (slice ds lo mid) = val n (slice ds lo hi) := by
  have e : sh.toNat = n * (slice ds lo mid).length := by
    rw [slice_length (by omega), hs]
    have : mid - lo = ((mid.toNat - lo.toNat : Nat) : Int) := by omega
    rw [this, ← Int.natCast_mul, Int.toNat_natCast, Nat.mul_comm]
  rw [slice_split h0 h1 h2, val_append, e, Int.mul_comm, Int.add_comm]
theorem intBits_le {a : Int} {k : Nat} (h0 : 0 ≤ a) (h : a < 2 ^ k) : Builtin.Int.intBits a ≤ k := by
  refine PySem.intBits_le_iff.mpr ?_
  have : ((a.natAbs : Nat) : Int) < ((2 ^ k : Nat) : Int) := by rw [Int.natAbs_of_nonneg h0]; simpa using h
  exact Int.ofNat_lt.mp this
theorem shl_fits {n : Nat} {ds : List Int} {lo mid hi sh : Int} (hds : ∀ d ∈ ds, 0 ≤ d ∧ d < 2 ^ n) (h0 : 0 ≤ lo) (h1 : lo ≤ mid) (h2 : mid ≤ hi) (h3 : hi ≤ ds.length) (hs : sh = (mid - lo) * (n : Int)) (hn : n ≤ 64) (hl : ds.length ≤ 1000) :
    0 ≤ sh ∧ (Builtin.Int.intBits (val n (slice ds mid hi)) : Int) + sh ≤ 2 ^ 27 := by
  have hb := intBits_le (val_nonneg (n := n) (a := slice ds mid hi) fun d hd => (hds d (slice_mem hd)).1) (val_lt fun d hd => hds d (slice_mem hd))
  rw [slice_length h3] at hb
  have h5 : n * (hi.toNat - mid.toNat) ≤ 64 * 1000 := Nat.mul_le_mul hn (by omega)
  have h6 : 0 ≤ mid - lo := by omega
  have h7 := Int.mul_nonneg h6 (Int.natCast_nonneg n)
  have h8 : (mid - lo) * (n : Int) ≤ 1000 * 64 := Int.mul_le_mul (by omega) (by omega) (by omega) (by decide)
  rw [hs]
  refine ⟨h7, ?_⟩
  have : (2 : Int) ^ 27 = 134217728 := by decide
  omega
end Mine
end PartPl
section PartPl2
namespace Mine
open PySem PySem.Spec PySem.Calls PySem.W PyProof.Rows
theorem and_high (x s : Nat) : x &&& ((x >>> s) <<< s) = (x >>> s) <<< s := by
  apply Nat.eq_of_testBit_eq
  intro i
  rw [Nat.testBit_and, Nat.testBit_shiftLeft, Nat.testBit_shiftRight]
  by_cases h : s ≤ i
  · have e : s + (i - s) = i := by omega
    simp [h, e]
  · simp [h]
/-- x ^ (x >> s) << s: the low part -/
theorem xor_low {x : Int} (h : 0 ≤ x) (s : Nat) : Builtin.bitXor x (x / 2 ^ s * 2 ^ s) = x % 2 ^ s := by
  rw [bitXor_and]
  have e1 : x / 2 ^ s * 2 ^ s = (((x.toNat >>> s) <<< s : Nat) : Int) := by
    rw [Nat.shiftLeft_eq, Nat.shiftRight_eq_div_pow]
    conv => lhs; rw [← Int.toNat_of_nonneg h]
    simp
  have h2 : 0 ≤ x / 2 ^ s * 2 ^ s := by rw [e1]; exact Int.natCast_nonneg _
  have e2 : Builtin.bitAnd x (x / 2 ^ s * 2 ^ s) = x / 2 ^ s * 2 ^ s := by
    unfold Builtin.bitAnd
    rw [decide_eq_true h, decide_eq_true h2]
    show ((x.toNat &&& (x / 2 ^ s * 2 ^ s).toNat : Nat) : Int) = _
    conv => rhs; rw [e1]
    rw [show (x / 2 ^ s * 2 ^ s).toNat = (x.toNat >>> s) <<< s by rw [e1]; exact Int.toNat_natCast _, and_high]
  rw [e2]
  have := Int.emod_add_mul_ediv x (2 ^ s)
  rw [Int.mul_comm] at this
  omega
theorem bitOr_nat (a b : Nat) : Builtin.bitOr (a : Int) (b : Int) = ((a ||| b : Nat) : Int) := by
  unfold Builtin.bitOr Builtin.bitAnd
  have h1 : ¬ (0 : Int) ≤ Builtin.bitNot (a : Int) := by unfold Builtin.bitNot; omega
  have h2 : ¬ (0 : Int) ≤ Builtin.bitNot (b : Int) := by unfold Builtin.bitNot; omega
  rw [decide_eq_false h1, decide_eq_false h2]
  have e : ∀ x : Int, Builtin.bitNot (Builtin.bitNot x) = x := fun x => by unfold Builtin.bitNot; omega
  show Builtin.bitNot (Builtin.bitNot _) = _
  rw [e, e, e]
  simp
/-- (a << 8) | b -/
theorem or_low {a b : Int} {k : Nat} (ha : 0 ≤ a) (hb : 0 ≤ b) (hb2 : b < 2 ^ k) : Builtin.bitOr (a * 2 ^ k) b = a * 2 ^ k + b := by
  obtain ⟨a, rfl⟩ := Int.eq_ofNat_of_zero_le ha
  obtain ⟨b, rfl⟩ := Int.eq_ofNat_of_zero_le hb
  have hb3 : b < 2 ^ k := by exact_mod_cast hb2
  have e : ((a : Int) * 2 ^ k) = ((a <<< k : Nat) : Int) := by rw [Nat.shiftLeft_eq]; simp
  rw [e, bitOr_nat, ← Nat.shiftLeft_add_eq_or_of_lt hb3]
  simp
end Mine
end PartPl2
section PartPl3
namespace Mine
open PySem PySem.Spec PySem.Calls PySem.W PyProof.Rows
/-- the k lowest figures of x to the base 2 ^ n, the lowest first -/
def digs (n : Nat) : Nat → Int → List Int
  | 0, _ => []
  | k + 1, x => x % 2 ^ n :: digs n k (x / 2 ^ n)
theorem digs_length (n k : Nat) (x : Int) : (digs n k x).length = k := by
  induction k generalizing x with
  | zero => rfl
  | succ k ih => simp [digs, ih]
theorem digs_mem {n k : Nat} {x d : Int} (h : d ∈ digs n k x) : 0 ≤ d ∧ d < 2 ^ n := by
  induction k generalizing x with
  | zero => cases h
  | succ k ih =>
    have p0 : (0 : Int) < 2 ^ n := Int.pow_pos (by decide)
    rcases List.mem_cons.mp h with rfl | h
    · exact ⟨Int.emod_nonneg _ (by omega), Int.emod_lt_of_pos _ p0⟩
    · exact ih h
theorem digs_val {n : Nat} {ds : List Int} (h : ∀ d ∈ ds, 0 ≤ d ∧ d < 2 ^ n) : digs n ds.length (val n ds) = ds := by
  induction ds with
  | nil => rfl
  | cons d r ih =>
    have p0 : (0 : Int) < 2 ^ n := Int.pow_pos (by decide)
    have hd := h d (.head _)
    have e1 : (d + 2 ^ n * val n r) % 2 ^ n = d := by
      rw [Int.add_mul_emod_self_left]; exact Int.emod_eq_of_lt hd.1 hd.2
    have e2 : (d + 2 ^ n * val n r) / 2 ^ n = val n r := by
      rw [Int.add_mul_ediv_left _ _ (by omega), Int.ediv_eq_zero_of_lt hd.1 hd.2, Int.zero_add]
    simp only [List.length_cons, digs, val, e1, e2]
    rw [ih fun x hx => h x (.tail _ hx)]
theorem val_digs {n k : Nat} {x : Int} (h0 : 0 ≤ x) (h : x < 2 ^ (n * k)) : val n (digs n k x) = x := by
  induction k generalizing x with
  | zero => simp at h; simp [digs, val]; omega
  | succ k ih =>
    have p0 : (0 : Int) < 2 ^ n := Int.pow_pos (by decide)
    have h1 : x / 2 ^ n < 2 ^ (n * k) := by
      rw [Nat.mul_add, Nat.mul_one, Int.pow_add] at h
      exact Int.ediv_lt_of_lt_mul p0 h
    simp only [digs, val]
    rw [ih (Int.ediv_nonneg h0 (by omega)) h1]
    exact Int.emod_add_mul_ediv _ _
theorem val_zeros (n k : Nat) : val n (List.replicate k 0) = 0 := by
  induction k with
  | zero => rfl
  | succ k ih => simp [List.replicate_succ, val, ih]
/-- figures with noughts ahead (from behind, as they are laid) -/
theorem pad_digs {n k : Nat} {ds : List Int} {x : Int} (h : ∀ d ∈ ds, 0 ≤ d ∧ d < 2 ^ n) (hv : val n ds = x) {j : Nat} (hj : j + ds.length = k) : List.replicate j 0 ++ ds.reverse = (digs n k x).reverse := by
  have p0 : (0 : Int) < 2 ^ n := Int.pow_pos (by decide)
  have h1 : ∀ d ∈ ds ++ List.replicate j 0, 0 ≤ d ∧ d < 2 ^ n := by
    intro d hd
    rcases List.mem_append.mp hd with hd | hd
    · exact h d hd
    · rw [(List.mem_replicate.mp hd).2]; exact ⟨Int.le_refl _, p0⟩
  have h2 := digs_val h1
  rw [val_append, val_zeros, hv, Int.mul_zero, Int.add_zero, List.length_append, List.length_replicate] at h2
  rw [show ds.length + j = k by omega] at h2
  rw [h2, List.reverse_append, List.reverse_replicate]
/-- how many figures a number takes -/
theorem count_le {x : Int} {nn k c : Nat} (hx : 0 ≤ x) (hn : 1 ≤ nn) (hx2 : x < 2 ^ (nn * k)) (hc : (c : Int) = ((Builtin.Int.intBits x : Int) + (nn : Int) - 1) / (nn : Int)) : c ≤ k := by
  have h1 := intBits_le hx hx2
  have h2 : (c : Int) ≤ k := by
    rw [hc]
    have h3 : (Builtin.Int.intBits x : Int) + (nn : Int) - 1 < ((k : Int) + 1) * (nn : Int) := by
      have : (Builtin.Int.intBits x : Int) ≤ (nn : Int) * (k : Int) := by exact_mod_cast h1
      rw [Int.add_mul, Int.one_mul, Int.mul_comm]
      omega
    have := Int.ediv_lt_of_lt_mul (show (0 : Int) < nn by omega) h3
    omega
  omega
end Mine
end PartPl3
section PartPl4
namespace Mine
open PySem PySem.Spec PySem.Calls PySem.W PyProof.Rows
/-- the signs of base 64 -/
def b64tab : List Int := [65, 66, 67, 68, 69, 70, 71, 72, 73, 74, 75, 76, 77, 78, 79, 80, 81, 82, 83, 84, 85, 86, 87, 88, 89, 90, 97, 98, 99, 100, 101, 102, 103, 104, 105, 106, 107, 108, 109, 110, 111, 112, 113, 114, 115, 116, 117, 118, 119, 120, 121, 122, 48, 49, 50, 51, 52, 53, 54, 55, 56, 57, 43, 47]
def sgn (i : Int) : Int := b64tab.getD i.toNat 0
/-- the six-bit parts of whole triples of octets -/
def six : List Int → List Int
  | a :: b :: c :: r => a / 4 :: (a % 4 * 16 + b / 16) :: (b % 16 * 4 + c / 64) :: c % 64 :: six r
  | _ => []
theorem six_append : ∀ {p : List Int}, p.length % 3 = 0 → ∀ q, six (p ++ q) = six p ++ six q
  | [], _, q => by simp [six]
  | [_], h, _ => by simp at h
  | [_, _], h, _ => by simp at h
  | a :: b :: c :: r, h, q => by
    have h' : r.length % 3 = 0 := by simp only [List.length_cons] at h; omega
    simp only [List.cons_append, six]
    rw [six_append h' q]
def BInv (pre : List Int) (lc lb : Int) (out : List Int) : Prop :=
  0 ≤ lc ∧ lc < 65536 ∧ ∃ p0 : List Int, p0.length % 3 = 0 ∧
    ((lb = 0 ∧ pre = p0 ∧ out = (six p0).map sgn) ∨
     (lb = 2 ∧ ∃ a, 0 ≤ a ∧ a < 256 ∧ pre = p0 ++ [a] ∧ lc % 256 = a ∧ out = (six p0).map sgn ++ [sgn (a / 4)]) ∨
     (lb = 4 ∧ ∃ a b, 0 ≤ a ∧ a < 256 ∧ 0 ≤ b ∧ b < 256 ∧ pre = p0 ++ [a, b] ∧ lc % 256 = b ∧ out = (six p0).map sgn ++ [sgn (a / 4), sgn (a % 4 * 16 + b / 16)]))
theorem BInv.start : BInv [] 0 0 [] := ⟨by decide, by decide, [], rfl, .inl ⟨rfl, rfl, rfl⟩⟩
theorem BInv.cases {pre : List Int} {lc lb : Int} {out : List Int} (h : BInv pre lc lb out) : (lb = 0 ∨ lb = 2 ∨ lb = 4) ∧ 0 ≤ lc ∧ lc < 65536 := by
  obtain ⟨h1, h2, p0, _, h | h | h⟩ := h
  · exact ⟨.inl h.1, h1, h2⟩
  · exact ⟨.inr (.inl h.1), h1, h2⟩
  · exact ⟨.inr (.inr h.1), h1, h2⟩
theorem BInv.step0 {pre : List Int} {lc n lc' q : Int} {out : List Int} (h : BInv pre lc 0 out) (h0 : 0 ≤ n) (h1 : n < 256) (e : lc' = (lc * 256 + n) % 65536) (eq : q = lc' / 4 % 64) : BInv (pre ++ [n]) lc' 2 (out ++ [sgn q]) := by
  obtain ⟨a1, a2, p0, a3, h | h | h⟩ := h
  · obtain ⟨_, rfl, rfl⟩ := h
    refine ⟨by omega, by omega, pre, a3, .inr (.inl ⟨rfl, n, h0, h1, rfl, by omega, ?_⟩)⟩
    have : q = n / 4 := by omega
    rw [this]
  · exact absurd h.1 (by decide)
  · exact absurd h.1 (by decide)
theorem BInv.step2 {pre : List Int} {lc n lc' q : Int} {out : List Int} (h : BInv pre lc 2 out) (h0 : 0 ≤ n) (h1 : n < 256) (e : lc' = (lc * 256 + n) % 65536) (eq : q = lc' / 16 % 64) : BInv (pre ++ [n]) lc' 4 (out ++ [sgn q]) := by
  obtain ⟨a1, a2, p0, a3, h | h | h⟩ := h
  · exact absurd h.1 (by decide)
  · obtain ⟨_, a, b1, b2, rfl, b3, rfl⟩ := h
    refine ⟨by omega, by omega, p0, a3, .inr (.inr ⟨rfl, a, n, b1, b2, h0, h1, by simp, by omega, ?_⟩)⟩
    have : q = a % 4 * 16 + n / 16 := by omega
    rw [this]
    simp
  · exact absurd h.1 (by decide)
theorem BInv.step4 {pre : List Int} {lc n lc' q q2 : Int} {out : List Int} (h : BInv pre lc 4 out) (h0 : 0 ≤ n) (h1 : n < 256) (e : lc' = (lc * 256 + n) % 65536) (eq : q = lc' / 64 % 64) (eq2 : q2 = lc' % 64) : BInv (pre ++ [n]) lc' 0 ((out ++ [sgn q]) ++ [sgn q2]) := by
  obtain ⟨a1, a2, p0, a3, h | h | h⟩ := h
  · exact absurd h.1 (by decide)
  · exact absurd h.1 (by decide)
  · obtain ⟨_, a, b, b1, b2, b3, b4, rfl, b5, rfl⟩ := h
    refine ⟨by omega, by omega, p0 ++ [a, b, n], by simp; omega, .inl ⟨rfl, by simp, ?_⟩⟩
    have e1 : q = b % 16 * 4 + n / 64 := by omega
    have e2 : q2 = n % 64 := by omega
    rw [six_append a3, e1, e2]
    simp [six]
theorem BInv.done {pre : List Int} {lc lb : Int} {out : List Int} (h : BInv pre lc lb out) (hl : pre.length % 3 = 0) : lb = 0 ∧ out = (six pre).map sgn := by
  obtain ⟨h1, h2, p0, h3, h | h | h⟩ := h
  · obtain ⟨h4, rfl, h5⟩ := h; exact ⟨h4, h5⟩
  · obtain ⟨h4, a, _, _, rfl, _⟩ := h; simp at hl; omega
  · obtain ⟨h4, a, b, _, _, _, _, rfl, _⟩ := h; simp at hl; omega
theorem sgn_in (i : Int) : 0 ≤ sgn i ∧ sgn i < 256 := by
  unfold sgn
  have h : ∀ k ∈ b64tab, 0 ≤ k ∧ k < 256 := by decide
  rw [List.getD_eq_getElem?_getD]
  cases h2 : b64tab[i.toNat]? with
  | none => decide
  | some k => exact h k (List.mem_of_getElem? h2)
theorem six_length : ∀ {p : List Int}, p.length % 3 = 0 → (six p).length = p.length / 3 * 4
  | [], _ => rfl
  | [_], h => by simp at h
  | [_, _], h => by simp at h
  | a :: b :: c :: r, h => by
    have h' : r.length % 3 = 0 := by simp only [List.length_cons] at h; omega
    simp only [six, List.length_cons]
    rw [six_length h']
    omega
theorem signs_in (l : List Int) : ∀ d ∈ l.map sgn, 0 ≤ d ∧ d < 256 := fun d hd => by
  obtain ⟨i, _, rfl⟩ := List.mem_map.mp hd
  exact sgn_in i
end Mine
end PartPl4
section PartPl5
namespace Mine
open PySem PySem.Spec PySem.Calls PySem.W PyProof.Rows
theorem pow64 {i : Nat} (hi : i < 8) {e : Nat} (he : e = 7 - i) : (0 : Int) < 64 ^ e ∧ (64 : Int) ^ e < 18446744073709551616 := by
  subst he
  have : ∀ j < 8, (0 : Int) < 64 ^ (7 - j) ∧ (64 : Int) ^ (7 - j) < 18446744073709551616 := by decide
  exact this i hi
theorem digs_get (n : Nat) : ∀ (k : Nat) (x : Int) , 0 ≤ x → digs n k x = (List.range k).map fun i => x / 2 ^ (n * i) % 2 ^ n
  | 0, _, _ => rfl
  | k + 1, x, hx => by
    rw [List.range_succ_eq_map, List.map_cons, List.map_map, digs, digs_get n k _ (Int.ediv_nonneg hx (Int.le_of_lt (Int.pow_pos (by decide))))]
    simp only [Nat.mul_zero, Int.pow_zero, Int.ediv_one, List.cons.injEq, true_and]
    refine List.map_congr_left fun i _ => ?_
    show x / 2 ^ n / 2 ^ (n * i) % 2 ^ n = x / 2 ^ (n * (i + 1)) % 2 ^ n
    rw [Nat.mul_add, Nat.mul_one, Nat.add_comm, Int.pow_add]
    have p0 : (0 : Int) < 2 ^ n := Int.pow_pos (by decide)
    rw [Int.ediv_ediv, if_neg (fun h => by have := h.1; omega), Int.sub_zero]
theorem eight_digs {x : Int} (hx : 0 ≤ x) : ((List.range 8).map fun i => x / 64 ^ (7 - i) % 64) = (digs 6 8 x).reverse := by
  rw [digs_get 6 8 x hx]
  simp [List.range_succ]
end Mine
end PartPl5
section PartPl6
namespace Mine
def QInv (D R0 : Int) (pre : List Int) (R pl : Int) : Prop := R0 = R + D * pl ∧ 0 ≤ R ∧ R < D * 2 ^ (6 - pre.length)
theorem steps_at {pre post : List Int} {n : Int} (h : [32, 16, 8, 4, 2, 1] = pre ++ n :: post) : pre.length < 6 ∧ n = 2 ^ (5 - pre.length) := by
  match pre, h with
  | [], h => simp at h; exact ⟨by simp, by rw [← h.1]; rfl⟩
  | [_], h => simp at h; exact ⟨by simp, by rw [← h.2.1]; rfl⟩
  | [_, _], h => simp at h; exact ⟨by simp, by rw [← h.2.2.1]; rfl⟩
  | [_, _, _], h => simp at h; exact ⟨by simp, by rw [← h.2.2.2.1]; rfl⟩
  | [_, _, _, _], h => simp at h; exact ⟨by simp, by rw [← h.2.2.2.2.1]; rfl⟩
  | [_, _, _, _, _], h => simp at h; exact ⟨by simp, by rw [← h.2.2.2.2.2.1]; rfl⟩
  | _ :: _ :: _ :: _ :: _ :: _ :: r, h => simp at h
theorem QInv.start {D R0 : Int} (h0 : 0 ≤ R0) (h1 : R0 < D * 64) : QInv D R0 [] R0 0 := ⟨by omega, h0, by simpa using h1⟩
theorem pow_step (D : Int) {k : Nat} (hk : k < 6) : D * 2 ^ (6 - k) = 2 * (D * 2 ^ (5 - k)) := by
  have e : 6 - k = (5 - k) + 1 := by omega
  rw [e, Int.pow_succ, ← Int.mul_assoc, Int.mul_comm]
theorem QInv.take {D R0 R pl z n : Int} {pre post : List Int} (h : QInv D R0 pre R pl) (hs : [32, 16, 8, 4, 2, 1] = pre ++ n :: post) (hz : z = D * n) (hge : z ≤ R) : QInv D R0 (pre ++ [n]) (R - z) (pl + n) := by
  obtain ⟨a, b, c⟩ := h
  obtain ⟨hk, hn⟩ := steps_at hs
  have e := pow_step D hk
  refine ⟨?_, by omega, ?_⟩
  · rw [Int.mul_add, ← hz]; omega
  · rw [List.length_append, List.length_cons, List.length_nil, show 6 - (pre.length + (0 + 1)) = 5 - pre.length by omega, ← hn, ← hz]
    rw [e, ← hn, ← hz] at c
    omega
theorem QInv.leave {D R0 R pl z n : Int} {pre post : List Int} (h : QInv D R0 pre R pl) (hs : [32, 16, 8, 4, 2, 1] = pre ++ n :: post) (hz : z = D * n) (hlt : R < z) : QInv D R0 (pre ++ [n]) R pl := by
  obtain ⟨a, b, c⟩ := h
  obtain ⟨hk, hn⟩ := steps_at hs
  refine ⟨a, b, ?_⟩
  rw [List.length_append, List.length_cons, List.length_nil, show 6 - (pre.length + (0 + 1)) = 5 - pre.length by omega, ← hn, ← hz]
  exact hlt
theorem QInv.done {D R0 R pl : Int} (h : QInv D R0 [32, 16, 8, 4, 2, 1] R pl) (hD : 1 ≤ D) : R = R0 % D ∧ pl = R0 / D := by
  obtain ⟨a, b, c⟩ := h
  have c' : R < D := by simpa using c
  subst a
  constructor
  · rw [Int.add_mul_emod_self_left, Int.emod_eq_of_lt b c']
  · rw [Int.add_mul_ediv_left _ _ (by omega), Int.ediv_eq_zero_of_lt b c', Int.zero_add]
end Mine
end PartPl6
section PartPl7
namespace Mine
def worth (ns : List Int) : Int := ns.foldl (fun a x => a * 64 + x) 0
theorem worth_snoc (ns : List Int) (x : Int) : worth (ns ++ [x]) = worth ns * 64 + x := by unfold worth; rw [List.foldl_append]; rfl
/-- the same upon val, from behind -/
theorem worth_val (ns : List Int) : worth ns = val 6 ns.reverse := by
  have : ∀ rs : List Int, worth rs.reverse = val 6 rs := by
    intro rs
    induction rs with
    | nil => rfl
    | cons x r ih => rw [List.reverse_cons, worth_snoc, ih, val]; have : (2 : Int) ^ 6 = 64 := by decide
                     rw [this]; omega
  rw [← this, List.reverse_reverse]
theorem worth_acc (b : List Int) : ∀ c : Int, b.foldl (fun a x => a * 64 + x) c = c * 64 ^ b.length + worth b := by
  induction b with
  | nil => intro c; simp [worth]
  | cons x r ih =>
    intro c
    have e : worth (x :: r) = x * 64 ^ r.length + worth r := by
      show r.foldl (fun a x => a * 64 + x) (0 * 64 + x) = _
      rw [ih, Int.zero_mul, Int.zero_add]
    rw [List.foldl_cons, ih, e, List.length_cons, Int.pow_succ, Int.add_mul, Int.mul_assoc, Int.mul_comm 64]
    omega
theorem worth_append (a b : List Int) : worth (a ++ b) = worth a * 64 ^ b.length + worth b := by
  unfold worth
  rw [List.foldl_append]
  exact worth_acc b _
theorem worth_63 (k : Nat) : worth (List.replicate k 63) + 1 = 64 ^ k := by
  induction k with
  | zero => rfl
  | succ k ih => rw [List.replicate_succ', worth_snoc, Int.pow_succ]; omega
theorem worth_0 (k : Nat) : worth (List.replicate k 0) = 0 := by
  induction k with
  | zero => rfl
  | succ k ih => rw [List.replicate_succ', worth_snoc, ih]; rfl
/-- the place that the carry has come to -/
def MInv (ns cur : List Int) (place : Int) : Prop := ∃ (hd : List Int) (k : Nat), hd ≠ [] ∧ place = (hd.length : Int) - 1 ∧ ns = hd ++ List.replicate k 63 ∧ cur = hd ++ List.replicate k 0
theorem MInv.start {ns : List Int} (h : ns ≠ []) : MInv ns ns ((ns.length : Int) - 1) := ⟨ns, 0, h, rfl, by simp, by simp⟩
theorem MInv.facts {ns cur : List Int} {place : Int} (h : MInv ns cur place) : 0 ≤ place ∧ place < cur.length ∧ cur.length = ns.length := by
  obtain ⟨hd, k, h1, rfl, rfl, rfl⟩ := h
  have := List.length_pos_iff.mpr h1
  simp only [List.length_append, List.length_replicate]
  refine ⟨by omega, by omega, trivial⟩
theorem snoc_of {hd : List Int} (h : hd ≠ []) : ∃ h' d, hd = h' ++ [d] := ⟨hd.dropLast, hd.getLast h, (List.dropLast_concat_getLast h).symm⟩
theorem at_last {h' t : List Int} {d : Int} {i : Nat} (hi : i = h'.length) : (h' ++ [d] ++ t).getD i 0 = d := by
  subst hi
  simp [List.getD_eq_getElem?_getD]
theorem set_last {h' t : List Int} {d x : Int} {i : Nat} (hi : i = h'.length) : (h' ++ [d] ++ t).set i x = h' ++ [x] ++ t := by
  subst hi
  simp
theorem MInv.turn {ns cur : List Int} {place : Int} (h : MInv ns cur place) (hn : ∃ d ∈ ns, d ≠ 63) (h63 : cur.getD place.toNat 0 = 63) : MInv ns (cur.set place.toNat 0) (place - 1) := by
  obtain ⟨hd, k, h1, rfl, rfl, rfl⟩ := h
  obtain ⟨h', d, rfl⟩ := snoc_of h1
  have e : (((h' ++ [d]).length : Int) - 1).toNat = h'.length := by simp
  rw [at_last e] at h63
  subst h63
  rw [set_last e]
  refine ⟨h', k + 1, ?_, ?_, ?_, ?_⟩
  · intro e0
    subst e0
    obtain ⟨d, hd, hne⟩ := hn
    rw [List.nil_append, ← List.replicate_one, List.replicate_append_replicate] at hd
    exact hne (List.mem_replicate.mp hd).2
  · simp
  · rw [List.append_assoc, List.replicate_succ]; rfl
  · rw [List.append_assoc, List.replicate_succ]; rfl
theorem MInv.last {ns cur : List Int} {place : Int} (h : MInv ns cur place) (hr : ∀ d ∈ ns, 0 ≤ d ∧ d < 64) (h63 : cur.getD place.toNat 0 ≠ 63) :
    (∀ d ∈ cur.set place.toNat (cur.getD place.toNat 0 + 1), 0 ≤ d ∧ d < 64) ∧ worth (cur.set place.toNat (cur.getD place.toNat 0 + 1)) = worth ns + 1 := by
  obtain ⟨hd, k, h1, rfl, rfl, rfl⟩ := h
  obtain ⟨h', d, rfl⟩ := snoc_of h1
  have e : (((h' ++ [d]).length : Int) - 1).toNat = h'.length := by simp
  rw [at_last e] at h63 ⊢
  rw [set_last e]
  constructor
  · intro z hz
    simp only [List.mem_append, List.mem_singleton, List.mem_replicate] at hz
    rcases hz with (hz | rfl) | ⟨_, rfl⟩
    · exact hr z (by simp [hz])
    · have := hr d (by simp)
      omega
    · decide
  · rw [worth_append (h' ++ [d + 1]), worth_append (h' ++ [d]), worth_snoc, worth_snoc, worth_0, List.length_replicate, List.length_replicate]
    have := worth_63 k
    have e2 : (worth h' * 64 + (d + 1)) * 64 ^ k = (worth h' * 64 + d) * 64 ^ k + 64 ^ k := by rw [← Int.add_assoc, Int.add_mul _ 1, Int.one_mul]
    rw [e2]
    omega
end Mine
end PartPl7
section PartPl8
namespace Mine
/-- long division, figure by figure of n bits -/
def DInv (n : Nat) (b : Int) (pre : List Int) (r : Int) (qs : List Int) : Prop := val n pre.reverse = val n qs.reverse * b + r ∧ 0 ≤ r ∧ r < b ∧ (∀ d ∈ qs, 0 ≤ d ∧ d < 2 ^ n) ∧ qs.length = pre.length
theorem DInv.start {n : Nat} {b : Int} (hb : 1 ≤ b) : DInv n b [] 0 [] := ⟨by simp [val], by omega, by omega, by simp, rfl⟩
theorem DInv.step {n : Nat} {b r d x : Int} {pre qs : List Int} (h : DInv n b pre r qs) (hb : 1 ≤ b) (h0 : 0 ≤ d) (h1 : d < 2 ^ n) (hx : x = r * 2 ^ n + d) : DInv n b (pre ++ [d]) (x % b) (qs ++ [x / b]) := by
  obtain ⟨a1, a2, a3, a4, a5⟩ := h
  have p0 : (0 : Int) < 2 ^ n := Int.pow_pos (by decide)
  have hm := Int.emod_add_mul_ediv x b
  have hx0 : 0 ≤ x := hx ▸ Int.add_nonneg (Int.mul_nonneg a2 (Int.le_of_lt p0)) h0
  have hx1 : x < 2 ^ n * b := by
    have : (r + 1) * 2 ^ n ≤ b * 2 ^ n := Int.mul_le_mul_of_nonneg_right (by omega) (Int.le_of_lt p0)
    rw [Int.add_mul, Int.one_mul, Int.mul_comm b] at this
    omega
  refine ⟨?_, Int.emod_nonneg _ (by omega), Int.emod_lt_of_pos _ (by omega), ?_, by simp [a5]⟩
  · simp only [List.reverse_append, List.reverse_cons, List.reverse_nil, List.nil_append, List.cons_append, val]
    rw [a1]
    have e1 : 2 ^ n * (val n qs.reverse * b + r) = 2 ^ n * val n qs.reverse * b + r * 2 ^ n := by rw [Int.mul_add, Int.mul_assoc, Int.mul_comm r]
    have e2 : (x / b + 2 ^ n * val n qs.reverse) * b = b * (x / b) + 2 ^ n * val n qs.reverse * b := by rw [Int.add_mul, Int.mul_comm (x / b)]
    rw [e1, e2]
    omega
  · intro z hz
    rcases List.mem_append.mp hz with hz | hz
    · exact a4 z hz
    · rw [List.mem_singleton.mp hz]
      exact ⟨Int.ediv_nonneg hx0 (by omega), Int.ediv_lt_of_lt_mul (by omega) hx1⟩
theorem DInv.done {n : Nat} {b r a : Int} {ds qs : List Int} (h : DInv n b ds.reverse r qs) (ha : val n ds = a) : val n qs.reverse = a / b ∧ r = a % b := by
  obtain ⟨a1, a2, a3, _, _⟩ := h
  rw [List.reverse_reverse, ha] at a1
  rw [a1]
  constructor
  · rw [Int.mul_comm, Int.add_comm, Int.add_mul_ediv_left _ _ (by omega), Int.ediv_eq_zero_of_lt a2 a3, Int.zero_add]
  · rw [Int.mul_comm, Int.add_comm, Int.add_mul_emod_self_left, Int.emod_eq_of_lt a2 a3]
theorem div_in {r b d : Int} {n : Nat} (h0 : 0 ≤ r) (h1 : r < b) (hb : b ≤ 2147483648) (hn : n ≤ 32) (d0 : 0 ≤ d) (d1 : d < 2 ^ n) : 0 ≤ r * 2 ^ n + d ∧ r * 2 ^ n + d < 2 ^ 200 ∧ 0 ≤ r * 2 ^ n := by
  have p0 : (0 : Int) < 2 ^ n := Int.pow_pos (by decide)
  have p1 : (2 : Int) ^ n ≤ 4294967296 := by
    have := Nat.pow_le_pow_right (n := 2) (by decide) hn
    have h2 : ((2 ^ n : Nat) : Int) ≤ ((2 ^ 32 : Nat) : Int) := Int.ofNat_le.mpr this
    simpa using h2
  have h3 := Int.mul_nonneg h0 (Int.le_of_lt p0)
  have h4 : r * 2 ^ n ≤ 2147483648 * 4294967296 := Int.mul_le_mul (by omega) p1 (Int.le_of_lt p0) (by decide)
  have h5 : (2 : Int) ^ 200 = 1606938044258990275541962092341162602522202993782792835301376 := by decide
  omega
end Mine
end PartPl8
section PartCm
namespace Mine
open PySem PySem.Spec PySem.Calls PySem.W PyProof.Rows
abbrev Keeps (h h' : Heap) : Prop := ∀ b o, h.get? b = some o → h'.get? b = some o
/-- a place where the walk is to stand still -/
def Stop (P : Prop) : Prop := P
theorem stop_here {P : Prop} (h : Stop P) : P := h
theorem Stop.go {P : Prop} (h : P) : Stop P := h
theorem newsSub {h₀ h : Heap} {L : Addr} {news news' : List (Addr × Obj)} (N : News h₀ L h news) (hs : ∀ q ∈ news', q ∈ news) : News h₀ L h news' := fun q hq => N q (hs q hq)
/-- the state of a def's table of codes: nothing made so far, or the one code -/
inductive Nest (P : Addr) (line col : Nat) (qual : Str) : List (Addr × Obj) → Prop
  | none : Nest P line col qual [(P, tabObj #[])]
  | some {c : Addr} {oc : Obj} {vs : Array Value} {t : Tok} : oc.data = .fields vs → vs[1]? = .some (.str qual t) → Nest P line col qual [(P, tabObj #[rawInt line, rawInt col, .ref c]), (c, oc)]
theorem updF_app {d : Addr} {o : Obj} {r : List (Addr × Obj)} (hr : ∀ q ∈ r, q.1 ≠ d) : ∀ {front : List (Addr × Obj)}, (∀ q ∈ front, q.1 ≠ d) → UpdF d o (front ++ (d, o) :: r) (fun o' => front ++ (d, o') :: r)
  | [], _ => .head hr
  | q :: f, h => .tail (h q (.head _)) (updF_app hr fun x hx => h x (.tail _ hx))
def FrontOff (P c' f : Nat) : List (Addr × Obj) → Prop
  | [] => True
  | q :: r => (@LT.lt Nat _ P q.1 ∧ @Ne Nat q.1 c' ∧ @LT.lt Nat _ q.1 f) ∧ FrontOff P c' f r
theorem FrontOff.of {P c' f : Nat} : ∀ {l : List (Addr × Obj)}, (∀ q ∈ l, P < q.1 ∧ q.1 ≠ c' ∧ q.1 < f) → FrontOff P c' f l
  | [], _ => trivial
  | _ :: _, h => ⟨h _ (.head _), FrontOff.of fun x hx => h x (.tail _ hx)⟩
section
variable {M : Model} {A : Around} {E : Value → Shared → Prop} {s : Shared} {name qual : Str} {params : Arguments} {body : List Stmt} {scope : Scope} {cn : Str} {cs : Scope} {L a c P : Addr} {ccd : Value} {cl : List (Str × Addr)} {pos : Pos} {firstLine : Nat} {mg mb : Str → Option Value} {h₀ : Heap} {m : Str → Option Value}
  {clos : List (Str × Addr)} {Q : Value → Shared → Prop} {p : Program} {loose : List Str} {mean : ExcName → Option Value} {front tabs : List (Addr × Obj)}
theorem nestAny (F : Fr h₀ L s.heap m) (N : News h₀ L s.heap (front ++ tabs)) (hN : Nest P pos.line pos.col qual tabs) (hfr : ∀ q ∈ front, ∀ p ∈ tabs, p.1 < q.1) (T : Top p loose mean mg mb h₀) (C : CodeHd h₀ c P) (hcd : ccd = .ref c)
    (hcl : closureFor scope (envX cn cs L a ccd cl) = pure clos)
    (h : ∀ f c' oc vs t ctv doc h' tk, Fr h₀ L h' m →
      News h₀ L h' ((f, fnMade name qual params body scope clos doc ((mg "__name__").getD .none) c' ctv) :: (front ++ [(P, tabObj #[rawInt pos.line, rawInt pos.col, .ref c']), (c', oc)])) →
      oc.data = .fields vs → vs[1]? = some (.str qual t) → FrontOff P c' f front → @LT.lt Nat _ P f → @LT.lt Nat _ c' f → Q (.ref f) { s with heap := h', toks := tk }) :
    wpAny M A (makeFunction name qual params (.stmts body) scope (envX cn cs L a ccd cl) [] [] [] pos firstLine) Q E s := by
  cases hN with
  | none =>
    refine nest_K F N T C hcd (updF_app (List.forall_mem_nil _) fun q hq => Nat.ne_of_gt (hfr q hq _ (.head _))) (ps := #[]) True.intro rfl hcl fun f c' oc vs t ctv doc h' tk F' N' d1 d2 l1 l2 => ?_
    refine h f c' oc vs t ctv doc h' tk F' (fun q hq => N' q ?_) d1 d2 (.of fun q hq => ⟨hfr q hq _ (.head _), Nat.ne_of_lt (l1 q (List.mem_append_left _ hq)), Nat.lt_trans (l1 q (List.mem_append_left _ hq)) l2⟩) (Nat.lt_trans (l1 (P, tabObj #[]) (List.mem_append_right _ (.head _))) l2) l2
    have e : (#[] ++ #[rawInt pos.line, rawInt pos.col, .ref c'] : Array Value) = #[rawInt pos.line, rawInt pos.col, .ref c'] := rfl
    rw [e]
    simp only [List.mem_cons, List.mem_append, List.not_mem_nil, or_false] at hq ⊢
    rcases hq with hq | hq | hq | hq
    · exact .inl hq
    · exact .inr (.inr (.inl hq))
    · exact .inr (.inr (.inr hq))
    · exact .inr (.inl hq)
  | @some c' oc vs t d1 d2 =>
    refine nestHit_K (ps := #[rawInt pos.line, rawInt pos.col, .ref c']) (c' := c') F N T C hcd (List.mem_append_right _ (.head _)) (by simp [TriplesOk, rawInt]) (by simp [codeAmong, rawInt]) hcl fun f ctv doc h' tk F' N' l1 => ?_
    exact h f c' oc vs t ctv doc h' tk F' N' d1 d2 (.of fun q hq => ⟨hfr q hq _ (.head _), Nat.ne_of_gt (hfr q hq _ (.tail _ (.head _))), l1 q (List.mem_append_left _ hq)⟩) (l1 _ (List.mem_append_right _ (.head _))) (l1 _ (List.mem_append_right _ (.tail _ (.head _))))
end
theorem end_int {h₀ h' : Heap} {L : Addr} {m : Str → Option Value} {s : Shared} {Q : Value → Shared → Prop} {x y : Int} {t : Tok} {tk : Nat} {led : List (Addr × Obj)} (ret : ∀ t h' tk, Fr h₀ L h' m → News h₀ L h' led → Q (.int x t) { s with heap := h', toks := tk }) (F : Fr h₀ L h' m) (N : News h₀ L h' led) (e : y = x) : Q (.int y t) { s with heap := h', toks := tk } := by
  subst e; exact ret t h' tk F N
theorem apart_back {h₀ h h' g : Heap} {L L' : Addr} {tabs tabs' news led : List (Addr × Obj)} (Z : Frozen h tabs g) (hNr : News h₀ L h news) (hap : ∀ q ∈ news, ∀ p ∈ tabs, p.1 ≠ q.1) (N9 : News g L' h' led) (hs : ∀ p ∈ tabs', p ∈ led) : ∀ q ∈ news, ∀ p ∈ tabs', p.1 ≠ q.1 := fun q hq p hp e => by
  have h1 := (N9 p (hs p hp)).2.2
  have h2 := Z.get (hNr q hq).1 (hap q hq)
  rw [e, h2] at h1
  cases h1
/-- the table's state behind a call, with the caller's own ledger -/
theorem nest_back {h₀ h h' g : Heap} {L L' : Addr} {m' : Str → Option Value} {P c' : Addr} {ln col : Nat} {q : Str} {oc : Obj} {vs : Array Value} {t' : Tok} {led tabs news : List (Addr × Obj)}
    (Z : Frozen h tabs g) (F9 : Fr g L' h' m') (hNr : News h₀ L h news) (hap : ∀ q ∈ news, ∀ p ∈ tabs, p.1 ≠ q.1) (kN : News h₀ L h' led) (N9 : News g L' h' led) (d1 : oc.data = .fields vs) (d2 : vs[1]? = some (.str q t'))
    (hm1 : (P, tabObj #[rawInt ln, rawInt col, .ref c']) ∈ led) (hm2 : (c', oc) ∈ led) :
    ∃ tabs', Nest P ln col q tabs' ∧ News h₀ L h' (tabs' ++ news) ∧ ∀ q ∈ news, ∀ p ∈ tabs', p.1 ≠ q.1 :=
  have hs : ∀ r ∈ [(P, tabObj #[rawInt ln, rawInt col, .ref c']), (c', oc)], r ∈ led := fun r hr => by
    cases hr with
    | head => exact hm1
    | tail _ hr => cases hr with
      | head => exact hm2
      | tail _ hr => cases hr
  ⟨_, .some d1 d2, thaw Z F9 hNr hap (newsSub kN hs), apart_back Z hNr hap N9 hs⟩
theorem nest_back1 {h₀ h h' g : Heap} {L L' : Addr} {m' : Str → Option Value} {P c' r : Addr} {o : Obj} {ln col : Nat} {q : Str} {oc : Obj} {vs : Array Value} {t' : Tok} {led tabs news : List (Addr × Obj)}
    (Z : Frozen h tabs g) (F9 : Fr g L' h' m') (hNr : News h₀ L h news) (hap : ∀ q ∈ news, ∀ p ∈ tabs, p.1 ≠ q.1) (kN : News h₀ L h' led) (N9 : News g L' h' led) (d1 : oc.data = .fields vs) (d2 : vs[1]? = some (.str q t'))
    (hm1 : (P, tabObj #[rawInt ln, rawInt col, .ref c']) ∈ led) (hm2 : (c', oc) ∈ led) (hm3 : (r, o) ∈ led) :
    ∃ tabs', Nest P ln col q tabs' ∧ News h₀ L h' ((r, o) :: tabs' ++ news) ∧ ∀ q ∈ news, ∀ p ∈ tabs', p.1 ≠ q.1 :=
  let ⟨t, a, b, c⟩ := nest_back Z F9 hNr hap kN N9 d1 d2 hm1 hm2
  ⟨t, a, List.forall_mem_cons.mpr ⟨kN _ hm3, b⟩, c⟩
/-- lists and tuples lie apart from the tables -/
theorem apart_seq {h₀ h : Heap} {L : Addr} {P ln col : Nat} {q : Str} {tabs led : List (Addr × Obj)} {a : Addr} {o : Obj} {its : Array Value} {k : Nat} (hT : Nest P ln col q tabs) (Nt : News h₀ L h tabs) (ha : h.get? a = some o) (hd : o.data = .seq its k) : ∀ p ∈ tabs, p.1 ≠ a := fun p hp e => by
  have h1 := (Nt p hp).1
  rw [e, ha] at h1
  cases hT with
  | none =>
    cases hp with
    | head => cases h1; cases hd
    | tail _ hp => cases hp
  | some d1 d2 =>
    cases hp with
    | head => cases h1; cases hd
    | tail _ hp => cases hp with
      | head => cases h1; rw [d1] at hd; cases hd
      | tail _ hp => cases hp
abbrev MD (w : World) : Model := model PySem.Challenge.rw_nb0147_01.row.prog w
end Mine
end PartCm
section PartRu
namespace Mine
open PySem PySem.Spec PySem.Calls PySem.W PyProof.Rows
section
variable {prog : Program} {w : World} {A : Around} {E : Value → Shared → Prop} {s : Shared} {a b : Int} {t u : Tok} {Q : Value → Shared → Prop} {h₀ : Heap} {L : Addr} {m : Str → Option Value} {news : List (Addr × Obj)}
theorem rshift1 (h : ∀ q : Int, 2 * q ≤ a → a < 2 * q + 2 → Q (.int q s.toks) { s with toks := s.toks + 1 }) : wpAny (model prog w) A (binaryOp .RShift (.int a t) (.int 1 u)) Q E s := by
  refine rshift_int (by decide) ?_
  have e : a.fdiv (2 ^ (1 : Int).toNat) = a / 2 := by
    show a.fdiv 2 = a / 2
    exact Int.fdiv_eq_ediv_of_nonneg _ (by decide)
  rw [e]
  exact h _ (by omega) (by omega)
theorem rshift_eq (hb : 0 ≤ b) (h : ∀ q : Int, q = a / 2 ^ b.toNat → Q (.int q s.toks) { s with toks := s.toks + 1 }) : wpAny (model prog w) A (binaryOp .RShift (.int a t) (.int b u)) Q E s := by
  refine rshift_int hb ?_
  rw [Int.fdiv_eq_ediv_of_nonneg _ (Int.le_of_lt (Int.pow_pos (by decide)))]
  exact h _ rfl
theorem mul_eq (ha : a.natAbs < 18446744073709551616) (h : ∀ z : Int, z = a * b → Q (.int z s.toks) { s with toks := s.toks + 1 }) : wpAny (model prog w) A (binaryOp .Mult (.int a t) (.int b u)) Q E s :=
  PyProof.Rows.mul_int (h _ rfl) (.of_left (PySem.intBits_le_iff.mpr (by simpa using ha)))
theorem lshift_eq (hn : 0 ≤ b ∧ (Builtin.Int.intBits a : Int) + b ≤ 2 ^ 27) (h : Q (.int (a * 2 ^ b.toNat) s.toks) { s with toks := s.toks + 1 }) : wpAny (model prog w) A (binaryOp .LShift (.int a t) (.int b u)) Q E s :=
  lshift_int hn.1 hn.2 h
theorem xor_eq {c : Int} (e : Builtin.bitXor a b = c) (h : Q (.int c s.toks) { s with toks := s.toks + 1 }) : wpAny (model prog w) A (binaryOp .BitXor (.int a t) (.int b u)) Q E s := xor_int (e ▸ h)
theorem noPy {a b : Int} (hb : 0 < b) (hb2 : b < 18446744073709551616) : Builtin.divisionGoesByPylong a b = false := by
  refine PyProof.noPylong_of_log2 ?_
  have h1 : b.natAbs ≠ 0 := by omega
  have h2 : b.natAbs < 2 ^ 64 := by have : (2 : Nat) ^ 64 = 18446744073709551616 := by decide
                                    omega
  exact Nat.lt_trans ((Nat.log2_lt h1).mpr h2) (by decide)
theorem mod_eq (hb : 0 < b) (h : ∀ q : Int, q = a % b → Q (.int q s.toks) { s with toks := s.toks + 1 }) : wpAny (model prog w) A (binaryOp .Mod (.int a t) (.int b u)) Q E s := by
  refine mod_int' (by omega) ?_
  rw [Int.fmod_eq_emod_of_nonneg _ (by omega)]
  exact h _ rfl
theorem fdiv_eq (hb : 0 < b) (hb2 : b < 18446744073709551616) (h : ∀ q : Int, q = a / b → Q (.int q s.toks) { s with toks := s.toks + 1 }) : wpAny (model prog w) A (binaryOp .FloorDiv (.int a t) (.int b u)) Q E s := by
  refine floordiv_int (by omega) ?_ (.inl (noPy hb hb2))
  rw [Int.fdiv_eq_ediv_of_nonneg _ (by omega)]
  exact h _ rfl
theorem and16 (h : ∀ q : Int, q = a % 65536 → Q (.int q s.toks) { s with toks := s.toks + 1 }) : wpAny (model prog w) A (binaryOp .BitAnd (.int a t) (.int 65535 u)) Q E s := and_int (by rw [bitAnd_m16]; exact h _ rfl)
theorem and6 (h : ∀ q : Int, q = a % 64 → Q (.int q s.toks) { s with toks := s.toks + 1 }) : wpAny (model prog w) A (binaryOp .BitAnd (.int a t) (.int 63 u)) Q E s := and_int (by rw [bitAnd_m6]; exact h _ rfl)
theorem or_eq {c : Int} (e : Builtin.bitOr a b = c) (h : Q (.int c s.toks) { s with toks := s.toks + 1 }) : wpAny (model prog w) A (binaryOp .BitOr (.int a t) (.int b u)) Q E s := or_int (e ▸ h)
theorem app_ints {D : Addr} {vs : List Value} {ns : List Int} {n : Nat} {x : Int} {tx : Tok} {news' : List (Addr × Obj)} (F : Fr h₀ L s.heap m) (N : News h₀ L s.heap news) (U : Upd D (listOf vs.toArray n) (listOf (vs ++ [Value.int x tx]).toArray (n + 1)) news news') (hi : IntsAre vs ns) (hz : ns.length ≤ 1000)
    (h : ∀ h', Fr h₀ L h' m → News h₀ L h' news' → IntsAre (vs ++ [Value.int x tx]) (ns ++ [x]) → Q .none { s with heap := h' }) : wpAny (model prog w) A (call (.builtin "list.append") [.ref D, .int x tx]) Q E s := by
  refine append_K F N (its := vs.toArray) (n := n) ?_ (fun h' F' N' => h h' F' N' (hi.append (.cons x tx .nil))) (by rw [List.size_toArray, hi.length, sizeLine_eq]; omega)
  rw [List.push_toArray]
  exact U
theorem rep_flat (v : Value) (k : Nat) : List.foldl (fun x1 x2 => x1 ++ x2) #[] (List.replicate k #[v]) = (List.replicate k v).toArray := by
  have : ∀ (k : Nat) (acc : Array Value), List.foldl (fun x1 x2 => x1 ++ x2) acc (List.replicate k #[v]) = acc ++ (List.replicate k v).toArray := by
    intro k
    induction k with
    | zero => intro acc; simp
    | succ k ih => intro acc; rw [List.replicate_succ, List.foldl_cons, ih, List.replicate_succ, ← Array.toList_inj]; simp [List.append_assoc]
  rw [this]; simp
theorem ints_rep (t : Tok) (c : Int) : ∀ k : Nat, IntsAre (List.replicate k (.int c t)) (List.replicate k c)
  | 0 => .nil
  | k + 1 => .cons c t (ints_rep t c k)
theorem zeros_K {l : Addr} {c : Int} {tc : Tok} {k0 : Nat} {x : Int} (F : Fr h₀ L s.heap m) (N : News h₀ L s.heap news) (hm : (l, listOf #[.int c tc] k0) ∈ news) (hx0 : 0 ≤ x) (hx1 : x ≤ 1000)
    (h : ∀ r h' vs ns, Fr h₀ L h' m → News h₀ L h' ((r, listOf vs.toArray 0) :: news) → (∀ q ∈ news, q.1 < r) → IntsAre vs ns → ns = List.replicate x.toNat c → (ns.length : Int) = x → Q (.ref r) { s with heap := h' }) :
    wpAny (model prog w) A (binaryOp .Mult (.ref l) (.int x u)) Q E s := by
  refine mul_list F N (N _ hm).1 (by omega) (by omega) (by simp only [List.size_toArray, List.length_cons, List.length_nil]; omega) fun h' F' N' => ?_
  have e : List.foldl (fun x1 x2 => x1 ++ x2) #[] (List.replicate (if (#[Value.int c tc] : Array Value).isEmpty = true then 0 else x.toNat) #[Value.int c tc]) = (List.replicate x.toNat (Value.int c tc)).toArray := rep_flat _ _
  rw [e] at N'
  exact h _ h' _ _ F' N' (fun q hq => Heap.lt_size (N q hq).1) (ints_rep tc c _) rfl (by rw [List.length_replicate]; omega)
end
def AllGe (B : Nat) : List (Addr × Obj) → Prop
  | [] => True
  | q :: r => @LE.le Nat _ B q.1 ∧ AllGe B r
theorem AllGe.of {B : Nat} {l : List (Addr × Obj)} (h : AllGe B l) : ∀ q ∈ l, B ≤ q.1 := by
  induction l with
  | nil => exact List.forall_mem_nil _
  | cons x r ih => exact List.forall_mem_cons.mpr ⟨h.1, ih h.2⟩
theorem front_above {front tabs : List (Addr × Obj)} {B : Nat} (hlt : ∀ p ∈ tabs, p.1 < B) (hf : AllGe B front) : ∀ q ∈ front, ∀ p ∈ tabs, p.1 < q.1 := fun q hq p hp => Nat.lt_of_lt_of_le (hlt p hp) (hf.of q hq)
theorem drop2 {h₀ h : Heap} {L : Addr} {x y : Addr × Obj} {r : List (Addr × Obj)} (N : News h₀ L h (x :: y :: r)) : News h₀ L h (x :: r) := newsSub N fun q hq => by
  cases hq with
  | head => exact .head _
  | tail _ hq => exact .tail _ (.tail _ hq)
theorem swap2 {h₀ h : Heap} {L : Addr} {x y : Addr × Obj} {r : List (Addr × Obj)} (N : News h₀ L h (x :: y :: r)) : News h₀ L h (y :: x :: r) := newsSub N fun q hq => by
  cases hq with
  | head => exact .tail _ (.head _)
  | tail _ hq => cases hq with
    | head => exact .head _
    | tail _ hq => exact .tail _ (.tail _ hq)
theorem off_tabs {tabs : List (Addr × Obj)} {B d : Nat} (h : ∀ p ∈ tabs, p.1 < B) (hd : B ≤ d) : ∀ p ∈ tabs, p.1 ≠ d := fun p hp => Nat.ne_of_lt (Nat.lt_of_lt_of_le (h p hp) hd)
end Mine
end PartRu
section PartCp
namespace Mine
open PySem PySem.Spec PySem.Calls PySem.W PyProof.Rows PyProof.Rows.LCg
section
variable {prog : Program} {w : World} {A : Around} {E : Value → Shared → Prop} {s : Shared} {h₀ : Heap} {L : Addr} {m : Str → Option Value} {env : Env}
def SrcD (prog : Program) (w : World) (A : Around) (h₀ : Heap) (L : Addr) (m : Str → Option Value) (env : Env) (elt : Expr) (x : Str) (scope : Scope) (cl : List (Str × Addr)) (Fin : Shared → List Value → List (Addr × Obj) → Prop) (xv : Value) (s₁ : Shared) : Prop :=
  ∃ r a b c t u v n news, xv = .ref r ∧ A.handled = none ∧ Fr h₀ L s₁.heap m ∧ News h₀ L s₁.heap news ∧ IsRange s₁.heap r a b c t u v ∧ Builtin.Range.small a b c = true ∧ Builtin.Range.rangeSize a b c = ((n : Nat) : Int) ∧ n ≤ sizeLine ∧
    ∀ s₂ : Shared, (∃ h, s₂ = { s₁ with heap := h }) → CompRest prog w A h₀ L m env elt x scope cl s₂ (fun _ => True) (fun i v => ∃ t, v = .int (a + (i : Int) * c) t) (Fin s₂) n 0 [] news
theorem range_stD {I : Addr} {a c : Int} {n : Nat} : ∀ i (h h' : Heap) (o : Obj) (nw : List (Addr × Obj)), IsRangeIter h I (a + (i : Nat) * c) ((n : Int) - (i : Nat)) c → h.get? I = some o → h'.get? I = some o → (∀ b o, h₀.get? b = some o → h'.get? b = some o) → News h₀ L h' nw → True → IsRangeIter h' I (a + (i : Nat) * c) ((n : Int) - (i : Nat)) c :=
  fun i h h' o nw st e e' _ _ _ => by
    have st' : h.get? I = some _ := st
    show h'.get? I = some _
    rw [e', ← e]; exact st'
/-- a comprehension over a range of any step -/
theorem ListComp_D {elt iter : Expr} {x : Str} {px : Pos} {scope : Scope} {cl : List (Str × Addr)} {pos : Pos} {Q : Value → Shared → Prop} (_F₀ : Fr h₀ L s.heap m)
    (hclos : closureFor scope env = pure cl) (hcell : ∀ y ∈ scope.names, y.2 ≠ .cell) (hkind : scope.kind = .function)
    (hnames : ∀ y ∈ scope.names, y.2 = .local → scope.names.lookup y.1 = some .local) (hx : scope.names.lookup x = some .local)
    (h : wpAny (model prog w) A (eval iter env) (SrcD prog w A h₀ L m env elt x scope cl (fun s₂ => FinE h₀ L m s₂ Q)) E s)
    (hs : ∀ x, foldedSetIterable iter env x = pure x := by intro _; rfl) :
    wpAny (model prog w) A (eval (.ListComp elt [⟨.Name x px, iter, [], 0⟩] scope pos) env) Q E s := by
  rw [eval_ListComp]
  refine wpAny_comprehension_free (use := none) rfl hs hclos hkind hnames (wpAny_mono h (fun xv s₁ h₁ => ?_) fun _ _ e => e)
  obtain ⟨r, a, b, c, t, u, v, n, news, rfl, hh, F, N, hr, hsm, hn, hsz, R⟩ := h₁
  refine wpAny_pyIter_range hr hsm ?_
  refine block_U (Walks.range hh _ a c n) hsz (fun i h st => ⟨_, st⟩) range_stD hcell hkind hx (by show IsRangeIter _ _ _ _ _; rw [hn]; simpa using Heap.get?_push_size _ rfl) (fun b hb => ?_)
    (F.keeps fun _ _ e => Heap.get?_push_of_some _ e) (N.grown fun _ _ e => Heap.get?_push_of_some _ e) (Nat.ne_of_lt F.ns.lt) (next_is_new F) (fun p hp => Nat.ne_of_lt (Heap.lt_size (N p hp).1)) trivial (R _ ⟨_, rfl⟩) ?_
  · rw [List.mem_singleton.mp hb]
    show s₁.heap.objs.size < (s₁.heap.push _).objs.size
    rw [Heap.size_push]; exact Nat.lt_succ_self _
  · intro D C h tk m' ys news' F' N' o1 hn hC₀ hD₀ hCL hDL hCD offC fin
    refine ⟨m', hn, fun h'' hs'' => fin D h'' tk (F'.change hs'' hCL hC₀) (fun p hp => ?_) o1⟩
    refine ⟨hs''.extBut _ _ ?_ (N' p hp).1, (N' p hp).2⟩
    rcases List.mem_cons.mp hp with rfl | hp
    · exact Ne.symm hCD
    · exact offC p hp
/-- what an element leaves -/
def EltEnd (h₀ : Heap) (L : Addr) (m : Str → Option Value) (s : Shared) (led : List (Addr × Obj)) (z : Int) (y : Value) (s₂ : Shared) : Prop :=
  ∃ h' tk' t, y = .int z t ∧ s₂ = { s with heap := h', toks := tk' } ∧ Fr h₀ L h' m ∧ News h₀ L h' led
theorem EltEnd.intro {led : List (Addr × Obj)} {z z' : Int} {t : Tok} {h' : Heap} {tk' : Nat} (F : Fr h₀ L h' m) (N : News h₀ L h' led) (e : z' = z) : EltEnd h₀ L m s led z (.int z' t) { s with heap := h', toks := tk' } :=
  ⟨h', tk', t, by rw [e], rfl, F, N⟩
theorem rest_ints {elt : Expr} {x : Str} {scope : Scope} {cl : List (Str × Addr)} {P : Nat → Value → Prop} {Fin : List Value → List (Addr × Obj) → Prop} {news : List (Addr × Obj)} {n : Nat} (f : Nat → Int)
    (hel : ∀ i v I oI C oC D m₂ h tk (E' : Value → Shared → Prop) ys, i < n → P i v → NsObj oC m₂ → m₂ x = some v → Fr h₀ L h m → News h₀ L h ((I, oI) :: (C, oC) :: (D, lst ys) :: news) → Off3 I C D news → ((@Ne Nat I C) ∧ (@Ne Nat I D) ∧ (@Ne Nat C D)) →
      wpAny (model prog w) A (eval elt (compEnvC scope cl C env)) (EltEnd h₀ L m s ((I, oI) :: (C, oC) :: (D, lst ys) :: news) (f i)) E' { s with heap := h, toks := tk })
    (hfin : ∀ ys, IntsAre ys ((List.range n).map f) → Fin ys news) :
    CompRest prog w A h₀ L m env elt x scope cl s (fun _ => True) P Fin n 0 [] news := by
  have key : ∀ k i ys, i + k = n → IntsAre ys ((List.range i).map f) → CompRest prog w A h₀ L m env elt x scope cl s (fun _ => True) P Fin k i ys news := by
    intro k
    induction k with
    | zero => intro i ys e hy; rw [Nat.add_zero] at e; subst e; exact hfin ys hy
    | succ k ih =>
      intro i ys e hy
      refine CompRest.succ fun v I oI C oC D m₂ h tk E' hP hC hx F N off ne => ?_
      refine wpAny_mono (hel i v I oI C oC D m₂ h tk E' ys (by omega) hP hC hx F N off ne) (fun y s₂ q => ?_) fun _ _ e => e
      obtain ⟨h', tk', t, rfl, rfl, F', N'⟩ := q
      refine ⟨h', tk', news, rfl, F', N', off, trivial, ih (i + 1) _ (by omega) ?_⟩
      rw [List.range_succ, List.map_append]
      exact hy.append (.cons _ t .nil)
  exact key n 0 [] (by omega) .nil
end
end Mine
end PartCp
section PartLp
namespace Mine
open PySem PySem.Spec PySem.Calls PySem.W PyProof.Rows
section
variable {prog : Program} {w : World} {A : Around} {E : Value → Shared → Prop} {s : Shared} {env : Env} {h₀ : Heap} {x : Str} {body : List Stmt} {Q : Flow → Shared → Prop}
/-- a loop over ints by what holds of its state, whatever it walks over -/
theorem kst_any {σ : Type} {I : Addr} {fp wr : List Addr} {n : Nat} {P' : Nat → Value → Prop} {St : Nat → Heap → Prop} {ns : List Int} {m₀ : Str → Option Value} (W : Walks prog w A I fp wr n P' St) (hit : ∀ i v, i < n → P' i v → ∃ k t, ns[i]? = some k ∧ v = .int k t) (hnn : ns.length = n)
    (Led : σ → List (Addr × Obj)) (ps : σ → List (Str × Value)) (Facts : σ → Prop) (stored : List Str) (P : List Int → σ → Prop) (c₀ : σ)
    (hLf : env.locals ∉ fp) (hwr : ∀ b ∈ wr, h₀.get? b = none) (hnw : ∀ q ∈ Led c₀, q.1 ∉ wr) (hfp : ∀ q ∈ Led c₀, q.1 ∉ fp) (hst : St 0 s.heap) (F : Fr h₀ env.locals s.heap m₀) (N : News h₀ env.locals s.heap (Led c₀)) (hf : Facts c₀) (hk : ∀ p ∈ ps c₀, m₀ p.1 = some p.2) (hp : P [] c₀)
    (turn : ∀ (c : σ) pre post n t (u : Str → Option Value) h tk own, ns = pre ++ n :: post → n ∈ ns → OwnOff own ((Led c₀).map (·.1)) → Facts c → P pre c →
      Fr h₀ env.locals h (fun y => if y = x then some (.int n t) else kstB (fun z => if stored.contains z then u z else m₀ z) (ps c) y) → News h₀ env.locals h (Led c ++ own) →
      wpAny (model prog w) A (execs body env) (InvPostN h₀ env.locals (KstS Led ps Facts x stored m₀ P (pre ++ [n])) own ((Led c₀).map (·.1)) { s with heap := h, toks := tk } Q) E { s with heap := h, toks := tk })
    (done : ∀ (c : σ) (u : Str → Option Value) h tk, Facts c → P ns c → Fr h₀ env.locals h (fun y => if y = x then u y else kstB (fun z => if stored.contains z then u z else m₀ z) (ps c) y) → News h₀ env.locals h (Led c) → Q .next { s with heap := h, toks := tk }) :
    LoopAtV prog w A h₀ env x body Q E (.ref I) s := by
  refine loop_invN (fun i m nx => KstS Led ps Facts x stored m₀ P (ns.take i) m nx) W hLf hwr hnw hfp hst F N ⟨c₀, rfl, hf, hk, fun _ _ _ _ => rfl, by simpa using hp⟩ ?_ ?_
  · rintro i v m₁ nx h tk own hi hv _ hoff ⟨c, rfl, hf', h1, h2, hp'⟩ F₁ N₁
    obtain ⟨n, t, hn, rfl⟩ := hit i v hi hv
    have hs : ns.take (i + 1) = ns.take i ++ [n] := by simp [List.take_add_one, hn]
    have e : ns = ns.take i ++ n :: ns.drop (i + 1) := by
      have ht := List.take_append_drop (i + 1) ns
      rw [hs, List.append_assoc] at ht
      exact ht.symm
    rw [hs]
    exact turn c _ _ n t m₁ h tk own e (List.mem_of_getElem? hn) hoff hf' hp' (kst_fr h1 h2 F₁) N₁
  · rintro m₁ nx h tk ⟨c, rfl, hf', h1, h2, hp'⟩ F₁ N₁
    rw [← hnn, List.take_length] at hp'
    exact done c m₁ h tk hf' hp' (kst_frOut h1 h2 F₁) N₁
/-- over a tuple of ints that the call has made -/
theorem kst_tup {σ : Type} {l : Addr} {vs : List Value} {ns : List Int} {m₀ : Str → Option Value} (Led : σ → List (Addr × Obj)) (ps : σ → List (Str × Value)) (Facts : σ → Prop) (stored : List Str) (P : List Int → σ → Prop) (c₀ : σ)
    (hh : A.handled = none) (hl : s.heap.IsTuple l vs.toArray) (hlL : env.locals ≠ l) (hll : ∀ q ∈ Led c₀, q.1 ≠ l) (hi : IntsAre vs ns) (F : Fr h₀ env.locals s.heap m₀) (N : News h₀ env.locals s.heap (Led c₀)) (hf : Facts c₀) (hk : ∀ p ∈ ps c₀, m₀ p.1 = some p.2) (hp : P [] c₀)
    (turn : ∀ (c : σ) pre post n t (u : Str → Option Value) h tk own, ns = pre ++ n :: post → n ∈ ns → OwnOff own ((Led c₀).map (·.1)) → Facts c → P pre c →
      Fr h₀ env.locals h (fun y => if y = x then some (.int n t) else kstB (fun z => if stored.contains z then u z else m₀ z) (ps c) y) → News h₀ env.locals h (Led c ++ own) →
      wpAny (model prog w) A (execs body env) (InvPostN h₀ env.locals (KstS Led ps Facts x stored m₀ P (pre ++ [n])) own ((Led c₀).map (·.1)) { s with heap := h, toks := tk } Q) E { s with heap := h, toks := tk })
    (done : ∀ (c : σ) (u : Str → Option Value) h tk, Facts c → P ns c → Fr h₀ env.locals h (fun y => if y = x then u y else kstB (fun z => if stored.contains z then u z else m₀ z) (ps c) y) → News h₀ env.locals h (Led c) → Q .next { s with heap := h, toks := tk }) :
    wpAny (model prog w) A (pyIter (.ref l)) (fun it s₂ => LoopAtV prog w A h₀ env x body Q E it s₂) E s := by
  obtain ⟨ol, hol, _⟩ := id hl
  have hlt : l < s.heap.objs.size := Heap.lt_size hol
  refine wpAny_pyIter_tuple hl ?_
  have W := Walks.tuple (prog := prog) (w := w) hh s.heap.objs.size l (Nat.ne_of_lt hlt) vs.toArray
  refine kst_any W (fun i v _ hv => ?_) (by simp [hi.length]) Led ps Facts stored P c₀ ?_ ?_ ?_ ?_ ⟨⟨_, Heap.get?_push_size _ rfl, rfl, rfl⟩, hl.at fun o e => Heap.get?_push_of_some _ e⟩ (F.push _) (fun p hp => ⟨Heap.get?_push_of_some _ (N p hp).1, (N p hp).2⟩) hf hk hp turn done
  · have hv' : vs[i]? = some v := by simpa using hv
    have hlt' : i < ns.length := by
      have := (List.getElem?_eq_some_iff.mp hv').1
      rw [← hi.length]; exact this
    obtain ⟨t, hx⟩ := hi.get i ns[i] (by simp [hlt'])
    refine ⟨ns[i], t, by simp [hlt'], ?_⟩
    rw [hx] at hv'; exact (Option.some.inj hv').symm
  · intro hm
    rcases List.mem_cons.mp hm with e | hm
    · exact absurd F.ns.lt (e ▸ Nat.lt_irrefl _)
    · exact hlL (List.mem_singleton.mp hm)
  · intro b hb
    rw [List.mem_singleton.mp hb]
    exact next_is_new F
  · intro p hp hI
    exact absurd (Heap.lt_size (N p hp).1) ((List.mem_singleton.mp hI) ▸ Nat.lt_irrefl _)
  · intro p hp hI
    rcases List.mem_cons.mp hI with e | hm
    · exact absurd (Heap.lt_size (N p hp).1) (e ▸ Nat.lt_irrefl _)
    · exact hll p hp (List.mem_singleton.mp hm)
/-- over reversed(xs), xs a list of ints that the call has made -/
theorem kst_rev {σ : Type} {I l : Addr} {vs : List Value} {ns : List Int} {m₀ : Str → Option Value} (Led : σ → List (Addr × Obj)) (ps : σ → List (Str × Value)) (Facts : σ → Prop) (stored : List Str) (P : List Int → σ → Prop) (c₀ : σ)
    (hh : A.handled = none) (hit : s.heap.IsRevIter I l ((vs.length : Int) - 1)) (hl : s.heap.IsList l vs.toArray) (hlI : l ≠ I) (hLI : env.locals ≠ I) (hLl : env.locals ≠ l) (hI₀ : h₀.get? I = none) (hoI : ∀ q ∈ Led c₀, q.1 ≠ I) (hol : ∀ q ∈ Led c₀, q.1 ≠ l) (hi : IntsAre vs ns) (F : Fr h₀ env.locals s.heap m₀) (N : News h₀ env.locals s.heap (Led c₀)) (hf : Facts c₀) (hk : ∀ p ∈ ps c₀, m₀ p.1 = some p.2) (hp : P [] c₀)
    (turn : ∀ (c : σ) pre post n t (u : Str → Option Value) h tk own, ns.reverse = pre ++ n :: post → n ∈ ns.reverse → OwnOff own ((Led c₀).map (·.1)) → Facts c → P pre c →
      Fr h₀ env.locals h (fun y => if y = x then some (.int n t) else kstB (fun z => if stored.contains z then u z else m₀ z) (ps c) y) → News h₀ env.locals h (Led c ++ own) →
      wpAny (model prog w) A (execs body env) (InvPostN h₀ env.locals (KstS Led ps Facts x stored m₀ P (pre ++ [n])) own ((Led c₀).map (·.1)) { s with heap := h, toks := tk } Q) E { s with heap := h, toks := tk })
    (done : ∀ (c : σ) (u : Str → Option Value) h tk, Facts c → P ns.reverse c → Fr h₀ env.locals h (fun y => if y = x then u y else kstB (fun z => if stored.contains z then u z else m₀ z) (ps c) y) → News h₀ env.locals h (Led c) → Q .next { s with heap := h, toks := tk }) :
    wpAny (model prog w) A (pyIter (.ref I)) (fun it s₂ => LoopAtV prog w A h₀ env x body Q E it s₂) E s := by
  refine wpAny_pyIter_revIter hit ?_
  have W := Walks.listRev (prog := prog) (w := w) hh I l hlI vs.toArray
  refine kst_any W (fun i v hin hv => ?_) (by simp [hi.length]) Led ps Facts stored P c₀ ?_ ?_ ?_ ?_ ⟨Nat.zero_le _, by simpa using hit, hl⟩ F N hf hk hp turn done
  · have hin' : i < vs.length := by simpa using hin
    have hv' : vs.reverse[i]? = some v := by
      rw [List.getElem?_reverse hin']
      rw [List.size_toArray, List.getElem?_toArray] at hv
      exact hv
    have hr := hi.reverse
    have hlt' : i < ns.reverse.length := by rw [List.length_reverse, ← hi.length]; exact hin'
    obtain ⟨t, hx⟩ := hr.get i ns.reverse[i] (List.getElem?_eq_getElem hlt')
    refine ⟨ns.reverse[i], t, List.getElem?_eq_getElem hlt', ?_⟩
    rw [hx] at hv'; exact (Option.some.inj hv').symm
  · intro hm
    rcases List.mem_cons.mp hm with e | hm
    · exact hLI e
    · exact hLl (List.mem_singleton.mp hm)
  · intro b hb
    rw [List.mem_singleton.mp hb]
    exact hI₀
  · intro q hq hI
    exact hoI q hq (List.mem_singleton.mp hI)
  · intro q hq hI
    rcases List.mem_cons.mp hI with e | hm
    · exact hoI q hq e
    · exact hol q hq (List.mem_singleton.mp hm)
end
section
variable {prog : Program} {w : World} {A : Around} {E : Value → Shared → Prop} {s : Shared} {h₀ : Heap} {L : Addr} {m : Str → Option Value} {news : List (Addr × Obj)}
/-- xs[:] -/
theorem copy_K {value slice : Expr} {l : Addr} {vs : List Value} {ns : List Int} {ops : List Value} {Q : Value → Shared → Prop} (F : Fr h₀ L s.heap m) (N : News h₀ L s.heap news) (hl : s.heap.IsList l vs.toArray) (hi : IntsAre vs ns) (hlen : ns.length ≤ 1000)
    (h : ∀ D h', Fr h₀ L h' m → News h₀ L h' ((D, listOf vs.toArray 0) :: news) → (∀ p ∈ news, p.1 < D) → Q (.ref D) { s with heap := h' })
    (hs : subscripted slice false (.ref l) (.ref s.heap.objs.size) = operate ops (getItem (.ref l) (.ref s.heap.objs.size)) := by with_unfolding_all rfl)
    (ht : ∀ r, letTemporaryGo value (.ref l) r = pure () := by intro _; with_unfolding_all rfl) :
    wpAny (model prog w) A (subscriptTail value slice (.ref l) (.ref s.heap.objs.size)) Q E { s with heap := s.heap.push { cls := .type "slice", data := .fields #[.none, .none, .none] } } := by
  refine slice_list3 F N hl .none .none .none (by decide) (fun h' F' N' => h _ h' F' ?_ fun p hp => Nat.lt_succ_of_lt (Heap.lt_size (N p hp).1)) hs ht (by rw [List.size_toArray, hi.length, sizeLine_eq]; omega)
  rw [slicePick_all] at N'
  exact N'
end
end Mine
end PartLp
section PartC2
namespace Mine
open PySem PySem.Spec PySem.Calls PySem.W PyProof.Rows
def InnerD (w : World) (p : Program) (loose : List Str) (mean : ExcName → Option Value) (mg mb : Str → Option Value) (f : Addr) (frz : List (Addr × Obj)) (l : Addr) (vs : List Value) (ds : List Int) (nn : Nat) (k : Nat) : Prop :=
  ∀ (dp un : Nat) (gd : Option (List Code)) (cn : Str) (cs : Scope) (L a : Addr) (ccd : Value) (cl : List (Str × Addr)) (outer : List Env) (A₀ : Around) (base h₀ : Heap) (m : Str → Option Value) (s : Shared) (Q E : Value → Shared → Prop) (lo hi : Int) (tl th : Tok),
    Below A₀ base outer h₀ → Fr h₀ L s.heap m → (hd.heap_39 w.params).In h₀ → News h₀ L s.heap frz → Top p loose mean mg mb h₀ → cs.kind = .function → h₀.IsList l vs.toArray →
    0 ≤ lo → lo < hi → hi ≤ ds.length → hi - lo ≤ k → dp + k < 900 → un + 10 * k < 9000 →
    (∀ t h' tk, Fr h₀ L h' m → News h₀ L h' frz → Q (.int (val nn (slice ds lo hi)) t) { s with heap := h', toks := tk }) →
    wpAny (model PySem.Challenge.rw_nb0147_01.row.prog w) (ktrTop dp un gd cn cs L a ccd cl outer) (call (.ref f) [.int lo tl, .int hi th]) Q E s
theorem InnerD.use {w : World} {p : Program} {loose : List Str} {mean : ExcName → Option Value} {mg mb : Str → Option Value} {f : Addr} {frz : List (Addr × Obj)} {l : Addr} {vs : List Value} {ds : List Int} {nn k : Nat} (H : InnerD w p loose mean mg mb f frz l vs ds nn k)
  {dp un : Nat} {gd : Option (List Code)} {cn : Str} {cs : Scope} {L a : Addr} {ccd : Value} {cl : List (Str × Addr)} {outer : List Env} {A₀ : Around} {base h₀ : Heap} {m : Str → Option Value} {s : Shared} {Q E : Value → Shared → Prop} {lo hi : Int} {tl th : Tok}
    (B : Below A₀ base outer h₀) (F : Fr h₀ L s.heap m) (X : (hd.heap_39 w.params).In h₀) (N : News h₀ L s.heap frz) (T : Top p loose mean mg mb h₀) (hk : cs.kind = .function) (hl : h₀.IsList l vs.toArray)
    (h1 : 0 ≤ lo) (h2 : lo < hi) (h3 : hi ≤ ds.length) (h4 : hi - lo ≤ k) (h5 : dp + k < 900) (h6 : un + 10 * k < 9000)
    (ret : ∀ t h' tk, Fr h₀ L h' m → News h₀ L h' frz → Q (.int (val nn (slice ds lo hi)) t) { s with heap := h', toks := tk }) :
    wpAny (model PySem.Challenge.rw_nb0147_01.row.prog w) (ktrTop dp un gd cn cs L a ccd cl outer) (call (.ref f) [.int lo tl, .int hi th]) Q E s :=
  H _ _ _ _ _ _ _ _ _ _ _ _ _ _ _ _ _ _ _ _ _ B F X N T hk hl h1 h2 h3 h4 h5 h6 ret
section
variable {w : World} {p : Program} {loose : List Str} {mean : ExcName → Option Value} {mg mb : Str → Option Value} {dp un : Nat} {gd : Option (List Code)} {cn : Str} {cs : Scope} {L a : Addr} {ccd : Value} {cl : List (Str × Addr)} {outer : List Env} {A₀ : Around} {base h₀ : Heap} {m : Str → Option Value} {news : List (Addr × Obj)} {s : Shared} {Q E : Value → Shared → Prop}
local macro_rules | `(tactic| walk_at "call ref") => `(tactic| (k_extra "my call"))
local macro_rules | `(tactic| walk_at "binaryOp RShift int int") => `(tactic| (k_extra "my rsh"))
local macro_rules | `(tactic| walk_at "binaryOp LShift int int") => `(tactic| (k_extra "my lsh"))
local macro_rules | `(tactic| walk_at "binaryOp Mult int int") => `(tactic| (k_extra "my mul"))
local macro_rules | `(tactic| walk_at "exec FunctionDef") => `(tactic| (k_extra "my def"))
abbrev q44 : Str := Str.ofString "_digits2int.<locals>.inner"
set_option maxHeartbeats 8000000 in
theorem d2i_spec {l : Addr} {vs : List Value} {ns : List Int} {nn : Nat} {tn : Tok} {tabs : List (Addr × Obj)} (B : Below A₀ base outer h₀) (F : Fr h₀ L s.heap m) (X : (hd.heap_39 w.params).In h₀) (N : News h₀ L s.heap (tabs ++ news)) (T : Top p loose mean mg mb h₀) (hk : cs.kind = .function)
    (C : CodeHd h₀ 48 44) (hT : Nest 44 50 4 q44 tabs) (hap : ∀ q ∈ news, ∀ p ∈ tabs, p.1 ≠ q.1)
    (hl : s.heap.IsList l vs.toArray) (hlt : ∀ p ∈ tabs, p.1 ≠ l) (hi : IntsAre vs ns) (hds : ∀ d ∈ ns, 0 ≤ d ∧ d < 2 ^ nn) (hnn : nn ≤ 64) (hlen : ns.length ≤ 100) (hdp : dp < 700) (hun : un < 5000)
    (ret : ∀ t h' tk tabs', Nest 44 50 4 q44 tabs' → Fr h₀ L h' m → News h₀ L h' (tabs' ++ news) → (∀ q ∈ news, ∀ p ∈ tabs', p.1 ≠ q.1) → Q (.int (val nn ns) t) { s with heap := h', toks := tk }) :
    wpAny (model PySem.Challenge.rw_nb0147_01.row.prog w) (ktrTop dp un gd cn cs L a ccd cl outer) (call (.ref 49) [.ref l, .int (nn : Int) tn]) Q E s := by
  revert X; k_fill; intro X
  refine wpAny_call ?_
  refine' enterKC (live := tabs) (binds := [(Str.ofString "digits", .ref l), (Str.ofString "n", .int (nn : Int) tn)]) B F X (fun q hq => N q (List.mem_append_left _ hq)) T rfl rfl hk ?k6 ?k7 ?k8 ?k9 ?kB ?kD ?_ ?c2 ?c3 ?c4
  case k6 => k_dflt k_is
  case k7 => k_dflt k_is
  case k8 => show dp < 1000; omega
  case k9 => exact BindsTo.of_eq rfl
  case kB => exact rfl
  case kD => decide
  case c2 => exact rfl
  case c3 => exact rfl
  case c4 => exact rfl
  intro g L' h₁ tk cells Z FG F' N' Y B' X' T' l1
  have hl' : g.IsList l vs.toArray := Z.list hl hlt
  have C' : CodeHd g 48 44 := C.keeps FG.keep
  have hNr : News h₀ L s.heap news := newsSub N fun q hq => List.mem_append_right _ hq
  clear FG hl
  k_cells Y
  rename_i o1 o2 o3 d1 d2 d3
  replace d1 : o1.data = .cell none := d1
  replace d2 : o2.data = .cell (some (.int (nn : Int) tn)) := d2
  replace d3 : o3.data = .cell (some (.ref l)) := d3
  have hfr : ∀ q ∈ [(L' + 1 + 1 + 1, o1), (L' + 1 + 1, o2), (L' + 1, o3)], ∀ p ∈ tabs, p.1 < q.1 := by
    intro q hq p hp
    have := l1 p hp
    simp only [List.mem_cons, List.not_mem_nil, or_false] at hq
    rcases hq with rfl | rfl | rfl
    · exact Nat.lt_succ_of_lt (Nat.lt_succ_of_lt (Nat.lt_succ_of_lt this))
    · exact Nat.lt_succ_of_lt (Nat.lt_succ_of_lt this)
    · exact Nat.lt_succ_of_lt this
  dsimp only
  k_with_none
  k_with "my def" => (k_dflt (refine' nestDef_K ?d0 ?k0 ?a0 ?_; (case d0 => exact rfl); (case k0 => exact rfl); (case a0 => exact rfl); refine' nestAny F' N' hT hfr T' C' ?cd ?cl ?_; (case cd => exact rfl); (case cl => exact rfl); intro f' c' oc vs' t' ctv doc h' tk' F' N' dc1 dc2 l1 l2 l3; (simp only [List.cons_append, List.nil_append] at N'); (simp only [FrontOff, and_true] at l1)))
  k_with "my call" => refine stop_here ?_
  all_goals k_steps
  · refine Stop.go ?_
    refine' InnerD.use (ds := ns) (nn := nn) (vs := vs) (k := ns.length) ?H B' ?F X' ?N T' rfl hl' ?h1 ?h2 ?h3 ?h4 ?h5 ?h6 ?_
    case F => k_asm
    case N => k_asm
    case h1 => decide
    case h2 => omega
    case h3 => exact Int.le_refl _
    case h4 => omega
    case h5 => show dp + 1 + ns.length < 900; omega
    case h6 => show un + 3 + 10 * ns.length < 9000; omega
    case H =>
      clear ret Z B F N T X hk C hl' X' T' B' hNr hlt hap hT hfr
      generalize ns.length = k
      induction k with
      | zero => intro dp un gd cn cs L a ccd cl outer A₀ base h₀ m s Q E lo hi tl th B F X N T hk hl h1 h2 h3 h4; omega
      | succ k ih =>
        intro dp un gd cn cs L a ccd cl outer A₀ base h₀ m s Q E lo hi tl th B F X N T hk hl h1 h2 h3 h4 h5 h6 ret
        refine wpAny_call ?_
        refine' code_nest (binds := [(Str.ofString "L", .int lo tl), (Str.ofString "R", .int hi th)]) B F X N T rfl rfl hk ?k6 ?k7 ?k8 ?k9 ?kB ?_ ?c2 ?c3 ?c4 ?c5
        case k6 => k_mem
        case k7 => exact codeRec_news N (by k_mem) (by assumption) (by assumption)
        case k8 => show dp < 1000; omega
        case k9 => exact BindsTo.of_eq rfl
        case kB => exact locs rfl
        case c2 => exact rfl
        case c3 => exact rfl
        case c4 => exact rfl
        case c5 => decide
        intro g' L' h' FG' F' N' B' X' T'
        have hl' : g'.IsList l vs.toArray := stays_list FG'.keep hl
        dsimp only
        clear FG'
        k_with_none
        k_with "my call" => (k_dflt (refine' InnerD.use ih ?b1 ?b2 ?b3 ?b4 ?b5 ?b6 ?b7 ?h1 ?h2 ?h3 ?h4 ?h5 ?h6 ?_; (case b1 => k_asm); (case b2 => k_asm); (case b3 => k_asm); (case b4 => k_asm); (case b5 => k_asm); (case b6 => exact rfl); (case b7 => k_asm); (case h1 => omega); (case h2 => omega); (case h3 => omega); (case h4 => omega); (case h5 => (show dp + 1 + k < 900); omega); (case h6 => (show un + 3 + 10 * k < 9000); omega); intro t9 h9 tk9 F9 N9; (try dsimp only)))
        k_with "my rsh" => (refine rshift1 ?_; intro mid hm1 hm2)
        k_with "my mul" => (refine mul_eq (by omega) ?_; intro sh hsh)
        k_with "my lsh" => (refine lshift_eq (shl_fits hds h1 (by omega) (by omega) h3 hsh hnn (by omega)) ?_)
        k_steps
        · refine end_int ret (by k_asm) (by k_asm) ?_
          subst_vars
          rw [slice_one h1 (by omega)]
          simp [val, List.getD_eq_getElem?_getD, List.getElem?_eq_getElem (by omega : lo.toNat < ns.length)]
        · refine end_int ret (by k_asm) (by k_asm) (val_halves h1 (by omega) (by omega) h3 (by assumption))
    intro t h' tk F9 N9
    dsimp only
    k_steps
    obtain ⟨tabs', hT', hN', hA'⟩ := nest_back Z F9 hNr hap (by assumption) (by assumption) (by assumption) (by assumption) (by k_mem) (by k_mem)
    have e := slice_all (ds := ns)
    rw [e]
    exact ret _ _ _ _ hT' (by k_asm) hN' hA'
  · obtain ⟨tabs', hT', hN', hA'⟩ := nest_back Z (by k_asm) hNr hap (by assumption) (by assumption) (by assumption) (by assumption) (by k_mem) (by k_mem)
    have h9 : ¬ 0 < ns.length := by assumption
    have e : val nn ns = 0 := by
      have e0 : ns = [] := List.length_eq_zero_iff.mp (by omega)
      rw [e0]; rfl
    rw [e] at ret
    exact ret _ _ _ _ hT' (by k_asm) hN' hA'
end
end Mine
end PartC2
section PartC3
namespace Mine
open PySem PySem.Spec PySem.Calls PySem.W PyProof.Rows
theorem count_ok {bits nn : Nat} {K : Int} (hb : bits ≤ 80) (hn : 1 ≤ nn) (hK : K = ((bits : Int) + (nn : Int) - 1) / (nn : Int)) : 0 ≤ K ∧ K ≤ 80 := by
  have h0 : 0 ≤ (bits : Int) + (nn : Int) - 1 := by omega
  refine ⟨hK ▸ Int.ediv_nonneg h0 (by omega), ?_⟩
  rw [hK]
  have h1 : (bits : Int) + (nn : Int) - 1 ≤ 80 * (nn : Int) := by omega
  exact Int.ediv_le_of_le_mul (by omega) h1
theorem count_cover {x : Int} {nn : Nat} {K : Int} (hx : 0 ≤ x) (hn : 1 ≤ nn) (hK : K = ((Builtin.Int.intBits x : Int) + (nn : Int) - 1) / (nn : Int)) (k : Nat) (hk : (k : Int) = K) : x < 2 ^ (nn * k) := by
  have h1 : x.natAbs < 2 ^ Builtin.Int.intBits x := PySem.intBits_le_iff.mp (Nat.le_refl _)
  have h2 : (Builtin.Int.intBits x : Int) ≤ (nn : Int) * K := by
    have := Int.emod_add_mul_ediv ((Builtin.Int.intBits x : Int) + (nn : Int) - 1) (nn : Int)
    have h3 := Int.emod_lt_of_pos ((Builtin.Int.intBits x : Int) + (nn : Int) - 1) (show (0 : Int) < nn by omega)
    rw [← hK] at this
    omega
  rw [← hk, ← Int.natCast_mul] at h2
  have h4 : Builtin.Int.intBits x ≤ nn * k := Int.ofNat_le.mp h2
  have h5 : x.natAbs < 2 ^ (nn * k) := Nat.lt_of_lt_of_le h1 (Nat.pow_le_pow_right (by decide) h4)
  have h6 : ((x.natAbs : Nat) : Int) < ((2 ^ (nn * k) : Nat) : Int) := Int.ofNat_lt.mpr h5
  rw [Int.natAbs_of_nonneg hx] at h6
  simpa using h6
/-- what a run of inner leaves in the list -/
def Laid (nn : Nat) (ns : List Int) (lo hi x : Int) (ns' : List Int) : Prop := ∃ ds : List Int, (ds.length : Int) = hi - lo ∧ (∀ d ∈ ds, 0 ≤ d ∧ d < 2 ^ nn) ∧ val nn ds = x ∧ ns' = ns.take lo.toNat ++ ds ++ ns.drop hi.toNat
theorem Laid.length {nn : Nat} {ns ns' : List Int} {lo hi x : Int} (h : Laid nn ns lo hi x ns') (h0 : 0 ≤ lo) (h1 : lo ≤ hi) (h2 : hi ≤ ns.length) : ns'.length = ns.length := by
  obtain ⟨ds, e1, _, _, rfl⟩ := h
  simp only [List.length_append, List.length_take, List.length_drop]
  omega
theorem Laid.one {nn : Nat} {ns : List Int} {lo hi x : Int} (h0 : 0 ≤ lo) (h1 : lo + 1 = hi) (h2 : hi ≤ ns.length) (hx : 0 ≤ x) (hx2 : x < 2 ^ (nn * (hi - lo).toNat)) : Laid nn ns lo hi x (ns.set lo.toNat x) := by
  have e : (hi - lo).toNat = 1 := by omega
  rw [e, Nat.mul_one] at hx2
  refine ⟨[x], by simp; omega, by simp; exact ⟨hx, hx2⟩, by simp [val], ?_⟩
  have e2 : hi.toNat = lo.toNat + 1 := by omega
  rw [e2, List.set_eq_take_append_cons_drop, if_pos (by omega)]
  simp
theorem Laid.two {nn : Nat} {ns ns1 ns2 : List Int} {lo mid hi x sh : Int} (h0 : 0 ≤ lo) (h1 : lo ≤ mid) (h2 : mid ≤ hi) (h3 : hi ≤ ns.length) (hs : sh = (mid - lo) * (nn : Int)) (A : Laid nn ns lo mid (x % 2 ^ sh.toNat) ns1) (B : Laid nn ns1 mid hi (x / 2 ^ sh.toNat) ns2) : Laid nn ns lo hi x ns2 := by
  have hl := A.length h0 h1 (by omega)
  obtain ⟨d1, a1, a2, a3, rfl⟩ := A
  obtain ⟨d2, b1, b2, b3, rfl⟩ := B
  have e : sh.toNat = nn * d1.length := by
    rw [hs, show mid - lo = (d1.length : Int) from a1.symm, ← Int.natCast_mul, Int.toNat_natCast, Nat.mul_comm]
  refine ⟨d1 ++ d2, ?_, ?_, ?_, ?_⟩
  · simp only [List.length_append]; omega
  · intro d hd
    rcases List.mem_append.mp hd with hd | hd
    · exact a2 d hd
    · exact b2 d hd
  · rw [val_append, a3, b3, ← e]
    exact Int.emod_add_mul_ediv _ _
  · have l1 : (ns.take lo.toNat).length = lo.toNat := by rw [List.length_take]; omega
    have e1 : (ns.take lo.toNat ++ d1 ++ ns.drop mid.toNat).take mid.toNat = ns.take lo.toNat ++ d1 := by
      rw [List.take_append_of_le_length (by rw [List.length_append]; omega), List.take_of_length_le (by rw [List.length_append]; omega)]
    have e2 : (ns.take lo.toNat ++ d1 ++ ns.drop mid.toNat).drop hi.toNat = ns.drop hi.toNat := by
      rw [List.drop_append, List.drop_of_length_le (by rw [List.length_append]; omega), List.nil_append, List.drop_drop, List.length_append, l1]
      congr 1
      omega
    rw [e1, e2]
    simp
def InnerI (w : World) (p : Program) (loose : List Str) (mean : ExcName → Option Value) (mg mb : Str → Option Value) (f r : Addr) (frz : List (Addr × Obj)) (nn : Nat) (k : Nat) : Prop :=
  ∀ (dp un : Nat) (gd : Option (List Code)) (cn : Str) (cs : Scope) (L a : Addr) (ccd : Value) (cl : List (Str × Addr)) (outer : List Env) (A₀ : Around) (base h₀ : Heap) (m : Str → Option Value) (s : Shared) (Q E : Value → Shared → Prop) (x lo hi : Int) (tx tl th : Tok) (vs : List Value) (ns : List Int),
    Below A₀ base outer h₀ → Fr h₀ L s.heap m → (hd.heap_39 w.params).In h₀ → News h₀ L s.heap ((r, listOf vs.toArray 0) :: frz) → Top p loose mean mg mb h₀ → cs.kind = .function → IntsAre vs ns → ns.length ≤ 100 →
    0 ≤ lo → lo < hi → hi ≤ ns.length → hi - lo ≤ k → 0 ≤ x → x < 2 ^ (nn * (hi - lo).toNat) → dp + k < 900 → un + 10 * k < 9000 →
    (∀ h' tk vs' ns', Fr h₀ L h' m → News h₀ L h' ((r, listOf vs'.toArray 0) :: frz) → IntsAre vs' ns' → ns'.length ≤ 100 → ns'.length = ns.length → Laid nn ns lo hi x ns' → Q .none { s with heap := h', toks := tk }) →
    wpAny (model PySem.Challenge.rw_nb0147_01.row.prog w) (ktrTop dp un gd cn cs L a ccd cl outer) (call (.ref f) [.int x tx, .int lo tl, .int hi th]) Q E s
theorem InnerI.use {w : World} {p : Program} {loose : List Str} {mean : ExcName → Option Value} {mg mb : Str → Option Value} {f r : Addr} {frz : List (Addr × Obj)} {nn k : Nat} (H : InnerI w p loose mean mg mb f r frz nn k)
  {dp un : Nat} {gd : Option (List Code)} {cn : Str} {cs : Scope} {L a : Addr} {ccd : Value} {cl : List (Str × Addr)} {outer : List Env} {A₀ : Around} {base h₀ : Heap} {m : Str → Option Value} {s : Shared} {Q E : Value → Shared → Prop} {x lo hi : Int} {tx tl th : Tok} {vs : List Value} {ns : List Int}
    (B : Below A₀ base outer h₀) (F : Fr h₀ L s.heap m) (X : (hd.heap_39 w.params).In h₀) (N : News h₀ L s.heap ((r, listOf vs.toArray 0) :: frz)) (T : Top p loose mean mg mb h₀) (hk : cs.kind = .function) (hi' : IntsAre vs ns) (hln : ns.length ≤ 100)
    (h1 : 0 ≤ lo) (h2 : lo < hi) (h3 : hi ≤ ns.length) (h4 : hi - lo ≤ k) (hx : 0 ≤ x) (hx2 : x < 2 ^ (nn * (hi - lo).toNat)) (h5 : dp + k < 900) (h6 : un + 10 * k < 9000)
    (ret : ∀ h' tk vs' ns', Fr h₀ L h' m → News h₀ L h' ((r, listOf vs'.toArray 0) :: frz) → IntsAre vs' ns' → ns'.length ≤ 100 → ns'.length = ns.length → Laid nn ns lo hi x ns' → Q .none { s with heap := h', toks := tk }) :
    wpAny (model PySem.Challenge.rw_nb0147_01.row.prog w) (ktrTop dp un gd cn cs L a ccd cl outer) (call (.ref f) [.int x tx, .int lo tl, .int hi th]) Q E s :=
  H _ _ _ _ _ _ _ _ _ _ _ _ _ _ _ _ _ _ _ _ _ _ _ _ _ B F X N T hk hi' hln h1 h2 h3 h4 hx hx2 h5 h6 ret
theorem half_facts {nn : Nat} {x lo mid hi sh : Int} (h0 : lo ≤ mid) (h2 : mid ≤ hi) (hs : sh = (mid - lo) * (nn : Int)) (hx : 0 ≤ x) (hx2 : x < 2 ^ (nn * (hi - lo).toNat)) (hn : nn ≤ 64) (hb : hi - lo ≤ 100) :
    0 ≤ sh ∧ sh ≤ 6400 ∧ 0 ≤ x / 2 ^ sh.toNat ∧ x / 2 ^ sh.toNat < 2 ^ (nn * (hi - mid).toNat) ∧ 0 ≤ x % 2 ^ sh.toNat ∧ x % 2 ^ sh.toNat < 2 ^ (nn * (mid - lo).toNat) ∧ Builtin.Int.intBits (x / 2 ^ sh.toNat) ≤ 6400 := by
  have e : sh.toNat = nn * (mid - lo).toNat := by
    have e9 : mid - lo = ((mid - lo).toNat : Int) := by omega
    generalize (mid - lo).toNat = z at e9
    rw [hs, e9, ← Int.natCast_mul, Int.toNat_natCast, Nat.mul_comm]
  have p0 : (0 : Int) < 2 ^ sh.toNat := Int.pow_pos (by decide)
  have hs0 : 0 ≤ sh := hs ▸ Int.mul_nonneg (by omega) (by omega)
  have hs1 : sh ≤ 100 * 64 := hs ▸ Int.mul_le_mul (by omega) (by omega) (by omega) (by decide)
  have e2 : nn * (hi - lo).toNat = nn * (hi - mid).toNat + sh.toNat := by rw [e, ← Nat.mul_add]; congr 1; omega
  have h4 : x / 2 ^ sh.toNat < 2 ^ (nn * (hi - mid).toNat) := by
    rw [e2, Int.pow_add] at hx2
    exact Int.ediv_lt_of_lt_mul p0 hx2
  have h3 : 0 ≤ x / 2 ^ sh.toNat := Int.ediv_nonneg hx (Int.le_of_lt p0)
  refine ⟨hs0, by omega, h3, h4, Int.emod_nonneg _ (by omega), ?_, ?_⟩
  · rw [← e]; exact Int.emod_lt_of_pos _ p0
  · refine Nat.le_trans (intBits_le h3 h4) (Nat.le_trans (Nat.mul_le_mul hn (show (hi - mid).toNat ≤ 100 by omega)) (by decide))
section
variable {w : World} {p : Program} {loose : List Str} {mean : ExcName → Option Value} {mg mb : Str → Option Value} {dp un : Nat} {gd : Option (List Code)} {cn : Str} {cs : Scope} {L a : Addr} {ccd : Value} {cl : List (Str × Addr)} {outer : List Env} {A₀ : Around} {base h₀ : Heap} {m : Str → Option Value} {news : List (Addr × Obj)} {s : Shared} {Q E : Value → Shared → Prop}
local macro_rules | `(tactic| walk_at "call ref") => `(tactic| (k_extra "my call"))
local macro_rules | `(tactic| walk_at "binaryOp RShift int int") => `(tactic| (k_extra "my rsh"))
local macro_rules | `(tactic| walk_at "binaryOp LShift int int") => `(tactic| (k_extra "my lsh"))
local macro_rules | `(tactic| walk_at "binaryOp Mult int int") => `(tactic| (k_extra "my mul"))
local macro_rules | `(tactic| walk_at "binaryOp BitXor int int") => `(tactic| (k_extra "my xor"))
local macro_rules | `(tactic| walk_at "exec FunctionDef") => `(tactic| (k_extra "my def"))
local macro_rules | `(tactic| walk_at "binaryOp Mult ref int") => `(tactic| (k_extra "my zeros"))
local macro_rules | `(tactic| walk_at "binaryOp FloorDiv int int") => `(tactic| (k_extra "my fdiv"))
local macro_rules | `(tactic| k_all) => `(tactic| first | exact List.forall_mem_nil _ | (exact off_tabs (by assumption) (by omega)) | (refine' List.forall_mem_cons.mpr ⟨?a, ?b⟩; (case a => k_ne); (case b => k_all)))
abbrev q37 : Str := Str.ofString "_int2digits.<locals>.inner"
set_option maxHeartbeats 8000000 in
theorem i2d_spec {x : Int} {nn : Nat} {tx tn : Tok} {tabs : List (Addr × Obj)} (B : Below A₀ base outer h₀) (F : Fr h₀ L s.heap m) (X : (hd.heap_39 w.params).In h₀) (N : News h₀ L s.heap (tabs ++ news)) (T : Top p loose mean mg mb h₀) (hk : cs.kind = .function)
    (C : CodeHd h₀ 41 37) (hT : Nest 37 35 4 q37 tabs) (hap : ∀ q ∈ news, ∀ p ∈ tabs, p.1 ≠ q.1)
    (hx : 0 ≤ x) (hx2 : x < 2 ^ 80) (hn1 : 1 ≤ nn) (hnn : nn ≤ 64) (hdp : dp < 700) (hun : un < 5000)
    (ret : ∀ h' tk tabs' r vs ds, Nest 37 35 4 q37 tabs' → Fr h₀ L h' m → News h₀ L h' ((r, listOf vs.toArray 0) :: tabs' ++ news) → (∀ q ∈ news, ∀ p ∈ tabs', p.1 ≠ q.1) → IntsAre vs ds → val nn ds = x → (∀ d ∈ ds, 0 ≤ d ∧ d < 2 ^ nn) → (ds.length : Int) = ((Builtin.Int.intBits x : Int) + (nn : Int) - 1) / (nn : Int) → Q (.ref r) { s with heap := h', toks := tk }) :
    wpAny (model PySem.Challenge.rw_nb0147_01.row.prog w) (ktrTop dp un gd cn cs L a ccd cl outer) (call (.ref 42) [.int x tx, .int (nn : Int) tn]) Q E s := by
  revert X; k_fill; intro X
  refine wpAny_call ?_
  refine' enterKC (live := tabs) (binds := [(Str.ofString "a", .int x tx), (Str.ofString "n", .int (nn : Int) tn)]) B F X (fun q hq => N q (List.mem_append_left _ hq)) T rfl rfl hk ?k6 ?k7 ?k8 ?k9 ?kB ?kD ?_ ?c2 ?c3 ?c4
  case k6 => k_dflt k_is
  case k7 => k_dflt k_is
  case k8 => show dp < 1000; omega
  case k9 => exact BindsTo.of_eq rfl
  case kB => exact rfl
  case kD => decide
  case c2 => exact rfl
  case c3 => exact rfl
  case c4 => exact rfl
  intro g L' h₁ tk cells Z FG F' N' Y B' X' T' hlt
  have C' : CodeHd g 41 37 := C.keeps FG.keep
  have hNr : News h₀ L s.heap news := newsSub N fun q hq => List.mem_append_right _ hq
  clear FG
  k_cells Y
  rename_i o1 o2 o3 d1 d2 d3
  replace d1 : o1.data = .cell none := d1
  replace d2 : o2.data = .cell none := d2
  replace d3 : o3.data = .cell (some (.int (nn : Int) tn)) := d3
  replace N' : News g L' h₁ ((L' + 1 + 1 + 1, o1) :: (L' + 1 + 1, o2) :: (L' + 1, o3) :: tabs) := N'
  dsimp only
  have hbits : Builtin.Int.intBits x ≤ 80 := intBits_le hx hx2
  k_with_none
  k_with "my fdiv" => (refine fdiv_eq (by omega) (by omega) ?_; intro K hK)
  k_with "my zeros" => (have hK0 : 0 ≤ K ∧ K ≤ 80 := count_ok hbits hn1 hK; refine zeros_K (by k_asm) (by k_asm) (by k_mem) hK0.1 (by omega) ?_; intro r h2 vs ns F2 N2 lr hvs hns hnl; k_lt lr; replace N2 := drop2 N2)
  k_with "my def" => (k_dflt (refine' nestDef_K ?d0 ?k0 ?a0 ?_; (case d0 => exact rfl); (case k0 => exact rfl); (case a0 => exact rfl); refine' nestAny (front := [(r, _), (_, _), (_, _), (_, _)]) ?F ?N hT ?fr T' C' ?cd ?cl ?_; (case F => k_asm); (case N => assumption); (case fr => (refine front_above hlt ?_; simp only [AllGe, and_true]; omega)); (case cd => exact rfl); (case cl => exact rfl); intro f' c' oc vs' t' ctv doc h' tk' F' N' dc1 dc2 l1 l2 l3; (simp only [List.cons_append, List.nil_append] at N'); (simp only [FrontOff, and_true] at l1)))
  k_with "my call" => refine stop_here ?_
  all_goals k_steps
  · refine Stop.go ?_
    have hlen : ns.length ≤ 80 := by omega
    refine' InnerI.use (nn := nn) (k := ns.length) ?H B' ?F X' ?N T' rfl hvs ?h0 ?h1 ?h2 ?h3 ?h4 hx ?hc ?h5 ?h6 ?_
    case F => k_asm
    case N => exact swap2 (by assumption)
    case h0 => omega
    case h1 => decide
    case h2 =>
      have h9 := count_cover hx hn1 hK ns.length hnl
      have : ns.length ≠ 0 := by
        intro e
        rw [e] at h9
        simp at h9
        omega
      omega
    case h3 => exact Int.le_refl _
    case h4 => omega
    case hc =>
      have h9 := count_cover hx hn1 hK ns.length hnl
      simpa using h9
    case h5 => show dp + 1 + ns.length < 900; omega
    case h6 => show un + 3 + 10 * ns.length < 9000; omega
    case H =>
      clear ret Z B F N T X hk C X' T' B' hNr hap hT hvs hns hnl
      generalize ns.length = k
      induction k with
      | zero => intro dp un gd cn cs L a ccd cl outer A₀ base h₀ m s Q E x lo hi tx tl th vs ns B F X N T hk hl hln h1 h2 h3 h4; omega
      | succ k ih =>
        intro dp un gd cn cs L a ccd cl outer A₀ base h₀ m s Q E x lo hi tx tl th vs ns B F X N T hk hvs hln h1 h2 h3 h4 hx hx2 h5 h6 ret
        refine wpAny_call ?_
        refine' code_nest (binds := [(Str.ofString "x", .int x tx), (Str.ofString "L", .int lo tl), (Str.ofString "R", .int hi th)]) B F X N T rfl rfl hk ?k6 ?k7 ?k8 ?k9 ?kB ?_ ?c2 ?c3 ?c4 ?c5
        case k6 => k_mem
        case k7 => exact codeRec_news N (by k_mem) (by assumption) (by assumption)
        case k8 => show dp < 1000; omega
        case k9 => exact BindsTo.of_eq rfl
        case kB => exact locs rfl
        case c2 => exact rfl
        case c3 => exact rfl
        case c4 => exact rfl
        case c5 => decide
        intro g' L' h' FG' F' N' B' X' T'
        dsimp only
        clear FG'
        k_with_none
        k_with "my call" => (k_dflt (refine' InnerI.use ih ?b1 ?b2 ?b3 ?b4 ?b5 ?b6 ?b7 ?b8 ?h1 ?h2 ?h3 ?h4 ?hx ?hc ?h5 ?h6 ?_; (case b1 => k_asm); (case b2 => k_asm); (case b3 => k_asm); (case b4 => k_asm); (case b5 => k_asm); (case b6 => exact rfl); (case b7 => k_asm); (case b8 => assumption); (case h1 => omega); (case h2 => omega); (case h3 => omega); (case h4 => omega); (case hx => assumption); (case hc => assumption); (case h5 => (show dp + 1 + k < 900); omega); (case h6 => (show un + 3 + 10 * k < 9000); omega); intro h9 tk9 vs9 ns9 F9 N9 hv9 hb9 hl9 hL9; (try dsimp only)))
        k_with "my rsh" => (refine rshift_eq (by omega) ?_; intro up hup; subst hup)
        k_with "my rsh" => (refine rshift1 ?_; intro mid hm1 hm2)
        k_with "my mul" => (refine mul_eq (by omega) ?_; intro sh hsh; obtain ⟨g1, g2, g3, g4, g5, g6, g7⟩ := half_facts (by omega) (by omega) hsh hx hx2 hnn (by omega))
        k_with "my lsh" => (refine lshift_eq ⟨by omega, by omega⟩ ?_)
        k_with "my xor" => (refine xor_eq (xor_low hx _) ?_)
        k_steps
        · exact ret _ _ _ _ (by k_asm) (by k_asm) (ints_set hvs _) (by rw [List.length_set]; exact hln) (List.length_set ..) (Laid.one h1 (by assumption) h3 hx hx2)
        · exact ret _ _ _ _ (by k_asm) (by k_asm) (by assumption) (by assumption) (by omega) (Laid.two (mid := mid) (sh := sh) h1 (by omega) (by omega) h3 hsh (by assumption) (by assumption))
    intro h' tk vs' ns' F9 N9 hv9 hb9 hl9 hL9
    dsimp only
    k_steps
    obtain ⟨tabs', hT', hN', hA'⟩ := nest_back1 (r := r) Z F9 hNr hap (by assumption) (by assumption) (by assumption) (by assumption) (by k_mem) (by k_mem) (by k_mem)
    obtain ⟨ds, e1, e2, e3, e4⟩ := hL9
    have e5 : ns' = ds := by rw [e4]; simp
    subst e5
    exact ret _ _ tabs' r vs' ns' hT' (by k_asm) hN' hA' hv9 e3 e2 (by rw [← hK]; omega)
  · obtain ⟨tabs', hT', hN', hA'⟩ := nest_back1 (r := r) Z (by k_asm) hNr hap (by assumption) (by assumption) (by assumption) (by assumption) (by k_mem) (by k_mem) (by k_mem)
    have e0 : x = 0 := by first | assumption | omega
    subst e0
    have eK0 : K = 0 := by
      rw [hK]
      have : Builtin.Int.intBits 0 = 0 := rfl
      rw [this]
      exact Int.ediv_eq_zero_of_lt (by omega) (by omega)
    have eK : ns = [] := List.length_eq_zero_iff.mp (by omega)
    subst eK
    exact ret _ _ tabs' r vs [] hT' (by k_asm) hN' hA' hvs rfl (List.forall_mem_nil _) (by rw [← hK, eK0]; rfl)
end
end Mine
end PartC3
section PartC4
namespace Mine
open PySem PySem.Spec PySem.Calls PySem.W PyProof.Rows
theorem octs_in {cnt : Nat} {x : Int} : ∀ d ∈ (digs 8 cnt x).reverse, 0 ≤ d ∧ d < 256 := fun d hd => by
  have := digs_mem (List.mem_reverse.mp hd)
  simpa using this
section
variable {w : World} {p : Program} {loose : List Str} {mean : ExcName → Option Value} {mg mb : Str → Option Value} {dp un : Nat} {gd : Option (List Code)} {cn : Str} {cs : Scope} {L a : Addr} {ccd : Value} {cl : List (Str × Addr)} {outer : List Env} {A₀ : Around} {base h₀ : Heap} {m : Str → Option Value} {news : List (Addr × Obj)} {s : Shared} {Q E : Value → Shared → Prop}
local macro_rules | `(tactic| walk_at "call ref") => `(tactic| (k_extra "my call"))
local macro_rules | `(tactic| walk_at "binaryOp Mult ref int") => `(tactic| (k_extra "my zeros"))
local macro_rules | `(tactic| walk_at "binaryOp Add ref ref") => `(tactic| (k_extra "my add"))
local macro_rules | `(tactic| walk_at "call type:bytes") => `(tactic| (k_extra "my bytes"))
local macro_rules | `(tactic| walk_at "call builtin:len") => `(tactic| (k_extra "my len"))
set_option maxHeartbeats 8000000 in
theorem octets_spec {x : Int} {cnt : Nat} {tx tc : Tok} {tabs : List (Addr × Obj)} (B : Below A₀ base outer h₀) (F : Fr h₀ L s.heap m) (X : (hd.heap_39 w.params).In h₀) (N : News h₀ L s.heap (tabs ++ news)) (T : Top p loose mean mg mb h₀) (hk : cs.kind = .function)
    (C : CodeHd h₀ 41 37) (hT : Nest 37 35 4 q37 tabs) (hap : ∀ q ∈ news, ∀ p ∈ tabs, p.1 ≠ q.1)
    (hx : 0 ≤ x) (hx2 : x < 2 ^ (8 * cnt)) (hcnt : cnt ≤ 9) (hdp : dp < 600) (hun : un < 4000)
    (ret : ∀ h' tk tabs' b t, Nest 37 35 4 q37 tabs' → Fr h₀ L h' m → News h₀ L h' (tabs' ++ news) → (∀ q ∈ news, ∀ p ∈ tabs', p.1 ≠ q.1) → KBw.bInts b = (digs 8 cnt x).reverse → Q (.bytes b t) { s with heap := h', toks := tk }) :
    wpAny (model PySem.Challenge.rw_nb0147_01.row.prog w) (ktrTop dp un gd cn cs L a ccd cl outer) (call (.ref 100) [.int x tx, .int (cnt : Int) tc]) Q E s := by
  revert X; k_fill; intro X
  refine wpAny_call ?_
  refine' enterK (live := tabs) (binds := [(Str.ofString "whole", .int x tx), (Str.ofString "count", .int (cnt : Int) tc)]) B F X (fun q hq => N q (List.mem_append_left _ hq)) T rfl rfl hk ?k6 ?k7 ?k8 ?k9 ?kB ?_ ?c2 ?c3 ?c4 ?c5
  case k6 => k_dflt k_is
  case k7 => k_dflt k_is
  case k8 => show dp < 1000; omega
  case k9 => exact BindsTo.of_eq rfl
  case kB => exact locs rfl
  case c2 => exact rfl
  case c3 => exact rfl
  case c4 => exact rfl
  case c5 => decide
  intro g L' h₁ Z FG F' N' B' X' T' hlt
  have C' : CodeHd g 41 37 := C.keeps FG.keep
  have hNr : News h₀ L s.heap news := newsSub N fun q hq => List.mem_append_right _ hq
  clear FG
  dsimp only
  have hx80 : x < 2 ^ 80 := Int.lt_of_lt_of_le hx2 (by
    have h1 : (2 : Int) ^ (8 * cnt) ≤ 2 ^ 80 := by
      have := Nat.pow_le_pow_right (n := 2) (by decide) (show 8 * cnt ≤ 80 by omega)
      exact_mod_cast this
    exact h1)
  k_with_none
  k_with "my call" => (k_dflt (refine' i2d_spec (news := []) (tabs := tabs) (nn := 8) ?b1 ?b2 ?b3 ?b4 ?b5 ?b6 C' hT (List.forall_mem_nil _) hx hx80 (by decide) (by decide) ?b7 ?b8 ?_; (case b1 => k_asm); (case b2 => k_asm); (case b3 => k_asm); (case b4 => (rw [List.append_nil]; k_asm)); (case b5 => k_asm); (case b6 => exact rfl); (case b7 => (show dp + 1 < 700); omega); (case b8 => (show un + 3 < 5000); omega); intro h9 tk9 tabs9 r vs ds hT9 F9 N9 hA9 hv9 e9 hr9 hl9; (try dsimp only); (simp only [List.append_nil, List.cons_append] at N9); have hcl := count_le hx (by decide) hx2 hl9))
  k_with "my bytes" => (have eP : (List.replicate ((cnt : Int) - (ds.length : Int)).toNat [(0 : Int)]).flatten ++ ds.reverse = (digs 8 cnt x).reverse := (by rw [krep_flat]; exact pad_digs hr9 e9 (by omega)); refine' KBa.make_K (ns := (digs 8 cnt x).reverse) ?F ?N ?hh ?l ?i ?r ?n ?_; (case F => k_asm); (case N => k_asm); (case hh => exact rfl); (case l => exact News.isList (by k_asm) (by k_mem)); (case i => (rw [← eP]; k_asm)); (case r => exact octs_in); (case n => (rw [List.length_reverse, digs_length]; omega)); intro hb tb kb Fb Nb hb2)
  k_steps
  have hN1 : News h₀ L hb tabs9 := newsSub (by k_asm) (fun q hq => by simp only [List.mem_cons]; simp only [hq, or_true])
  exact ret _ _ tabs9 _ _ hT9 (by k_asm) (thaw Z Fb hNr hap hN1) (apart_back Z hNr hap Nb fun q hq => by simp only [List.mem_cons]; simp only [hq, or_true]) (KBa.ints_make octs_in)
end
end Mine
end PartC4
section PartC5
namespace Mine
open PySem PySem.Spec PySem.Calls PySem.W PyProof.Rows
theorem item64 {prog : Program} {w : World} {A : Around} {E : Value → Shared → Prop} {s : Shared} {b : Array UInt8} {t ui : Tok} {i : Int} {value slice : Expr} {Q : Value → Shared → Prop} (hk : KBw.bInts b = b64tab) (h0 : 0 ≤ i) (h1 : i < 64)
    (h : ∀ t' k, Q (.int (sgn i) t') { s with toks := k })
    (hs : subscripted slice false (.bytes b t) (.int i ui) = operate [.bytes b t, .int i ui] (getItem (.bytes b t) (.int i ui)) := by with_unfolding_all rfl)
    (ht : ∀ r, letTemporaryGo value (.bytes b t) r = pure () := by intro _; with_unfolding_all rfl) : wpAny (model prog w) A (subscriptTail value slice (.bytes b t) (.int i ui)) Q E s :=
  KBw.item_K hk (by decide) h0 (show i < 64 from h1) (fun t' k _ _ => h t' k) hs ht
structure BSt where
  lc : Int
  tlc : Tok
  lb : Int
  tlb : Tok
  vs : List Value
  n : Nat
  out : List Int
section
variable {w : World} {p : Program} {loose : List Str} {mean : ExcName → Option Value} {mg mb : Str → Option Value} {dp un : Nat} {gd : Option (List Code)} {cn : Str} {cs : Scope} {L a : Addr} {ccd : Value} {cl : List (Str × Addr)} {outer : List Env} {A₀ : Around} {base h₀ : Heap} {m : Str → Option Value} {news : List (Addr × Obj)} {s : Shared} {Q E : Value → Shared → Prop}
local macro_rules | `(tactic| k_room) => `(tactic| ((try simp only [depth_under_make, depth_under_kw, depth_in1, depth_deeper, depth_caller]); (try dsimp only); (simp only [recursionLimit]); omega))
local macro_rules | `(tactic| walk_at "call type:type") => `(tactic| ((with_reducible show wpAny _ _ (call _ [Value.bytes _ _]) _ _ _); refine call_type_of (Tx := "bytes") rfl (by decide +kernel) ?_))
local macro_rules | `(tactic| walk_at "binaryOp RShift int int") => `(tactic| (k_extra "my rsh"))
local macro_rules | `(tactic| walk_at "binaryOp LShift int int") => `(tactic| (k_extra "my lsh"))
local macro_rules | `(tactic| walk_at "binaryOp BitOr int int") => `(tactic| (k_extra "my or"))
local macro_rules | `(tactic| walk_at "binaryOp BitAnd int int") => `(tactic| (k_extra "my and"))
local macro_rules | `(tactic| walk_at "subscriptTail") => `(tactic| (k_extra "my item"))
local macro_rules | `(tactic| walk_at "call builtin:list.append") => `(tactic| (k_extra "my app"))
local macro_rules | `(tactic| walk_at "call type:bytes") => `(tactic| (k_extra "my bytes"))
local macro_rules | `(tactic| walk_at "InvEndN") => `(tactic| (k_extra "my turn"))
local macro_rules | `(tactic| k_all) => `(tactic| first | exact List.forall_mem_nil _ | assumption | (refine' List.forall_mem_cons.mpr ⟨?a, ?b⟩; (case a => k_ne); (case b => k_all)))
local macro_rules | `(tactic| walk_at "pyIter bytes") => `(tactic| (k_extra "my loop"))
set_option maxHeartbeats 8000000 in
theorem b2a_spec {b : Array UInt8} {tb : Tok} {ks : List Int} (B : Below A₀ base outer h₀) (F : Fr h₀ L s.heap m) (X : (hd.heap_39 w.params).In h₀) (N : News h₀ L s.heap news) (T : Top p loose mean mg mb h₀) (hk : cs.kind = .function)
    (hb : KBw.bInts b = ks) (hl : ks.length ≤ 100) (hl3 : ks.length % 3 = 0) (hdp : dp < 600) (hun : un < 4000)
    (ret : ∀ h' tk r t, Fr h₀ L h' m → News h₀ L h' news → KBw.bInts r = (six ks).map sgn → Q (.bytes r t) { s with heap := h', toks := tk }) :
    wpAny (model PySem.Challenge.rw_nb0147_01.row.prog w) (ktrTop dp un gd cn cs L a ccd cl outer) (call (.ref 85) [.bytes b tb] [(Str.ofString "newline", .bool false)]) Q E s := by
  revert X; k_fill; intro X
  refine wpAny_call ?_
  refine' enterK (live := []) (binds := [(Str.ofString "data", .bytes b tb), (Str.ofString "newline", .bool false)]) B F X News.nil T rfl rfl hk ?k6 ?k7 ?k8 ?k9 ?kB ?_ ?c2 ?c3 ?c4 ?c5
  case k6 => k_dflt k_is
  case k7 => k_dflt k_is
  case k8 => show dp < 1000; omega
  case k9 => exact BindsTo.of_eq rfl
  case kB => exact locs rfl
  case c2 => exact rfl
  case c3 => exact rfl
  case c4 => exact rfl
  case c5 => decide
  intro g L' h₁ Z FG F' N' B' X' T' hlt
  clear FG hlt
  dsimp only
  k_with_none
  k_with "my loop" => refine stop_here ?_
  k_steps
  refine Stop.go ?_
  rename_i d _ _ _ _ _ lFo No
  refine' KStb.kst_bytes (σ := BSt) (Led := fun c => [(d, listOf c.vs.toArray c.n)]) (ps := fun c => [(Str.ofString "leftchar", .int c.lc c.tlc), (Str.ofString "leftbits", .int c.lb c.tlb)]) (Facts := fun c => IntsAre c.vs c.out ∧ c.out.length ≤ 300) (stored := []) (P := fun pre c => BInv pre c.lc c.lb c.out ∧ c.out.length ≤ 2 * pre.length) ⟨0, _, 0, _, [], 0, []⟩ hb rfl rfl ?F ?N ?hf ?hk ?hp ?turn ?done
  case F => k_asm
  case N => k_asm
  case hf => exact ⟨.nil, Nat.zero_le _⟩
  case hk =>
    intro q hq
    simp only [List.mem_cons, List.not_mem_nil, or_false] at hq
    rcases hq with rfl | rfl
    · exact rfl
    · exact rfl
  case hp => exact ⟨BInv.start, Nat.le_refl _⟩
  case done =>
    intro c u h tk hkl hF hP F9 N9
    obtain ⟨lc, tlc, lb, tlb, vs, n9, out⟩ := c
    have F8 : Fr g L' h _ := F9
    have N8 : News g L' h [(d, listOf vs.toArray n9)] := N9
    clear F9 N9 No lFo
    dsimp only [kstB] at F8 hF hP
    obtain ⟨hv, hol⟩ := hF
    obtain ⟨hP, hol2⟩ := hP
    obtain ⟨rfl, rfl⟩ := hP.done hl3
    k_with_none
    k_with "my bytes" => (k_dflt (refine' KBa.make_K (ns := (six ks).map sgn) ?F ?N ?hh ?l ?i ?r ?n ?_; (case F => k_asm); (case N => k_asm); (case hh => exact rfl); (case l => exact News.isList (by k_asm) (by k_mem)); (case i => exact hv); (case r => exact signs_in _); (case n => omega); intro hb9 tb9 kb9 Fb Nb hb2))
    k_steps
    exact ret _ _ _ _ (by k_asm) (thaw (news' := []) Z Fb N (fun _ _ => List.forall_mem_nil _) News.nil) (KBa.ints_make (signs_in _))
  case turn =>
    intro c pre post n tn u h tk own hks hpre h0 h1 hoff hF hP F9 N9
    obtain ⟨lc, tlc, lb, tlb, vs, n9, out⟩ := c
    have F8 : Fr g L' h _ := F9
    have N8 : News g L' h ((d, listOf vs.toArray n9) :: own) := N9
    have hown : ∀ q ∈ own, q.1 ≠ d := fun q hq => hoff q hq d (.head _)
    clear F9 N9 hoff No lFo
    dsimp only [kstB] at F8
    dsimp only at hF hP
    obtain ⟨hv, hol⟩ := hF
    obtain ⟨hP, hol2⟩ := hP
    obtain ⟨hlb, hc0, hc1⟩ := hP.cases
    have hpl : pre.length < 100 := by omega
    have hbt : Builtin.Int.intBits lc ≤ 16 := intBits_le hc0 (by omega)
    k_with_none
    k_with "my lsh" => (k_dflt (refine lshift_eq ⟨by decide, by omega⟩ ?_))
    k_with "my or" => (k_dflt (refine or_eq (or_low (k := 8) hc0 h0 (by omega)) ?_))
    k_with "my and" => (with_reducible refine and16 ?_; intro lc1 hlc1)
    k_with "my and" => (with_reducible refine and6 ?_; first | (guard_hyp q6 : Int; intro q7 hq7) | intro q6 hq6)
    k_with "my rsh" => (k_dflt (refine rshift_eq (by decide) ?_; intro sh hsh; simp at hsh))
    k_with "my item" => (k_dflt (refine item64 rfl (by omega) (by omega) ?_; first | (guard_hyp ti : Tok; intro ti2 ki2) | intro ti ki))
    k_with "my app" => (k_dflt (refine' app_ints ?F ?N ?U ?hi ?hz ?_; (case F => k_asm); (case N => k_asm); (case U => k_upd); (case hi => assumption); (case hz => ((try simp only [List.length_append, List.length_cons, List.length_nil]); omega)); intro ha Fa Na hia))
    rcases hlb with rfl | rfl | rfl
    all_goals k_steps
    · have hlc2 : lc1 = (lc * 256 + n) % 65536 := by omega
      refine' kst_end (c := ⟨lc1, ?t1, 2, ?t2, vs ++ [Value.int (sgn q6) ti], n9 + 1, out ++ [sgn q6]⟩) ?F ?N ?hn ?ho rfl ?hf ?hk ?hr ?hp
      case F => k_asm
      case N => k_asm
      case hk => exact List.forall_mem_cons.mpr ⟨by with_unfolding_all rfl, List.forall_mem_cons.mpr ⟨by with_unfolding_all rfl, List.forall_mem_nil _⟩⟩
      case hn => exact List.forall_mem_cons.mpr ⟨.head _, List.forall_mem_nil _⟩
      case ho => exact fun q hq => .tail _ hq
      case hf => exact ⟨by assumption, by simp only [List.length_append, List.length_cons, List.length_nil]; omega⟩
      case hr =>
        intro z z1 z2 z3
        simp only [List.forall_mem_cons] at z2
        simp [z1, z2.1, z2.2.1]
      case hp => exact ⟨BInv.step0 (lc' := lc1) (q := q6) hP h0 h1 hlc2 (by omega), by simp only [List.length_append, List.length_cons, List.length_nil]; omega⟩
    · have hlc2 : lc1 = (lc * 256 + n) % 65536 := by omega
      refine' kst_end (c := ⟨lc1, ?t3, 4, ?t4, vs ++ [Value.int (sgn q6) ti], n9 + 1, out ++ [sgn q6]⟩) ?F ?N ?hn ?ho rfl ?hf ?hk ?hr ?hp
      case F => k_asm
      case N => k_asm
      case hk => exact List.forall_mem_cons.mpr ⟨by with_unfolding_all rfl, List.forall_mem_cons.mpr ⟨by with_unfolding_all rfl, List.forall_mem_nil _⟩⟩
      case hn => exact List.forall_mem_cons.mpr ⟨.head _, List.forall_mem_nil _⟩
      case ho => exact fun q hq => .tail _ hq
      case hf => exact ⟨by assumption, by simp only [List.length_append, List.length_cons, List.length_nil]; omega⟩
      case hr =>
        intro z z1 z2 z3
        simp only [List.forall_mem_cons] at z2
        simp [z1, z2.1, z2.2.1]
      case hp => exact ⟨BInv.step2 (lc' := lc1) (q := q6) hP h0 h1 hlc2 (by omega), by simp only [List.length_append, List.length_cons, List.length_nil]; omega⟩
    · have hlc2 : lc1 = (lc * 256 + n) % 65536 := by omega
      refine' kst_end (c := ⟨lc1, ?t5, 0, ?t6, vs ++ [Value.int (sgn q6) ti] ++ [Value.int (sgn q7) ti2], n9 + 1 + 1, out ++ [sgn q6] ++ [sgn q7]⟩) ?F ?N ?hn ?ho rfl ?hf ?hk ?hr ?hp
      case F => k_asm
      case N => k_asm
      case hk => exact List.forall_mem_cons.mpr ⟨by with_unfolding_all rfl, List.forall_mem_cons.mpr ⟨by with_unfolding_all rfl, List.forall_mem_nil _⟩⟩
      case hn => exact List.forall_mem_cons.mpr ⟨.head _, List.forall_mem_nil _⟩
      case ho => exact fun q hq => .tail _ hq
      case hf => exact ⟨by assumption, by simp only [List.length_append, List.length_cons, List.length_nil]; omega⟩
      case hr =>
        intro z z1 z2 z3
        simp only [List.forall_mem_cons] at z2
        simp [z1, z2.1, z2.2.1]
      case hp => exact ⟨BInv.step4 (lc' := lc1) hP h0 h1 hlc2 (by omega) (by omega), by simp only [List.length_append, List.length_cons, List.length_nil]; omega⟩
end
end Mine
end PartC5
section PartC6
namespace Mine
open PySem PySem.Spec PySem.Calls PySem.W PyProof.Rows
section
variable {w : World} {p : Program} {loose : List Str} {mean : ExcName → Option Value} {mg mb : Str → Option Value} {dp un : Nat} {gd : Option (List Code)} {cn : Str} {cs : Scope} {L a : Addr} {ccd : Value} {cl : List (Str × Addr)} {outer : List Env} {A₀ : Around} {base h₀ : Heap} {m : Str → Option Value} {news : List (Addr × Obj)} {s : Shared} {Q E : Value → Shared → Prop}
local macro_rules | `(tactic| walk_at "call ref") => `(tactic| (k_extra "my call"))
set_option maxHeartbeats 8000000 in
theorem b64_spec {b : Array UInt8} {tb : Tok} {ks : List Int} (B : Below A₀ base outer h₀) (F : Fr h₀ L s.heap m) (X : (hd.heap_39 w.params).In h₀) (N : News h₀ L s.heap news) (T : Top p loose mean mg mb h₀) (hk : cs.kind = .function)
    (hb : KBw.bInts b = ks) (hl : ks.length ≤ 100) (hl3 : ks.length % 3 = 0) (hdp : dp < 500) (hun : un < 3000)
    (ret : ∀ h' tk r t, Fr h₀ L h' m → News h₀ L h' news → KBw.bInts r = (six ks).map sgn → Q (.bytes r t) { s with heap := h', toks := tk }) :
    wpAny (model PySem.Challenge.rw_nb0147_01.row.prog w) (ktrTop dp un gd cn cs L a ccd cl outer) (call (.ref 93) [.bytes b tb]) Q E s := by
  revert X; k_fill; intro X
  refine wpAny_call ?_
  refine' enterK (live := []) (binds := [(Str.ofString "s", .bytes b tb), (Str.ofString "altchars", .none)]) B F X News.nil T rfl rfl hk ?k6 ?k7 ?k8 ?k9 ?kB ?_ ?c2 ?c3 ?c4 ?c5
  case k6 => k_dflt k_is
  case k7 => k_dflt k_is
  case k8 => show dp < 1000; omega
  case k9 => k_dflt (exact binds_K (X.keeps F.keep) rfl (by k_is) rfl rfl rfl)
  case kB => exact locs rfl
  case c2 => exact rfl
  case c3 => exact rfl
  case c4 => exact rfl
  case c5 => decide
  intro g L' h₁ Z FG F' N' B' X' T' hlt
  clear FG hlt
  dsimp only
  k_with_none
  k_with "my call" => (k_dflt (refine' b2a_spec ?b1 ?b2 ?b3 ?b4 ?b5 ?b6 hb hl hl3 ?b7 ?b8 ?_; (case b1 => k_asm); (case b2 => k_asm); (case b3 => k_asm); (case b4 => exact News.nil); (case b5 => k_asm); (case b6 => exact rfl); (case b7 => (show dp + 1 < 600); omega); (case b8 => (show un + 3 < 4000); omega); intro h9 tk9 r9 t9 F9 N9 hr9; (try dsimp only)))
  k_steps
  exact ret _ _ _ _ (by k_asm) (thaw (news' := []) Z (by k_asm) N (fun _ _ => List.forall_mem_nil _) News.nil) hr9
end
end Mine
end PartC6
section PartC7
namespace Mine
open PySem PySem.Spec PySem.Calls PySem.W PyProof.Rows
section
variable {w : World} {p : Program} {loose : List Str} {mean : ExcName → Option Value} {mg mb : Str → Option Value} {dp un : Nat} {gd : Option (List Code)} {cn : Str} {cs : Scope} {L a : Addr} {ccd : Value} {cl : List (Str × Addr)} {outer : List Env} {A₀ : Around} {base h₀ : Heap} {m : Str → Option Value} {news : List (Addr × Obj)} {s : Shared} {Q E : Value → Shared → Prop}
local macro_rules | `(tactic| walk_at "subscriptTail") => `(tactic| (k_extra "my item"))
local macro_rules | `(tactic| walk_at "call type:bytes") => `(tactic| (k_extra "my bytes"))
set_option maxHeartbeats 8000000 in
theorem written_spec {l : Addr} {vs : List Value} {ns : List Int} (B : Below A₀ base outer h₀) (F : Fr h₀ L s.heap m) (X : (hd.heap_39 w.params).In h₀) (N : News h₀ L s.heap news) (T : Top p loose mean mg mb h₀) (hk : cs.kind = .function)
    (hl : s.heap.IsList l vs.toArray) (hi : IntsAre vs ns) (hlen : ns.length ≤ 100) (hns : ∀ d ∈ ns, 0 ≤ d ∧ d < 64) (hdp : dp < 500) (hun : un < 3000)
    (ret : ∀ h' tk r t, Fr h₀ L h' m → News h₀ L h' news → KBw.bInts r = ns.map sgn → Q (.bytes r t) { s with heap := h', toks := tk }) :
    wpAny (model PySem.Challenge.rw_nb0147_01.row.prog w) (ktrTop dp un gd cn cs L a ccd cl outer) (call (.ref 105) [.ref l]) Q E s := by
  revert X; k_fill; intro X
  refine wpAny_call ?_
  refine' enterKC (live := []) (binds := [(Str.ofString "figures", .ref l)]) B F X News.nil T rfl rfl hk ?k6 ?k7 ?k8 ?k9 ?kB ?kD ?_ ?c2 ?c3 ?c4
  case k6 => k_dflt k_is
  case k7 => k_dflt k_is
  case k8 => show dp < 1000; omega
  case k9 => exact BindsTo.of_eq rfl
  case kB => exact rfl
  case kD => decide
  case c2 => exact rfl
  case c3 => exact rfl
  case c4 => exact rfl
  intro g L' h₁ tk cells Z FG F' N' Y B' X' T' hlt
  have hl' : g.IsList l vs.toArray := Z.list0 hl
  clear FG hlt
  k_cells Y
  rename_i o1 d1
  replace d1 : o1.data = .cell none := d1
  replace N' : News g L' h₁ [(L' + 1, o1)] := N'
  dsimp only
  k_with_none
  k_with "my item" => (k_dflt (refine item64 rfl (hns _ (by assumption)).1 (hns _ (by assumption)).2 ?_; intro ti ki))
  k_steps
  exact ret _ _ _ _ (by k_asm) (thaw (news' := []) Z (by k_asm) N (fun _ _ => List.forall_mem_nil _) News.nil) (KBa.ints_make (signs_in ns))
end
end Mine
end PartC7
section PartC8
namespace Mine
open PySem PySem.Spec PySem.Calls PySem.W PyProof.Rows
section
variable {w : World} {p : Program} {loose : List Str} {mean : ExcName → Option Value} {mg mb : Str → Option Value} {dp un : Nat} {gd : Option (List Code)} {cn : Str} {cs : Scope} {L a : Addr} {ccd : Value} {cl : List (Str × Addr)} {outer : List Env} {A₀ : Around} {base h₀ : Heap} {m : Str → Option Value} {news : List (Addr × Obj)} {s : Shared} {Q E : Value → Shared → Prop}
local macro_rules | `(tactic| walk_at "eval ListComp") => `(tactic| (k_extra "my comp"))
local macro_rules | `(tactic| walk_at "binaryOp FloorDiv int int") => `(tactic| (k_extra "my fdiv"))
local macro_rules | `(tactic| walk_at "binaryOp Mod int int") => `(tactic| (k_extra "my mod"))
local macro_rules | `(tactic| walk_at "SrcD") => `(tactic| (refine stop_here ?_))
set_option maxHeartbeats 8000000 in
theorem eight_spec {x : Int} {tx : Tok} (B : Below A₀ base outer h₀) (F : Fr h₀ L s.heap m) (X : (hd.heap_39 w.params).In h₀) (N : News h₀ L s.heap news) (T : Top p loose mean mg mb h₀) (hk : cs.kind = .function)
    (hx : 0 ≤ x) (hx2 : x < 2 ^ 40) (hdp : dp < 500) (hun : un < 3000)
    (ret : ∀ h' tk r vs k, Fr h₀ L h' m → News h₀ L h' ((r, listOf vs.toArray k) :: news) → IntsAre vs (digs 6 8 x).reverse → Q (.ref r) { s with heap := h', toks := tk }) :
    wpAny (model PySem.Challenge.rw_nb0147_01.row.prog w) (ktrTop dp un gd cn cs L a ccd cl outer) (call (.ref 117) [.int x tx]) Q E s := by
  revert X; k_fill; intro X
  refine wpAny_call ?_
  refine' enterKC (live := []) (binds := [(Str.ofString "whole", .int x tx)]) B F X News.nil T rfl rfl hk ?k6 ?k7 ?k8 ?k9 ?kB ?kD ?_ ?c2 ?c3 ?c4
  case k6 => k_dflt k_is
  case k7 => k_dflt k_is
  case k8 => show dp < 1000; omega
  case k9 => exact BindsTo.of_eq rfl
  case kB => exact rfl
  case kD => decide
  case c2 => exact rfl
  case c3 => exact rfl
  case c4 => exact rfl
  intro g L' h₁ tk cells Z FG F' N' Y B' X' T' hlt
  clear FG hlt
  k_cells Y
  rename_i o1 d1
  replace d1 : o1.data = .cell (some (.int x tx)) := d1
  replace N' : News g L' h₁ [(L' + 1, o1)] := N'
  dsimp only
  k_with_none
  k_with "my comp" => (k_dflt (refine ListComp_D (_F₀ := by k_asm) (by with_unfolding_all rfl) (by decide) (by rfl) (by decide) (by rfl) ?_))
  k_steps
  refine Stop.go ?_
  rename_i hr Fr9 N9 _
  refine ⟨_, 7, -1, -1, _, _, _, 8, _, rfl, rfl, Fr9, N9, hr, by decide, by decide, by decide, ?_⟩
  rintro s₂ ⟨h9, rfl⟩
  refine rest_ints (fun i => x / 64 ^ (7 - i) % 64) ?_ ?_
  · intro i v I oI C oC D m₂ h tk E' ys hi hv hC hm F8 N8 off ne
    obtain ⟨t8, rfl⟩ := hv
    have hp := pow64 hi (e := ((7 : Int) + (i : Int) * -1).toNat) (by omega)
    k_with_none
    k_with "my fdiv" => (k_dflt (refine fdiv_eq hp.1 hp.2 ?_; intro q1 hq1))
    k_with "my mod" => (k_dflt (refine mod_eq (by decide) ?_; intro q2 hq2))
    k_steps
    refine EltEnd.intro (by k_asm) (by k_asm) ?_
    have e9 : ((7 : Int) + (i : Int) * -1).toNat = 7 - i := by omega
    rw [hq2, hq1, e9]
  · intro ys hys D h tk F8 N8 off
    k_steps
    rw [eight_digs hx] at hys
    exact ret _ _ D ys ys.length (by k_asm) (List.forall_mem_cons.mpr ⟨(by assumption : News h₀ L h _) _ (.head _), thaw (news' := []) Z F8 N (fun _ _ => List.forall_mem_nil _) News.nil⟩) hys
end
end Mine
end PartC8
section PartC9
namespace Mine
open PySem PySem.Spec PySem.Calls PySem.W PyProof.Rows
structure QSt where
  R : Int
  tR : Tok
  pl : Int
  tp : Tok
structure PSt where
  rest : Int
  tr : Tok
  vs : List Value
  k : Nat
  told : List Int
/-- the paper's figures and rest -/
def paper (D : Int) (ns : List Int) : List Int × Int := ns.foldl (fun st f => (st.1 ++ [(st.2 * 64 + f) / D], (st.2 * 64 + f) % D)) ([], 0)
theorem paper_snoc (D : Int) (ns : List Int) (f : Int) : paper D (ns ++ [f]) = ((paper D ns).1 ++ [((paper D ns).2 * 64 + f) / D], ((paper D ns).2 * 64 + f) % D) := by
  unfold paper; rw [List.foldl_append]; rfl
section
variable {w : World} {p : Program} {loose : List Str} {mean : ExcName → Option Value} {mg mb : Str → Option Value} {dp un : Nat} {gd : Option (List Code)} {cn : Str} {cs : Scope} {L a : Addr} {ccd : Value} {cl : List (Str × Addr)} {outer : List Env} {A₀ : Around} {base h₀ : Heap} {m : Str → Option Value} {news : List (Addr × Obj)} {s : Shared} {Q E : Value → Shared → Prop}
local macro_rules | `(tactic| walk_at "pyIter ref") => `(tactic| (k_extra "my loop"))
local macro_rules | `(tactic| walk_at "binaryOp Mult int int") => `(tactic| (k_extra "my mul"))
local macro_rules | `(tactic| walk_at "call builtin:list.append") => `(tactic| (k_extra "my app"))
local macro_rules | `(tactic| k_all) => `(tactic| first | exact List.forall_mem_nil _ | assumption | (refine' List.forall_mem_cons.mpr ⟨?a, ?b⟩; (case a => k_ne); (case b => k_all)))
local macro_rules | `(tactic| walk_at "InvEndN") => `(tactic| (k_extra "my turn"))
local macro_rules | `(tactic| walk_at "exec For Name Tuple cons nil") => `(tactic| (k_extra "my for"))
local macro_rules | `(tactic| walk_at "exec For") => `(tactic| (k_extra "my for"))
set_option maxHeartbeats 8000000 in
theorem paper_spec {l : Addr} {vs : List Value} {ns : List Int} {D : Int} {tD : Tok} (B : Below A₀ base outer h₀) (F : Fr h₀ L s.heap m) (X : (hd.heap_39 w.params).In h₀) (N : News h₀ L s.heap news) (T : Top p loose mean mg mb h₀) (hk : cs.kind = .function)
    (hl : s.heap.IsList l vs.toArray) (hi : IntsAre vs ns) (hlen : ns.length ≤ 100) (hns : ∀ d ∈ ns, 0 ≤ d ∧ d < 64) (hD : 1 ≤ D) (hD2 : D ≤ 2147483648) (hdp : dp < 500) (hun : un < 3000)
    (ret : ∀ h' tk r vs k pr tp, Fr h₀ L h' m → News h₀ L h' ((pr, { cls := .type "tuple", data := .seq #[.ref r, .int (paper D ns).2 tp] 0 }) :: (r, listOf vs.toArray k) :: news) → IntsAre vs (paper D ns).1 → r < pr → Q (.ref pr) { s with heap := h', toks := tk }) :
    wpAny (model PySem.Challenge.rw_nb0147_01.row.prog w) (ktrTop dp un gd cn cs L a ccd cl outer) (call (.ref 124) [.ref l, .int D tD]) Q E s := by
  revert X; k_fill; intro X
  refine wpAny_call ?_
  refine' enterK (live := []) (binds := [(Str.ofString "figures", .ref l), (Str.ofString "divisor", .int D tD)]) B F X News.nil T rfl rfl hk ?k6 ?k7 ?k8 ?k9 ?kB ?_ ?c2 ?c3 ?c4 ?c5
  case k6 => k_dflt k_is
  case k7 => k_dflt k_is
  case k8 => show dp < 1000; omega
  case k9 => exact BindsTo.of_eq rfl
  case kB => exact locs rfl
  case c2 => exact rfl
  case c3 => exact rfl
  case c4 => exact rfl
  case c5 => decide
  intro g L' h₁ Z FG F' N' B' X' T' hlt
  have hl' : g.IsList l vs.toArray := Z.list0 hl
  clear FG hlt
  dsimp only
  k_with_none
  k_with "my loop" => refine stop_here ?_
  k_with "my for" => (k_dflt (refine' For_invVF (m := _) ?FF ?k1 ?k2 ?_; (case FF => k_asm); (case k1 => exact rfl); (case k2 => exact rfl)))
  k_steps
  refine Stop.go ?_
  rename_i d _ _ _ _ lFo No
  refine' kst_list (σ := PSt) (Led := fun c => [(d, listOf c.vs.toArray c.k)]) (ps := fun c => [(Str.ofString "rest", .int c.rest c.tr)]) (Facts := fun c => IntsAre c.vs c.told) (stored := [Str.ofString "place", Str.ofString "step"]) (P := fun pre c => c.told = (paper D pre).1 ∧ c.rest = (paper D pre).2 ∧ 0 ≤ c.rest ∧ c.rest < D ∧ c.told.length = pre.length) ⟨0, _, [], 0, []⟩ rfl hl' (by assumption) ?F ?N ?hf ?hk ?hp ?turn ?done
  case F => k_asm
  case N => k_asm
  case hf => exact .nil
  case hk => exact List.forall_mem_cons.mpr ⟨by with_unfolding_all rfl, List.forall_mem_nil _⟩
  case hp => exact ⟨rfl, rfl, Int.le_refl _, by show (0 : Int) < D; omega, rfl⟩
  case turn =>
    intro c pre post f tf u h tk own hns2 hmem hoff hF hP F9 N9
    obtain ⟨rest, tr, ws, k9, told⟩ := c
    have F8 : Fr g L' h _ := F9
    have N8 : News g L' h ((d, listOf ws.toArray k9) :: own) := N9
    have hown : ∀ q ∈ own, q.1 ≠ d := fun q hq => hoff q hq d (.head _)
    clear F9 N9 hoff No lFo
    dsimp only [kstB] at F8 hF hP
    obtain ⟨e1, e2, hr0, hr1, hln⟩ := hP
    have hpl : pre.length < 100 := by
      have := congrArg List.length hns2
      simp only [List.length_append, List.length_cons] at this
      omega
    have hf := hns f hmem
    k_with_none
    k_with "my loop" => refine stop_here ?_
    k_with "my for" => (k_dflt (refine' For_invVF (m := _) ?FF ?k1 ?k2 ?_; (case FF => k_asm); (case k1 => exact rfl); (case k2 => exact rfl)))
    k_steps
    refine Stop.go ?_
    rename_i D8 h8 F7 N7 l8
    have N6 : News g L' h8 ((d, listOf ws.toArray k9) :: own) := newsSub N7 fun q hq => .tail _ hq
    have hR0 : 0 ≤ rest * 64 + f := by omega
    have hR1 : rest * 64 + f < D * 64 := by omega
    refine' kst_tup (σ := QSt) (ns := [32, 16, 8, 4, 2, 1]) (Led := fun _ => (d, listOf ws.toArray k9) :: own) (ps := fun c => [(Str.ofString "rest", .int c.R c.tR), (Str.ofString "place", .int c.pl c.tp)]) (Facts := fun _ => True) (stored := []) (P := fun pre c => QInv D (rest * 64 + f) pre c.R c.pl) ⟨rest * 64 + f, _, 0, _⟩ rfl ?tup ?tL ?tl ?ti ?F2 ?N2 trivial ?hk2 ?hp2 ?turn2 ?done2
    case F2 => exact F7
    case N2 => exact N6
    case tup => exact ⟨_, (N7 _ (.head _)).1, rfl, _, rfl⟩
    case tL => exact Ne.symm (N7 _ (.head _)).2.1
    case tl => exact List.forall_mem_cons.mpr ⟨Nat.ne_of_lt l8.1, fun q hq => Nat.ne_of_lt (kst_ltOf l8.2 q hq)⟩
    case ti => exact .cons _ _ (.cons _ _ (.cons _ _ (.cons _ _ (.cons _ _ (.cons _ _ .nil)))))
    case hk2 => exact List.forall_mem_cons.mpr ⟨by with_unfolding_all rfl, List.forall_mem_cons.mpr ⟨by with_unfolding_all rfl, List.forall_mem_nil _⟩⟩
    case hp2 => exact QInv.start hR0 hR1
    case turn2 =>
      intro c pre2 post2 n tn u2 h2 tk2 own2 hns3 hmem2 hoff2 hF2 hP2 F9 N9
      obtain ⟨R, tR, pl, tp⟩ := c
      have F5 : Fr g L' h2 _ := F9
      have N5 : News g L' h2 ((d, listOf ws.toArray k9) :: (own ++ own2)) := N9
      clear F9 N9 F7 N7 N6
      dsimp only [kstB] at F5 hP2
      k_with_none
      k_with "my mul" => (k_dflt (refine mul_eq (by omega) ?_; intro z hz))
      k_steps
      · refine' kst_end (c := ⟨R - z, ?u1, pl + n, ?u2⟩) ?F3 ?N3 ?hn3 ?ho3 rfl trivial ?hk3 ?hr3 ?hp3
        case F3 => k_asm
        case N3 => k_asm
        case hk3 => exact List.forall_mem_cons.mpr ⟨by with_unfolding_all rfl, List.forall_mem_cons.mpr ⟨by with_unfolding_all rfl, List.forall_mem_nil _⟩⟩
        case hn3 => exact fun q hq => List.mem_append_left (as := (d, listOf ws.toArray k9) :: own) _ hq
        case ho3 => exact fun q hq => List.mem_append_right ((d, listOf ws.toArray k9) :: own) hq
        case hr3 =>
          intro z z1 z2 z3
          simp only [List.forall_mem_cons] at z2
          simp [z1, z2.1, z2.2.1]
        case hp3 => exact QInv.take hP2 hns3 hz (by omega)
      · refine' kst_end (c := ⟨R, ?u3, pl, ?u4⟩) ?F4 ?N4 ?hn4 ?ho4 rfl trivial ?hk4 ?hr4 ?hp4
        case F4 => k_asm
        case N4 => k_asm
        case hk4 => exact List.forall_mem_cons.mpr ⟨by with_unfolding_all rfl, List.forall_mem_cons.mpr ⟨by with_unfolding_all rfl, List.forall_mem_nil _⟩⟩
        case hn4 => exact fun q hq => List.mem_append_left (as := (d, listOf ws.toArray k9) :: own) _ hq
        case ho4 => exact fun q hq => List.mem_append_right ((d, listOf ws.toArray k9) :: own) hq
        case hr4 =>
          intro z z1 z2 z3
          simp only [List.forall_mem_cons] at z2
          simp [z1, z2.1, z2.2.1]
        case hp4 =>
          exact (QInv.leave hP2 hns3 hz (by omega) : QInv D (rest * 64 + f) (pre2 ++ [n]) R pl)
    case done2 =>
      intro c u2 h2 tk2 hF2 hP2 F9 N9
      obtain ⟨R, tR, pl, tp⟩ := c
      have F5 : Fr g L' h2 _ := F9
      have N5 : News g L' h2 ((d, listOf ws.toArray k9) :: own) := N9
      clear F9 N9 F7 N7 N6
      dsimp only [kstB] at F5 hP2
      obtain ⟨eR, eP⟩ := hP2.done hD
      have hb1 := Int.emod_nonneg (rest * 64 + f) (show D ≠ 0 by omega)
      have hb2 := Int.emod_lt_of_pos (rest * 64 + f) (show 0 < D by omega)
      k_with_none
      k_with "my app" => (k_dflt (refine' app_ints ?F ?N ?U ?hi ?hz ?_; (case F => k_asm); (case N => k_asm); (case U => k_upd); (case hi => assumption); (case hz => omega); intro ha Fa Na hia))
      k_steps
      refine' kst_end (c := ⟨R, ?u5, ws ++ [Value.int pl tp], k9 + 1, told ++ [pl]⟩) ?F6 ?N6 ?hn6 ?ho6 rfl ?hf6 ?hk6 ?hr6 ?hp6
      case F6 => k_asm
      case N6 => k_asm
      case hk6 => exact List.forall_mem_cons.mpr ⟨by with_unfolding_all rfl, List.forall_mem_nil _⟩
      case hn6 => exact List.forall_mem_cons.mpr ⟨.head _, List.forall_mem_nil _⟩
      case ho6 => exact fun q hq => .tail _ hq
      case hf6 => assumption
      case hr6 =>
        intro z z1 z2 z3
        simp only [List.forall_mem_cons] at z2
        simp only [List.contains_cons, List.contains_nil, Bool.or_false, Bool.or_eq_false_iff, beq_eq_false_iff_ne, ne_eq] at z3
        simp [z1, z2.1, z3.1, z3.2]
      case hp6 =>
        rw [paper_snoc]
        refine ⟨?_, ?_, ?_, ?_, ?_⟩
        · show told ++ [pl] = _
          rw [e1, eP, e2]
        · show R = _
          rw [eR, e2]
        · show 0 ≤ R
          omega
        · show R < D
          omega
        · simp [hln]
  case done =>
    intro c u h tk hF hP F9 N9
    obtain ⟨rest, tr, ws, k9, told⟩ := c
    have F8 : Fr g L' h _ := F9
    have N8 : News g L' h [(d, listOf ws.toArray k9)] := N9
    clear F9 N9 No lFo
    dsimp only [kstB] at F8 hF hP
    obtain ⟨e1, e2, hr0, hr1, hln⟩ := hP
    k_with_none
    subst e1 e2
    k_steps
    exact ret _ _ d ws k9 _ tr (by k_asm) (thaw Z (by k_asm) N (fun _ _ => List.forall_mem_nil _) (by k_asm)) hF (by assumption)
end
end Mine
end PartC9
section PartC10
namespace Mine
open PySem PySem.Spec PySem.Calls PySem.W PyProof.Rows
structure MSt where
  place : Int
  tp : Tok
  vs : List Value
  cur : List Int
section
variable {w : World} {p : Program} {loose : List Str} {mean : ExcName → Option Value} {mg mb : Str → Option Value} {dp un : Nat} {gd : Option (List Code)} {cn : Str} {cs : Scope} {L a : Addr} {ccd : Value} {cl : List (Str × Addr)} {outer : List Env} {A₀ : Around} {base h₀ : Heap} {m : Str → Option Value} {news : List (Addr × Obj)} {s : Shared} {Q E : Value → Shared → Prop}
local macro_rules | `(tactic| walk_at "exec While Compare cons nil") => `(tactic| (k_extra "my while"))
local macro_rules | `(tactic| walk_at "subscriptTail Name Slice ref ref") => `(tactic| (k_extra "my slice"))
local macro_rules | `(tactic| walk_at "KswEnd") => `(tactic| (refine stop_here ?_))
set_option maxHeartbeats 8000000 in
theorem more_spec {l : Addr} {vs : List Value} {ns : List Int} (B : Below A₀ base outer h₀) (F : Fr h₀ L s.heap m) (X : (hd.heap_39 w.params).In h₀) (N : News h₀ L s.heap news) (T : Top p loose mean mg mb h₀) (hk : cs.kind = .function)
    (hl : s.heap.IsList l vs.toArray) (hi : IntsAre vs ns) (hlen : ns.length ≤ 100) (hns : ∀ d ∈ ns, 0 ≤ d ∧ d < 64) (hne : ∃ d ∈ ns, d ≠ 63) (hdp : dp < 500) (hun : un < 3000)
    (ret : ∀ h' tk r vs k ms, Fr h₀ L h' m → News h₀ L h' ((r, listOf vs.toArray k) :: news) → IntsAre vs ms → ms.length = ns.length → (∀ d ∈ ms, 0 ≤ d ∧ d < 64) → worth ms = worth ns + 1 → Q (.ref r) { s with heap := h', toks := tk }) :
    wpAny (model PySem.Challenge.rw_nb0147_01.row.prog w) (ktrTop dp un gd cn cs L a ccd cl outer) (call (.ref 131) [.ref l]) Q E s := by
  revert X; k_fill; intro X
  refine wpAny_call ?_
  refine' enterK (live := []) (binds := [(Str.ofString "figures", .ref l)]) B F X News.nil T rfl rfl hk ?k6 ?k7 ?k8 ?k9 ?kB ?_ ?c2 ?c3 ?c4 ?c5
  case k6 => k_dflt k_is
  case k7 => k_dflt k_is
  case k8 => show dp < 1000; omega
  case k9 => exact BindsTo.of_eq rfl
  case kB => exact locs rfl
  case c2 => exact rfl
  case c3 => exact rfl
  case c4 => exact rfl
  case c5 => decide
  intro g L' h₁ Z FG F' N' B' X' T' hlt
  have hl' : g.IsList l vs.toArray := Z.list0 hl
  clear FG hlt
  dsimp only
  k_with_none
  k_with "my while" => refine stop_here ?_
  k_with "my slice" => (k_dflt (refine copy_K (by k_asm) (by k_asm) (hl'.at fun o e => (Fr.keep (by k_asm)) _ o e) (by assumption) (by omega) ?_; intro D8 h8 F8 N8 l8))
  k_steps
  refine Stop.go ?_
  rename_i F7 N7
  have hi2 : IntsAre vs ns := by assumption
  have hne0 : ns ≠ [] := by
    rintro rfl
    obtain ⟨_, h9, _⟩ := hne
    cases h9
  refine' ksw_while (σ := MSt) (Led := fun c => [(D8, listOf c.vs.toArray 0)]) (ps := fun c => [(Str.ofString "place", .int c.place c.tp)]) (Facts := fun c => IntsAre c.vs c.cur) (stored := []) (P := fun c => MInv ns c.cur c.place) (μ := fun c => c.place.toNat) ⟨(ns.length : Int) - 1, _, vs, ns⟩ F7 N7 hi2 ?hk1 (MInv.start hne0) ?turn
  case hk1 => exact List.forall_mem_cons.mpr ⟨by with_unfolding_all rfl, List.forall_mem_nil _⟩
  case turn =>
    intro c u h tk hF hP F9 N9
    obtain ⟨place, tp, ws, cur⟩ := c
    dsimp only [kstB] at F9 hF hP N9
    obtain ⟨hp0, hp1, hcl⟩ := hP.facts
    clear F7 N7
    k_with_none
    k_steps
    · refine Stop.go ?_
      have hq := hP.turn hne (by assumption)
      refine ksw_end ⟨place - 1, _, _, cur.set place.toNat 0⟩ (by k_asm) (by k_asm) (List.forall_mem_cons.mpr ⟨by exact .head _, List.forall_mem_nil _⟩) (by assumption) (List.forall_mem_cons.mpr ⟨by with_unfolding_all rfl, List.forall_mem_nil _⟩) ?_ hq ?_
      · intro z z2 z3
        simp only [List.forall_mem_cons] at z2
        simp [z2.1]
      · have := hq.facts
        show (place - 1).toNat < place.toNat
        omega
    · obtain ⟨r1, r2⟩ := hP.last hns (by assumption)
      exact ret _ _ D8 _ 0 _ (by k_asm) (thaw Z (by k_asm) N (fun _ _ => List.forall_mem_nil _) (by k_asm)) (by assumption) (by rw [List.length_set]; exact hcl) r1 r2
end
end Mine
end PartC10
section PartC11
namespace Mine
open PySem PySem.Spec PySem.Calls PySem.W PyProof.Rows
theorem divmod_eq {prog : Program} {w : World} {A : Around} {E : Value → Shared → Prop} {s : Shared} {a b : Int} {t u : Tok} {Q : Value → Shared → Prop} {h₀ : Heap} {L : Addr} {m : Str → Option Value} {news : List (Addr × Obj)} (F : Fr h₀ L s.heap m) (N : News h₀ L s.heap news) (hb : 0 < b) (hb2 : b < 18446744073709551616)
    (h : ∀ pr h' t1 t2 tk, Fr h₀ L h' m → News h₀ L h' ((pr, { cls := .type "tuple", data := .seq #[.int (a / b) t1, .int (a % b) t2] 0 }) :: news) → Q (.ref pr) { s with heap := h', toks := tk }) :
    wpAny (model prog w) A (call (.builtin "divmod") [.int a t, .int b u]) Q E s := by
  refine divmod_N F N (by omega) (fun h' F' N' => ?_) (.inl (noPy hb hb2))
  rw [Int.fdiv_eq_ediv_of_nonneg _ (by omega), Int.fmod_eq_emod_of_nonneg _ (by omega)] at N'
  exact h _ _ _ _ _ F' N'
section
variable {w : World} {p : Program} {loose : List Str} {mean : ExcName → Option Value} {mg mb : Str → Option Value} {dp un : Nat} {gd : Option (List Code)} {cn : Str} {cs : Scope} {L a : Addr} {ccd : Value} {cl : List (Str × Addr)} {outer : List Env} {A₀ : Around} {base h₀ : Heap} {m : Str → Option Value} {news : List (Addr × Obj)} {s : Shared} {Q E : Value → Shared → Prop}
local macro_rules | `(tactic| walk_at "call builtin:divmod") => `(tactic| (k_extra "my divmod"))
set_option maxHeartbeats 8000000 in
theorem div_spec {x b n : Int} {tx tb tn : Tok} (B : Below A₀ base outer h₀) (F : Fr h₀ L s.heap m) (X : (hd.heap_39 w.params).In h₀) (N : News h₀ L s.heap news) (T : Top p loose mean mg mb h₀) (hk : cs.kind = .function)
    (hx : 0 ≤ x) (hx2 : x < 2 ^ 200) (hb : 1 ≤ b) (hb2 : b ≤ 2147483648) (hn : 0 ≤ n) (hdp : dp < 700) (hun : un < 5000)
    (ret : ∀ h' tk pr t1 t2, Fr h₀ L h' m → News h₀ L h' ((pr, { cls := .type "tuple", data := .seq #[.int (x / b) t1, .int (x % b) t2] 0 }) :: news) → (∀ q ∈ news, q.1 ≠ pr) → Q (.ref pr) { s with heap := h', toks := tk }) :
    wpAny (model PySem.Challenge.rw_nb0147_01.row.prog w) (ktrTop dp un gd cn cs L a ccd cl outer) (call (.ref 28) [.int x tx, .int b tb, .int n tn]) Q E s := by
  revert X; k_fill; intro X
  refine wpAny_call ?_
  refine' enterK (live := []) (binds := [(Str.ofString "a", .int x tx), (Str.ofString "b", .int b tb), (Str.ofString "n", .int n tn)]) B F X News.nil T rfl rfl hk ?k6 ?k7 ?k8 ?k9 ?kB ?_ ?c2 ?c3 ?c4 ?c5
  case k6 => k_dflt k_is
  case k7 => k_dflt k_is
  case k8 => show dp < 1000; omega
  case k9 => exact BindsTo.of_eq rfl
  case kB => exact locs rfl
  case c2 => exact rfl
  case c3 => exact rfl
  case c4 => exact rfl
  case c5 => decide
  intro g L' h₁ Z FG F' N' B' X' T' hlt
  clear FG hlt
  dsimp only
  have hbits : Builtin.Int.intBits x ≤ 200 := intBits_le hx hx2
  k_with_none
  k_with "my divmod" => (k_dflt (refine divmod_eq (by k_asm) (by k_asm) (by omega) (by omega) ?_; intro pr h9 t1 t2 tk9 F9 N9))
  k_steps
  exact ret _ _ pr t1 t2 (by k_asm) (thaw Z F9 N (fun _ _ => List.forall_mem_nil _) (by k_asm)) (fun q hq => Ne.symm (apart_back (tabs' := [(pr, _)]) Z N (fun _ _ => List.forall_mem_nil _) N9 (fun p hp => by rw [List.mem_singleton.mp hp]; exact .head _) q hq _ (.head _)))
end
end Mine
end PartC11
section PartC12
namespace Mine
open PySem PySem.Spec PySem.Calls PySem.W PyProof.Rows
structure DSt where
  r : Int
  tr : Tok
  vs : List Value
  k : Nat
  qs : List Int
section
variable {w : World} {p : Program} {loose : List Str} {mean : ExcName → Option Value} {mg mb : Str → Option Value} {dp un : Nat} {gd : Option (List Code)} {cn : Str} {cs : Scope} {L a : Addr} {ccd : Value} {cl : List (Str × Addr)} {outer : List Env} {A₀ : Around} {base h₀ : Heap} {m : Str → Option Value} {news : List (Addr × Obj)} {s : Shared} {Q E : Value → Shared → Prop}
local macro_rules | `(tactic| walk_at "call ref") => `(tactic| (k_extra "my call"))
local macro_rules | `(tactic| walk_at "pyIter ref") => `(tactic| (k_extra "my loop"))
local macro_rules | `(tactic| walk_at "exec For") => `(tactic| (k_extra "my for"))
local macro_rules | `(tactic| walk_at "exec For Name Call cons nil") => `(tactic| (k_extra "my for"))
local macro_rules | `(tactic| k_all) => `(tactic| first | exact List.forall_mem_nil _ | assumption | (refine' List.forall_mem_cons.mpr ⟨?a, ?b⟩; (case a => k_ne); (case b => k_all)))
local macro_rules | `(tactic| walk_at "binaryOp LShift int int") => `(tactic| (k_extra "my lsh"))
local macro_rules | `(tactic| walk_at "call builtin:list.append") => `(tactic| (k_extra "my app"))
local macro_rules | `(tactic| walk_at "InvEndN") => `(tactic| (k_extra "my turn"))
local macro_rules | `(tactic| walk_at "call type:reversed") => `(tactic| (k_extra "my rev"))
set_option maxHeartbeats 8000000 in
theorem pos_spec {x b : Int} {tx tb : Tok} {t37 t44 : List (Addr × Obj)} (B : Below A₀ base outer h₀) (F : Fr h₀ L s.heap m) (X : (hd.heap_39 w.params).In h₀) (N : News h₀ L s.heap (t37 ++ (t44 ++ news))) (T : Top p loose mean mg mb h₀) (hk : cs.kind = .function)
    (C37 : CodeHd h₀ 41 37) (C44 : CodeHd h₀ 48 44) (hT37 : Nest 37 35 4 q37 t37) (hT44 : Nest 44 50 4 q44 t44) (hap : ∀ q ∈ t44, ∀ p ∈ t37, p.1 ≠ q.1) (hapn : ∀ q ∈ news, ∀ p ∈ t37 ++ t44, p.1 ≠ q.1)
    (hx : 0 ≤ x) (hx2 : x < 2 ^ 80) (hb : 1 ≤ b) (hb2 : b ≤ 2147483648) (hdp : dp < 500) (hun : un < 3000)
    (ret : ∀ h' tk pr t1 t2 t37' t44', Nest 37 35 4 q37 t37' → Nest 44 50 4 q44 t44' → Fr h₀ L h' m → News h₀ L h' ((pr, { cls := .type "tuple", data := .seq #[.int (x / b) t1, .int (x % b) t2] 0 }) :: (t37' ++ (t44' ++ news))) → (∀ q ∈ t44', ∀ p ∈ t37', p.1 ≠ q.1) → (∀ q ∈ news, ∀ p ∈ t37' ++ t44', p.1 ≠ q.1) → Q (.ref pr) { s with heap := h', toks := tk }) :
    wpAny (model PySem.Challenge.rw_nb0147_01.row.prog w) (ktrTop dp un gd cn cs L a ccd cl outer) (call (.ref 56) [.int x tx, .int b tb]) Q E s := by
  revert X; k_fill; intro X
  refine wpAny_call ?_
  refine' enterK (live := t37 ++ t44) (binds := [(Str.ofString "a", .int x tx), (Str.ofString "b", .int b tb)]) B F X (fun q hq => N q (by rw [← List.append_assoc]; exact List.mem_append_left _ hq)) T rfl rfl hk ?k6 ?k7 ?k8 ?k9 ?kB ?_ ?c2 ?c3 ?c4 ?c5
  case k6 => k_dflt k_is
  case k7 => k_dflt k_is
  case k8 => show dp < 1000; omega
  case k9 => exact BindsTo.of_eq rfl
  case kB => exact locs rfl
  case c2 => exact rfl
  case c3 => exact rfl
  case c4 => exact rfl
  case c5 => decide
  intro g L' h₁ Z FG F' N' B' X' T' hlt
  have C37' : CodeHd g 41 37 := C37.keeps FG.keep
  have C44' : CodeHd g 48 44 := C44.keeps FG.keep
  have hNr : News h₀ L s.heap news := newsSub N fun q hq => List.mem_append_right _ (List.mem_append_right _ hq)
  clear FG
  dsimp only
  have hb0 : 0 ≤ b := by omega
  have hbb : Builtin.Int.intBits b ≤ 32 := intBits_le hb0 (by omega)
  have hb1 : 1 ≤ Builtin.Int.intBits b := by
    cases h9 : Builtin.Int.intBits b with
    | zero =>
      have := PySem.intBits_le_iff.mp (Nat.le_of_eq h9)
      simp at this
      omega
    | succ k => omega
  k_with_none
  k_with "my call" => (k_dflt (refine' i2d_spec (news := t44) (tabs := t37) (nn := Builtin.Int.intBits b) ?b1 ?b2 ?b3 ?b4 ?b5 ?b6 C37' hT37 hap hx hx2 hb1 (by omega) ?b7 ?b8 ?_; (case b1 => k_asm); (case b2 => k_asm); (case b3 => k_asm); (case b4 => k_asm); (case b5 => k_asm); (case b6 => exact rfl); (case b7 => (show dp + 1 < 700); omega); (case b8 => (show un + 3 < 5000); omega); intro h9 tk9 t37' r9 vs9 ds9 hT37' F9 N9 hap' hv9 e9 hr9 hl9; (try dsimp only)))
  k_with "my loop" => refine stop_here ?_
  k_with "my rev" => (k_dflt (refine' krv_reversed ?F ?N ?l ?_; (case F => k_asm); (case N => k_asm); (case l => exact News.isList (by k_asm) (by k_mem)); intro D8 h8 F8 N8 l8))
  k_with "my for" => (k_dflt (refine' For_invVF (m := _) ?FF ?k1 ?k2 ?_; (case FF => k_asm); (case k1 => exact rfl); (case k2 => exact rfl)))
  k_steps
  refine Stop.go ?_
  rename_i dq _ l1 _ F7 N7
  have N7' : News g L' h8 ((dq, listOf #[] 0) :: (t37' ++ t44)) := newsSub N8 fun q hq => by
    cases hq with
    | head => exact .tail _ (.head _)
    | tail _ hq => exact .tail _ (.tail _ (.tail _ hq))
  have hrev : (D8, revObj r9 ((vs9.length : Int) - 1)) ∈ (D8, revObj r9 ((vs9.length : Int) - 1)) :: (dq, listOf #[] 0) :: ((r9, listOf vs9.toArray 0) :: t37' ++ t44) := .head _
  have hr9g : h8.get? r9 = some (listOf vs9.toArray 0) := (N8 _ (.tail _ (.tail _ (.head _)))).1
  have l8r : r9 < D8 := l8 _ (.tail _ (.head _))
  have l8d : dq < D8 := l8 _ (.head _)
  have l1r : r9 < dq := l1 _ (.head _)
  have l8t : ∀ q ∈ t37' ++ t44, q.1 < D8 := fun q hq => l8 q (.tail _ (.tail _ hq))
  have l1t : ∀ q ∈ t37' ++ t44, q.1 < dq := fun q hq => l1 q (.tail _ hq)
  have lrt : ∀ q ∈ t37' ++ t44, q.1 ≠ r9 := fun q hq => by
    rcases List.mem_append.mp hq with hq | hq
    · exact apart_seq (led := []) hT37' (newsSub N7' fun q hq => .tail _ (List.mem_append_left _ hq)) hr9g rfl q hq
    · exact apart_seq (led := []) hT44 (newsSub N7' fun q hq => .tail _ (List.mem_append_right _ hq)) hr9g rfl q hq
  have hdl : ds9.length ≤ 80 := count_le hx hb1 (Int.lt_of_lt_of_le hx2 (by
    have := Nat.pow_le_pow_right (n := 2) (by decide) (show 80 ≤ Builtin.Int.intBits b * 80 by omega)
    have h2 : ((2 ^ 80 : Nat) : Int) ≤ ((2 ^ (Builtin.Int.intBits b * 80) : Nat) : Int) := Int.ofNat_le.mpr this
    simpa using h2)) hl9
  refine' kst_rev (σ := DSt) (l := r9) (vs := vs9) (ns := ds9) (Led := fun c => (dq, listOf c.vs.toArray c.k) :: (t37' ++ t44)) (ps := fun c => [(Str.ofString "r", .int c.r c.tr)]) (Facts := fun c => IntsAre c.vs c.qs) (stored := [Str.ofString "q_digit"]) (P := fun pre c => DInv (Builtin.Int.intBits b) b pre c.r c.qs) ⟨0, _, [], 0, []⟩ rfl ?it ?ll ?ne1 ?ne2 ?ne3 ?nn ?ne4 ?ne5 hv9 ?F ?N ?hf ?hk1 ?hp1 ?turn ?done
  case F => exact F8
  case N => exact N7'
  case it => exact ⟨_, (N8 _ hrev).1, rfl, rfl⟩
  case ll => exact ⟨_, hr9g, rfl, _, rfl⟩
  case ne1 => exact Nat.ne_of_lt l8r
  case ne2 => exact Ne.symm (N8 _ hrev).2.1
  case ne3 => exact Ne.symm (N8 _ (.tail _ (.tail _ (.head _)))).2.1
  case nn => exact (N8 _ hrev).2.2
  case ne4 => exact List.forall_mem_cons.mpr ⟨Nat.ne_of_lt l8d, fun q hq => Nat.ne_of_lt (l8t q hq)⟩
  case ne5 => exact List.forall_mem_cons.mpr ⟨Nat.ne_of_gt l1r, lrt⟩
  case hf => exact .nil
  case hk1 => exact List.forall_mem_cons.mpr ⟨by with_unfolding_all rfl, List.forall_mem_nil _⟩
  case hp1 => exact DInv.start hb
  case turn =>
    intro c pre post d td u h tk own hns2 hmem hoff hF hP F9 N9
    obtain ⟨r, tr, ws, k9, qs⟩ := c
    have F6 : Fr g L' h _ := F9
    have N6 : News g L' h ((dq, listOf ws.toArray k9) :: (t37' ++ t44 ++ own)) := N9
    have hown : ∀ q ∈ own, q.1 ≠ dq := fun q hq => hoff q hq dq (.head _)
    have hall : ∀ q ∈ t37' ++ t44 ++ own, q.1 ≠ dq := fun q hq => by
      rcases List.mem_append.mp hq with hq | hq
      · exact Nat.ne_of_lt (l1t q hq)
      · exact hown q hq
    clear F9 N9 hoff F7 N7 F8 N8 N7'
    dsimp only [kstB] at F6 hF hP
    have hd := hr9 d (List.mem_reverse.mp hmem)
    obtain ⟨dA, dB⟩ := div_in hP.2.1 hP.2.2.1 hb2 hbb hd.1 hd.2
    have hrb : Builtin.Int.intBits r ≤ 32 := intBits_le hP.2.1 (by have := hP.2.2.1; omega)
    have hql : qs.length < 100 := by
      have e1 := hP.2.2.2.2
      have e2 := congrArg List.length hns2
      simp only [List.length_append, List.length_cons, List.length_reverse] at e2
      omega
    k_with_none
    k_with "my lsh" => (k_dflt (refine lshift_eq ⟨by omega, by omega⟩ ?_))
    k_with "my call" => (k_dflt (refine' div_spec ?b1 ?b2 ?b3 ?b4 ?b5 ?b6 dA dB.1 hb hb2 (by omega) ?b7 ?b8 ?_; (case b1 => k_asm); (case b2 => k_asm); (case b3 => k_asm); (case b4 => k_asm); (case b5 => k_asm); (case b6 => exact rfl); (case b7 => (show dp + 1 < 700); omega); (case b8 => (show un + 3 < 5000); omega); intro h5 tk5 pr5 t5 u5 F5 N5 hfr5; (try dsimp only); have hpd : @Ne Nat dq pr5 := hfr5 _ (.head _)))
    k_with "my app" => (k_dflt (refine' app_ints ?F ?N ?U ?hi ?hz ?_; (case F => k_asm); (case N => k_asm); (case U => k_upd); (case hi => assumption); (case hz => omega); intro ha Fa Na hia))
    k_steps
    have hst := DInv.step (x := r * 2 ^ ((Builtin.Int.intBits b : Nat) : Int).toNat + d) hP hb hd.1 hd.2 rfl
    refine kst_end (c := ⟨(r * 2 ^ ((Builtin.Int.intBits b : Nat) : Int).toNat + d) % b, _, ws ++ [Value.int ((r * 2 ^ ((Builtin.Int.intBits b : Nat) : Int).toNat + d) / b) t5], k9 + 1, qs ++ [(r * 2 ^ ((Builtin.Int.intBits b : Nat) : Int).toNat + d) / b]⟩) (by k_asm) (by k_asm) ?_ ?_ (by exact rfl) (by assumption) (List.forall_mem_cons.mpr ⟨by with_unfolding_all rfl, List.forall_mem_nil _⟩) ?_ hst
    · exact List.forall_mem_cons.mpr ⟨.tail _ (.head _), fun q hq => .tail _ (.tail _ (List.mem_append_left _ hq))⟩
    · exact fun q hq => .tail _ (.tail _ (List.mem_append_right _ hq))
    · intro z z1 z2 z3
      simp only [List.forall_mem_cons] at z2
      simp only [List.contains_cons, List.contains_nil, Bool.or_false, Bool.or_eq_false_iff, beq_eq_false_iff_ne, ne_eq] at z3
      simp [z1, z2.1, z3]
  case done =>
    intro c u h tk hF hP F9 N9
    obtain ⟨r, tr, ws, k9, qs⟩ := c
    have F6 : Fr g L' h _ := F9
    have N6 : News g L' h ((dq, listOf ws.toArray k9) :: (t37' ++ t44)) := N9
    have hall : ∀ q ∈ t37' ++ t44, q.1 ≠ dq := fun q hq => Nat.ne_of_lt (l1t q hq)
    clear F9 N9 F7 N7 F8 N8 N7'
    dsimp only [kstB] at F6 hF hP
    obtain ⟨eq, er⟩ := hP.done e9
    have hql : qs.length ≤ 100 := by
      have e1 := hP.2.2.2.2
      rw [List.length_reverse] at e1
      omega
    subst er
    k_with_none
    k_with "my call" => refine stop_here ?_
    k_steps
    refine Stop.go ?_
    rename_i h7 F7 N7 hI7
    have N5 : News g L' h7 (t44 ++ ((dq, listOf (ws.toArray.toList.reverse).toArray k9) :: t37')) := newsSub N7 fun q hq => by
      rcases List.mem_append.mp hq with hq | hq
      · exact .tail _ (List.mem_append_right _ hq)
      · rcases List.mem_cons.mp hq with rfl | hq
        · exact .head _
        · exact .tail _ (List.mem_append_left _ hq)
    have hap2 : ∀ q ∈ (dq, listOf (ws.toArray.toList.reverse).toArray k9) :: t37', ∀ p ∈ t44, p.1 ≠ q.1 := List.forall_mem_cons.mpr ⟨fun p hp => hall p (List.mem_append_right _ hp), fun q hq p hp e => hap' p hp q hq e.symm⟩
    refine' d2i_spec (tabs := t44) (news := (dq, listOf (ws.toArray.toList.reverse).toArray k9) :: t37') (vs := ws.toArray.toList.reverse) (ns := qs.reverse) (nn := Builtin.Int.intBits b) B' F7 X' N5 T' rfl C44' hT44 hap2 ?il ?lt hI7 ?ds (by omega) (by rw [List.length_reverse]; omega) ?b7 ?b8 ?_
    case il => exact ⟨_, (N7 _ (.head _)).1, rfl, _, rfl⟩
    case lt => exact fun p hp => hall p (List.mem_append_right _ hp)
    case ds => exact fun d hd => hP.2.2.2.1 d (List.mem_reverse.mp hd)
    case b7 => show dp + 1 < 700; omega
    case b8 => show un + 3 < 5000; omega
    intro t h4 tk4 t44' hT44' F4 N4 hap4
    dsimp only
    rw [eq]
    clear F7 N7 N5 F6 N6
    k_steps
    rename_i kF kN _ _
    have hs : ∀ q ∈ t37' ++ t44', q ∈ t44' ++ ((dq, listOf (ws.toArray.toList.reverse).toArray k9) :: t37') := fun q hq => by
      rcases List.mem_append.mp hq with hq | hq
      · exact List.mem_append_right _ (.tail _ hq)
      · exact List.mem_append_left _ hq
    have hN1 := thaw (news' := _) Z (by k_asm) hNr hapn (newsSub (news' := _ :: (t37' ++ t44')) kN (List.forall_mem_cons.mpr ⟨.head _, fun q hq => .tail _ (hs q hq)⟩))
    refine ret _ _ _ _ _ t37' t44' hT37' hT44' kF (newsSub hN1 (List.forall_mem_cons.mpr ⟨.head _, fun q hq => .tail _ (show q ∈ t37' ++ t44' ++ news by rw [List.append_assoc]; exact hq)⟩)) (fun q hq p hp e => hap4 p (.tail _ hp) q hq e.symm) (apart_back Z hNr hapn (by assumption) (fun q hq => .tail _ (hs q hq)))
end
end Mine
end PartC12
section PartC13
namespace Mine
open PySem PySem.Spec PySem.Calls PySem.W PyProof.Rows
theorem floor_neg {a b : Int} (hb : 1 ≤ b) : -((-a - 1) / b) - 1 = a / b ∧ b + (-((-a - 1) % b) - 1) = a % b := by
  have h1 := Int.emod_add_mul_ediv (-a - 1) b
  have h2 := Int.emod_nonneg (-a - 1) (show b ≠ 0 by omega)
  have h3 := Int.emod_lt_of_pos (-a - 1) (show 0 < b by omega)
  generalize (-a - 1) % b = r at *
  generalize (-a - 1) / b = q at *
  have h4 := (Int.ediv_emod_unique (a := a) (r := b + (-r - 1)) (q := -q - 1) (show 0 < b by omega)).mpr ⟨by rw [Int.mul_sub, Int.mul_neg, Int.mul_one]; omega, by omega, by omega⟩
  exact ⟨h4.1.symm, h4.2.symm⟩
theorem inv_eq {prog : Program} {w : World} {A : Around} {E : Value → Shared → Prop} {s : Shared} {a : Int} {t : Tok} {Q : Value → Shared → Prop} (h : Q (.int (-a - 1) s.toks) { s with toks := s.toks + 1 }) : wpAny (model prog w) A (unaryOp .Invert (.int a t)) Q E s := invert_int h
section
variable {w : World} {p : Program} {loose : List Str} {mean : ExcName → Option Value} {mg mb : Str → Option Value} {dp un : Nat} {gd : Option (List Code)} {cn : Str} {cs : Scope} {L a : Addr} {ccd : Value} {cl : List (Str × Addr)} {outer : List Env} {A₀ : Around} {base h₀ : Heap} {m : Str → Option Value} {news : List (Addr × Obj)} {s : Shared} {Q E : Value → Shared → Prop}
local macro_rules | `(tactic| walk_at "call ref") => `(tactic| (k_extra "my call"))
local macro_rules | `(tactic| walk_at "unaryOp Invert int") => `(tactic| (refine inv_eq ?_))
set_option maxHeartbeats 8000000 in
theorem idm1_spec {x b : Int} {tx tb : Tok} {t37 t44 : List (Addr × Obj)} (B : Below A₀ base outer h₀) (F : Fr h₀ L s.heap m) (X : (hd.heap_39 w.params).In h₀) (N : News h₀ L s.heap (t37 ++ (t44 ++ news))) (T : Top p loose mean mg mb h₀) (hk : cs.kind = .function)
    (C37 : CodeHd h₀ 41 37) (C44 : CodeHd h₀ 48 44) (hT37 : Nest 37 35 4 q37 t37) (hT44 : Nest 44 50 4 q44 t44) (hap : ∀ q ∈ t44, ∀ p ∈ t37, p.1 ≠ q.1) (hapn : ∀ q ∈ news, ∀ p ∈ t37 ++ t44, p.1 ≠ q.1)
    (hx : 0 ≤ x) (hx2 : x < 2 ^ 80) (hb : 1 ≤ b) (hb2 : b ≤ 2147483648) (hdp : dp < 450) (hun : un < 2500)
    (ret : ∀ h' tk pr t1 t2 t37' t44', Nest 37 35 4 q37 t37' → Nest 44 50 4 q44 t44' → Fr h₀ L h' m → News h₀ L h' ((pr, { cls := .type "tuple", data := .seq #[.int (x / b) t1, .int (x % b) t2] 0 }) :: (t37' ++ (t44' ++ news))) → (∀ q ∈ t44', ∀ p ∈ t37', p.1 ≠ q.1) → (∀ q ∈ news, ∀ p ∈ t37' ++ t44', p.1 ≠ q.1) → Q (.ref pr) { s with heap := h', toks := tk }) :
    wpAny (model PySem.Challenge.rw_nb0147_01.row.prog w) (ktrTop dp un gd cn cs L a ccd cl outer) (call (.ref 63) [.int x tx, .int b tb]) Q E s := by
  revert X; k_fill; intro X
  refine wpAny_call ?_
  refine' enterK (live := t37 ++ t44) (binds := [(Str.ofString "a", .int x tx), (Str.ofString "b", .int b tb)]) B F X (fun q hq => N q (by rw [← List.append_assoc]; exact List.mem_append_left _ hq)) T rfl rfl hk ?k6 ?k7 ?k8 ?k9 ?kB ?_ ?c2 ?c3 ?c4 ?c5
  case k6 => k_dflt k_is
  case k7 => k_dflt k_is
  case k8 => show dp < 1000; omega
  case k9 => exact BindsTo.of_eq rfl
  case kB => exact locs rfl
  case c2 => exact rfl
  case c3 => exact rfl
  case c4 => exact rfl
  case c5 => decide
  intro g L' h₁ Z FG F' N' B' X' T' hlt
  have C37' : CodeHd g 41 37 := C37.keeps FG.keep
  have C44' : CodeHd g 48 44 := C44.keeps FG.keep
  have hNr : News h₀ L s.heap news := newsSub N fun q hq => List.mem_append_right _ (List.mem_append_right _ hq)
  clear FG
  dsimp only
  k_with_none
  k_with "my call" => (k_dflt (refine' pos_spec (news := []) (t37 := t37) (t44 := t44) ?b1 ?b2 ?b3 ?b4 ?b5 ?b6 C37' C44' hT37 hT44 hap (List.forall_mem_nil _) ?g1 ?g2 ?g3 ?g4 ?b7 ?b8 ?_; (case b1 => k_asm); (case b2 => k_asm); (case b3 => k_asm); (case b4 => (rw [List.append_nil]; k_asm)); (case b5 => k_asm); (case b6 => exact rfl); (case g1 => omega); (case g2 => omega); (case g3 => omega); (case g4 => omega); (case b7 => (show dp + 1 < _); omega); (case b8 => (show un + 3 < _); omega); intro h9 tk9 pr9 t9 u9 t37' t44' hT37' hT44' F9 N9 hap' _; (try dsimp only); (rw [List.append_nil] at N9)))
  k_steps
  · exfalso; omega
  have hN1 := thaw Z F9 hNr hapn (by assumption)
  exact ret _ _ pr9 _ _ t37' t44' hT37' hT44' (by k_asm) (newsSub hN1 (List.forall_mem_cons.mpr ⟨.head _, fun q hq => .tail _ (show q ∈ t37' ++ t44' ++ news by rw [List.append_assoc]; exact hq)⟩)) hap' (apart_back Z hNr hapn (by assumption) (fun q hq => .tail _ hq))
set_option maxHeartbeats 8000000 in
theorem idm2_spec {x b : Int} {tx tb : Tok} {t37 t44 : List (Addr × Obj)} (B : Below A₀ base outer h₀) (F : Fr h₀ L s.heap m) (X : (hd.heap_39 w.params).In h₀) (N : News h₀ L s.heap (t37 ++ (t44 ++ news))) (T : Top p loose mean mg mb h₀) (hk : cs.kind = .function)
    (C37 : CodeHd h₀ 41 37) (C44 : CodeHd h₀ 48 44) (hT37 : Nest 37 35 4 q37 t37) (hT44 : Nest 44 50 4 q44 t44) (hap : ∀ q ∈ t44, ∀ p ∈ t37, p.1 ≠ q.1) (hapn : ∀ q ∈ news, ∀ p ∈ t37 ++ t44, p.1 ≠ q.1)
    (hx : x < 0) (hx2 : -(2 ^ 80) < x) (hb : 1 ≤ b) (hb2 : b ≤ 2147483648) (hdp : dp < 400) (hun : un < 2400)
    (ret : ∀ h' tk pr t1 t2 t37' t44', Nest 37 35 4 q37 t37' → Nest 44 50 4 q44 t44' → Fr h₀ L h' m → News h₀ L h' ((pr, { cls := .type "tuple", data := .seq #[.int (x / b) t1, .int (x % b) t2] 0 }) :: (t37' ++ (t44' ++ news))) → (∀ q ∈ t44', ∀ p ∈ t37', p.1 ≠ q.1) → (∀ q ∈ news, ∀ p ∈ t37' ++ t44', p.1 ≠ q.1) → Q (.ref pr) { s with heap := h', toks := tk }) :
    wpAny (model PySem.Challenge.rw_nb0147_01.row.prog w) (ktrTop dp un gd cn cs L a ccd cl outer) (call (.ref 63) [.int x tx, .int b tb]) Q E s := by
  revert X; k_fill; intro X
  refine wpAny_call ?_
  refine' enterK (live := t37 ++ t44) (binds := [(Str.ofString "a", .int x tx), (Str.ofString "b", .int b tb)]) B F X (fun q hq => N q (by rw [← List.append_assoc]; exact List.mem_append_left _ hq)) T rfl rfl hk ?k6 ?k7 ?k8 ?k9 ?kB ?_ ?c2 ?c3 ?c4 ?c5
  case k6 => k_dflt k_is
  case k7 => k_dflt k_is
  case k8 => show dp < 1000; omega
  case k9 => exact BindsTo.of_eq rfl
  case kB => exact locs rfl
  case c2 => exact rfl
  case c3 => exact rfl
  case c4 => exact rfl
  case c5 => decide
  intro g L' h₁ Z FG F' N' B' X' T' hlt
  have C37' : CodeHd g 41 37 := C37.keeps FG.keep
  have C44' : CodeHd g 48 44 := C44.keeps FG.keep
  have hNr : News h₀ L s.heap news := newsSub N fun q hq => List.mem_append_right _ (List.mem_append_right _ hq)
  clear FG
  dsimp only
  k_with_none
  k_with "my call" => (k_dflt (refine' idm1_spec (news := []) (t37 := t37) (t44 := t44) ?b1 ?b2 ?b3 ?b4 ?b5 ?b6 C37' C44' hT37 hT44 hap (List.forall_mem_nil _) ?g1 ?g2 ?g3 ?g4 ?b7 ?b8 ?_; (case b1 => k_asm); (case b2 => k_asm); (case b3 => k_asm); (case b4 => (rw [List.append_nil]; k_asm)); (case b5 => k_asm); (case b6 => exact rfl); (case g1 => omega); (case g2 => omega); (case g3 => omega); (case g4 => omega); (case b7 => (show dp + 1 < _); omega); (case b8 => (show un + 3 < _); omega); intro h9 tk9 pr9 t9 u9 t37' t44' hT37' hT44' F9 N9 hap' _; (try dsimp only); (rw [List.append_nil] at N9)))
  k_steps
  · exfalso; omega
  rename_i kF kN _ _
  obtain ⟨f1, f2⟩ := floor_neg (a := x) hb
  have hN1 := thaw Z (by k_asm) hNr hapn (newsSub (news' := _ :: (t37' ++ t44')) kN (List.forall_mem_cons.mpr ⟨.head _, fun q hq => .tail _ (.tail _ hq)⟩))
  rw [f1, f2] at hN1
  exact ret _ _ _ _ _ t37' t44' hT37' hT44' kF (newsSub hN1 (List.forall_mem_cons.mpr ⟨.head _, fun q hq => .tail _ (show q ∈ t37' ++ t44' ++ news by rw [List.append_assoc]; exact hq)⟩)) hap' (apart_back Z hNr hapn (by assumption) (fun q hq => .tail _ (.tail _ hq)))
/-- a divisor above nought -/
theorem idm_spec {x b : Int} {tx tb : Tok} {t37 t44 : List (Addr × Obj)} (B : Below A₀ base outer h₀) (F : Fr h₀ L s.heap m) (X : (hd.heap_39 w.params).In h₀) (N : News h₀ L s.heap (t37 ++ (t44 ++ news))) (T : Top p loose mean mg mb h₀) (hk : cs.kind = .function)
    (C37 : CodeHd h₀ 41 37) (C44 : CodeHd h₀ 48 44) (hT37 : Nest 37 35 4 q37 t37) (hT44 : Nest 44 50 4 q44 t44) (hap : ∀ q ∈ t44, ∀ p ∈ t37, p.1 ≠ q.1) (hapn : ∀ q ∈ news, ∀ p ∈ t37 ++ t44, p.1 ≠ q.1)
    (hx : -(2 ^ 80) < x) (hx2 : x < 2 ^ 80) (hb : 1 ≤ b) (hb2 : b ≤ 2147483648) (hdp : dp < 400) (hun : un < 2400)
    (ret : ∀ h' tk pr t1 t2 t37' t44', Nest 37 35 4 q37 t37' → Nest 44 50 4 q44 t44' → Fr h₀ L h' m → News h₀ L h' ((pr, { cls := .type "tuple", data := .seq #[.int (x / b) t1, .int (x % b) t2] 0 }) :: (t37' ++ (t44' ++ news))) → (∀ q ∈ t44', ∀ p ∈ t37', p.1 ≠ q.1) → (∀ q ∈ news, ∀ p ∈ t37' ++ t44', p.1 ≠ q.1) → Q (.ref pr) { s with heap := h', toks := tk }) :
    wpAny (model PySem.Challenge.rw_nb0147_01.row.prog w) (ktrTop dp un gd cn cs L a ccd cl outer) (call (.ref 63) [.int x tx, .int b tb]) Q E s := by
  by_cases h : x < 0
  · exact idm2_spec B F X N T hk C37 C44 hT37 hT44 hap hapn h hx hb hb2 hdp hun ret
  · exact idm1_spec B F X N T hk C37 C44 hT37 hT44 hap hapn (by omega) hx2 hb hb2 (by omega) (by omega) ret
set_option maxHeartbeats 8000000 in
theorem idm3_spec {x b : Int} {tx tb : Tok} {t37 t44 : List (Addr × Obj)} (B : Below A₀ base outer h₀) (F : Fr h₀ L s.heap m) (X : (hd.heap_39 w.params).In h₀) (N : News h₀ L s.heap (t37 ++ (t44 ++ news))) (T : Top p loose mean mg mb h₀) (hk : cs.kind = .function)
    (C37 : CodeHd h₀ 41 37) (C44 : CodeHd h₀ 48 44) (hT37 : Nest 37 35 4 q37 t37) (hT44 : Nest 44 50 4 q44 t44) (hap : ∀ q ∈ t44, ∀ p ∈ t37, p.1 ≠ q.1) (hapn : ∀ q ∈ news, ∀ p ∈ t37 ++ t44, p.1 ≠ q.1)
    (hx : -(2 ^ 80) < x) (hx2 : x < 2 ^ 80) (hb : b ≤ -1) (hb2 : -2147483648 ≤ b) (hdp : dp < 390) (hun : un < 2300)
    (ret : ∀ h' tk pr t1 t2 t37' t44', Nest 37 35 4 q37 t37' → Nest 44 50 4 q44 t44' → Fr h₀ L h' m → News h₀ L h' ((pr, { cls := .type "tuple", data := .seq #[.int (-x / -b) t1, .int (-(-x % -b)) t2] 0 }) :: (t37' ++ (t44' ++ news))) → (∀ q ∈ t44', ∀ p ∈ t37', p.1 ≠ q.1) → (∀ q ∈ news, ∀ p ∈ t37' ++ t44', p.1 ≠ q.1) → Q (.ref pr) { s with heap := h', toks := tk }) :
    wpAny (model PySem.Challenge.rw_nb0147_01.row.prog w) (ktrTop dp un gd cn cs L a ccd cl outer) (call (.ref 63) [.int x tx, .int b tb]) Q E s := by
  revert X; k_fill; intro X
  refine wpAny_call ?_
  refine' enterK (live := t37 ++ t44) (binds := [(Str.ofString "a", .int x tx), (Str.ofString "b", .int b tb)]) B F X (fun q hq => N q (by rw [← List.append_assoc]; exact List.mem_append_left _ hq)) T rfl rfl hk ?k6 ?k7 ?k8 ?k9 ?kB ?_ ?c2 ?c3 ?c4 ?c5
  case k6 => k_dflt k_is
  case k7 => k_dflt k_is
  case k8 => show dp < 1000; omega
  case k9 => exact BindsTo.of_eq rfl
  case kB => exact locs rfl
  case c2 => exact rfl
  case c3 => exact rfl
  case c4 => exact rfl
  case c5 => decide
  intro g L' h₁ Z FG F' N' B' X' T' hlt
  have C37' : CodeHd g 41 37 := C37.keeps FG.keep
  have C44' : CodeHd g 48 44 := C44.keeps FG.keep
  have hNr : News h₀ L s.heap news := newsSub N fun q hq => List.mem_append_right _ (List.mem_append_right _ hq)
  clear FG
  dsimp only
  k_with_none
  k_with "my call" => (k_dflt (refine' idm_spec (news := []) (t37 := t37) (t44 := t44) ?b1 ?b2 ?b3 ?b4 ?b5 ?b6 C37' C44' hT37 hT44 hap (List.forall_mem_nil _) ?g1 ?g2 ?g3 ?g4 ?b7 ?b8 ?_; (case b1 => k_asm); (case b2 => k_asm); (case b3 => k_asm); (case b4 => (rw [List.append_nil]; k_asm)); (case b5 => k_asm); (case b6 => exact rfl); (case g1 => omega); (case g2 => omega); (case g3 => omega); (case g4 => omega); (case b7 => (show dp + 1 < _); omega); (case b8 => (show un + 3 < _); omega); intro h9 tk9 pr9 t9 u9 t37' t44' hT37' hT44' F9 N9 hap' _; (try dsimp only); (rw [List.append_nil] at N9)))
  k_steps
  · exfalso; omega
  rename_i kF kN _ _
  have hN1 := thaw Z (by k_asm) hNr hapn (newsSub (news' := _ :: (t37' ++ t44')) kN (List.forall_mem_cons.mpr ⟨.head _, fun q hq => .tail _ (.tail _ hq)⟩))
  exact ret _ _ _ _ _ t37' t44' hT37' hT44' kF (newsSub hN1 (List.forall_mem_cons.mpr ⟨.head _, fun q hq => .tail _ (show q ∈ t37' ++ t44' ++ news by rw [List.append_assoc]; exact hq)⟩)) hap' (apart_back Z hNr hapn (by assumption) (fun q hq => .tail _ (.tail _ hq)))
end
end Mine
end PartC13
section PartPl9
namespace Mine
theorem digs8_3 (k : Nat) (x : Int) : digs 8 (3 * (k + 1)) x = x % 256 :: x / 256 % 256 :: x / 256 / 256 % 256 :: digs 8 (3 * k) (x / 256 / 256 / 256) := by
  rw [show 3 * (k + 1) = 3 * k + 1 + 1 + 1 by omega]
  simp only [digs]
  rfl
theorem digs6_4 (k : Nat) (x : Int) : digs 6 (4 * (k + 1)) x = x % 64 :: x / 64 % 64 :: x / 64 / 64 % 64 :: x / 64 / 64 / 64 % 64 :: digs 6 (4 * k) (x / 64 / 64 / 64 / 64) := by
  rw [show 4 * (k + 1) = 4 * k + 1 + 1 + 1 + 1 by omega]
  simp only [digs]
  rfl
/-- three octets are four figures -/
theorem six_digs (k : Nat) : ∀ x : Int, 0 ≤ x → six ((digs 8 (3 * k) x).reverse) = (digs 6 (4 * k) x).reverse := by
  induction k with
  | zero => intro x _; rfl
  | succ k ih =>
    intro x hx
    have hl : ((digs 8 (3 * k) (x / 256 / 256 / 256)).reverse).length % 3 = 0 := by rw [List.length_reverse, digs_length]; omega
    have e : x / 64 / 64 / 64 / 64 = x / 256 / 256 / 256 := by omega
    rw [digs8_3, digs6_4, e]
    simp only [List.reverse_cons, List.append_assoc, List.cons_append, List.nil_append]
    rw [six_append hl, ih _ (by omega)]
    congr 1
    simp only [six, List.cons.injEq, and_true]
    omega
theorem figs_digs {fs : List Int} (h : ∀ d ∈ fs, 0 ≤ d ∧ d < 64) {n : Nat} (hn : fs.length = n) : (digs 6 n (worth fs)).reverse = fs := by
  subst hn
  rw [worth_val]
  have := digs_val (n := 6) (ds := fs.reverse) fun d hd => h d (List.mem_reverse.mp hd)
  rw [List.length_reverse] at this
  rw [this, List.reverse_reverse]
theorem worth_nonneg {fs : List Int} (h : ∀ d ∈ fs, 0 ≤ d ∧ d < 64) : 0 ≤ worth fs := by
  rw [worth_val]
  exact val_nonneg fun d hd => (h d (List.mem_reverse.mp hd)).1
theorem worth_lt {fs : List Int} (h : ∀ d ∈ fs, 0 ≤ d ∧ d < 64) : worth fs < 2 ^ (6 * fs.length) := by
  rw [worth_val]
  have := val_lt (n := 6) (a := fs.reverse) fun d hd => h d (List.mem_reverse.mp hd)
  rwa [List.length_reverse] at this
/-- the dividend's octets, written -/
theorem octets_written {fs : List Int} (h : ∀ d ∈ fs, 0 ≤ d ∧ d < 64) (h4 : fs.length % 4 = 0) : six ((digs 8 (fs.length / 4 * 3) (worth fs)).reverse) = fs := by
  rw [Nat.mul_comm, six_digs _ _ (worth_nonneg h)]
  exact figs_digs h (by omega)
theorem worth_fits {fs : List Int} (h : ∀ d ∈ fs, 0 ≤ d ∧ d < 64) (h4 : fs.length % 4 = 0) : worth fs < 2 ^ (8 * (fs.length / 4 * 3)) := by
  have := worth_lt h
  rwa [show 8 * (fs.length / 4 * 3) = 6 * fs.length by omega]
end Mine
end PartPl9
section PartPl10
namespace Mine
theorem revInd {P : List Int → Prop} (h0 : P []) (hs : ∀ l x, P l → P (l ++ [x])) : ∀ l, P l := by
  have : ∀ r : List Int, P r.reverse := by
    intro r
    induction r with
    | nil => exact h0
    | cons x r ih => rw [List.reverse_cons]; exact hs _ _ ih
  intro l
  have := this l.reverse
  rwa [List.reverse_reverse] at this
/-- what the paper shows -/
theorem paper_facts {D : Int} (hD : 1 ≤ D) : ∀ fs : List Int, (∀ d ∈ fs, 0 ≤ d ∧ d < 64) → worth (paper D fs).1 = worth fs / D ∧ (paper D fs).2 = worth fs % D ∧ (paper D fs).1.length = fs.length ∧ ∀ d ∈ (paper D fs).1, 0 ≤ d ∧ d < 64 := by
  refine revInd ?_ ?_
  · intro _
    refine ⟨?_, ?_, rfl, by simp [paper]⟩
    · simp [paper, worth]
    · simp [paper, worth]
  · intro fs x ih h
    obtain ⟨e1, e2, e3, e4⟩ := ih fun d hd => h d (List.mem_append_left _ hd)
    have hx := h x (List.mem_append_right _ (.head _))
    have hm := Int.emod_add_mul_ediv (worth fs) D
    have h0 := Int.emod_nonneg (worth fs) (show D ≠ 0 by omega)
    have h1 := Int.emod_lt_of_pos (worth fs) (show 0 < D by omega)
    have e5 : worth fs * 64 + x = (worth fs % D * 64 + x) + D * (worth fs / D * 64) := by
      rw [← Int.mul_assoc]; omega
    rw [paper_snoc, e2]
    refine ⟨?_, ?_, by simp [e3], ?_⟩
    · show worth ((paper D fs).1 ++ [(worth fs % D * 64 + x) / D]) = worth (fs ++ [x]) / D
      rw [worth_snoc, worth_snoc, e1, e5, Int.add_mul_ediv_left _ _ (by omega)]
      omega
    · show (worth fs % D * 64 + x) % D = worth (fs ++ [x]) % D
      rw [worth_snoc, e5, Int.add_mul_emod_self_left]
    · intro d hd
      rcases List.mem_append.mp hd with hd | hd
      · exact e4 d hd
      · rw [List.mem_singleton.mp hd]
        refine ⟨Int.ediv_nonneg (by omega) (by omega), Int.ediv_lt_of_lt_mul (by omega) ?_⟩
        omega
/-- with a rest, not all of the figures are 63 -/
theorem paper_not63 {D : Int} (hD : 1 ≤ D) {fs : List Int} (h : ∀ d ∈ fs, 0 ≤ d ∧ d < 64) (hr : (paper D fs).2 ≠ 0) : ∃ d ∈ (paper D fs).1, d ≠ 63 := by
  obtain ⟨e1, e2, e3, e4⟩ := paper_facts hD fs h
  apply Classical.byContradiction
  intro hn
  have hall : ∀ d ∈ (paper D fs).1, d = 63 := fun d hd => Classical.byContradiction fun hne => hn ⟨d, hd, hne⟩
  have e5 := List.eq_replicate_iff.mpr ⟨rfl, hall⟩
  have e6 := worth_63 (paper D fs).1.length
  rw [← e5, e1, e3] at e6
  have hlt := worth_lt h
  have e7 : (2 : Int) ^ (6 * fs.length) = 64 ^ fs.length := by rw [Int.pow_mul]; rfl
  rw [e7, ← e6] at hlt
  have h0 := worth_nonneg h
  -- worth fs ≤ worth fs / D
  have hm := Int.emod_add_mul_ediv (worth fs) D
  have hq := Int.ediv_nonneg h0 (show 0 ≤ D by omega)
  rw [e2] at hr
  have hr0 := Int.emod_nonneg (worth fs) (show D ≠ 0 by omega)
  have hle : worth fs / D ≤ D * (worth fs / D) := by
    have := Int.mul_le_mul_of_nonneg_right hD hq
    rwa [Int.one_mul] at this
  omega
end Mine
end PartPl10
section PartPl11
namespace Mine
theorem neg_div {W D : Int} (hD : 1 ≤ D) : -W / D = (if W % D = 0 then -(W / D) else -(W / D) - 1) ∧ -W % D = (if W % D = 0 then 0 else D - W % D) := by
  have hm := Int.emod_add_mul_ediv W D
  have h0 := Int.emod_nonneg W (show D ≠ 0 by omega)
  have h1 := Int.emod_lt_of_pos W (show 0 < D by omega)
  generalize W % D = r at *
  generalize W / D = q at *
  by_cases hr : r = 0
  · rw [if_pos hr, if_pos hr]
    have := (Int.ediv_emod_unique (a := -W) (r := 0) (q := -q) (show 0 < D by omega)).mpr ⟨by rw [Int.mul_neg]; omega, by omega, by omega⟩
    exact this
  · rw [if_neg hr, if_neg hr]
    have := (Int.ediv_emod_unique (a := -W) (r := D - r) (q := -q - 1) (show 0 < D by omega)).mpr ⟨by rw [Int.mul_sub, Int.mul_neg, Int.mul_one]; omega, by omega, by omega⟩
    exact this
/-- the figures and the rest, put right where the signs part -/
def TInv (W D : Int) (ap : Bool) (ts : List Int) (r : Int) : Prop := (ap = true → W % D ≠ 0 → worth ts = W / D + 1 ∧ r = D - W % D) ∧ (ap = false ∨ W % D = 0 → worth ts = W / D ∧ r = W % D)
theorem TInv.range {W D r : Int} {ap : Bool} {ts : List Int} (h : TInv W D ap ts r) (hD : 1 ≤ D) : 0 ≤ r ∧ r ≤ D := by
  have h0 := Int.emod_nonneg W (show D ≠ 0 by omega)
  have h1 := Int.emod_lt_of_pos W (show 0 < D by omega)
  by_cases hc : ap = false ∨ W % D = 0
  · obtain ⟨_, e⟩ := h.2 hc; omega
  · have ha : ap = true := by cases ap <;> simp_all
    obtain ⟨_, e⟩ := h.1 ha (fun e => hc (.inr e)); omega
/-- what int_divmod gives -/
theorem answer_eq {W D lead g0 r : Int} {ts : List Int} (hD : 1 ≤ D) (h : TInv W D (decide (g0 < 0) != decide (lead < 0)) ts r) :
    (¬ lead < 0 → (if g0 < 0 then -W else W) / D = (if (decide (g0 < 0) != decide (lead < 0)) = true then -worth ts else worth ts) ∧ (if g0 < 0 then -W else W) % D = (if lead < 0 then -r else r)) ∧
    (lead < 0 → -(if g0 < 0 then -W else W) / D = (if (decide (g0 < 0) != decide (lead < 0)) = true then -worth ts else worth ts) ∧ -(-(if g0 < 0 then -W else W) % D) = (if lead < 0 then -r else r)) := by
  obtain ⟨n1, n2⟩ := neg_div (W := W) hD
  obtain ⟨a, b⟩ := h
  by_cases hl : lead < 0 <;> by_cases hg : g0 < 0 <;> simp only [hl, hg, decide_true, decide_false, if_true, if_false, not_true, not_false_iff, false_implies, true_implies, and_true, true_and, bne_self_eq_false, Bool.false_eq_true, Int.neg_neg] at a b ⊢
  all_goals by_cases hr : W % D = 0
  all_goals simp_all
  all_goals omega
end Mine
end PartPl11
section PartCu
namespace Mine
open PySem PySem.Spec PySem.Calls PySem.W PyProof.Rows
section
variable {M : Model} {A : Around} {E : Value → Shared → Prop} {s : Shared} {env : Env} {h₀ : Heap} {L : Addr} {m : Str → Option Value} {x : Str} {stmt : Stmt} {rest : List Stmt} {Q : Flow → Shared → Prop}
def SetV (h₀ : Heap) (L : Addr) (m : Str → Option Value) (s : Shared) (x : Str) (P : Value → List (Addr × Obj) → Prop) (f : Flow) (s' : Shared) : Prop :=
  f = .next ∧ ∃ h' tk v led, s' = { s with heap := h', toks := tk } ∧ Fr h₀ L h' (fun y => if y = x then some v else m y) ∧ News h₀ L h' led ∧ P v led
theorem SetV.intro {P : Value → List (Addr × Obj) → Prop} {h' : Heap} {tk : Nat} {v : Value} {led led' : List (Addr × Obj)} (F : Fr h₀ L h' (fun y => if y = x then some v else m y)) (N : News h₀ L h' led') (hs : ∀ q ∈ led, q ∈ led') (hp : P v led) : SetV h₀ L m s x P .next { s with heap := h', toks := tk } :=
  ⟨rfl, h', tk, v, led, rfl, F, newsSub N hs, hp⟩
/-- one statement that sets one name, by what holds of the value -/
theorem cut_set (x : Str) (P : Value → List (Addr × Obj) → Prop) (_F : Fr h₀ L s.heap m) (h1 : wpAny M A (exec stmt env) (SetV h₀ L m s x P) E s)
    (h2 : ∀ h' tk v led, Fr h₀ L h' (fun y => if y = x then some v else m y) → News h₀ L h' led → P v led → wpAny M A (execs rest env) Q E { s with heap := h', toks := tk }) : wpAny M A (execs (stmt :: rest) env) Q E s := by
  refine wpAny_execs_cons (wpAny_mono h1 (fun f s' h => ?_) fun _ _ e => e)
  obtain ⟨rfl, h', tk, v, led, rfl, F, N, hp⟩ := h
  exact h2 h' tk v led F N hp
def SetV2 (h₀ : Heap) (L : Addr) (m : Str → Option Value) (s : Shared) (x y : Str) (P : Value → Value → List (Addr × Obj) → Prop) (f : Flow) (s' : Shared) : Prop :=
  f = .next ∧ ∃ h' tk v u led, s' = { s with heap := h', toks := tk } ∧ Fr h₀ L h' (fun z => if z = y then some u else if z = x then some v else m z) ∧ News h₀ L h' led ∧ P v u led
theorem SetV2.intro {y : Str} {P : Value → Value → List (Addr × Obj) → Prop} {h' : Heap} {tk : Nat} {v u : Value} {led led' : List (Addr × Obj)} (F : Fr h₀ L h' (fun z => if z = y then some u else if z = x then some v else m z)) (N : News h₀ L h' led') (hs : ∀ q ∈ led, q ∈ led') (hp : P v u led) : SetV2 h₀ L m s x y P .next { s with heap := h', toks := tk } :=
  ⟨rfl, h', tk, v, u, led, rfl, F, newsSub N hs, hp⟩
/-- one statement that sets two names -/
theorem cut_set2 (x y : Str) (P : Value → Value → List (Addr × Obj) → Prop) (_F : Fr h₀ L s.heap m) (h1 : wpAny M A (exec stmt env) (SetV2 h₀ L m s x y P) E s)
    (h2 : ∀ h' tk v u led, Fr h₀ L h' (fun z => if z = y then some u else if z = x then some v else m z) → News h₀ L h' led → P v u led → wpAny M A (execs rest env) Q E { s with heap := h', toks := tk }) : wpAny M A (execs (stmt :: rest) env) Q E s := by
  refine wpAny_execs_cons (wpAny_mono h1 (fun f s' h => ?_) fun _ _ e => e)
  obtain ⟨rfl, h', tk, v, u, led, rfl, F, N, hp⟩ := h
  exact h2 h' tk v u led F N hp
theorem fr_same2 {h : Heap} {x y : Str} {v u : Value} (F : Fr h₀ L h m) (hx : m x = some v) (hy : m y = some u) : Fr h₀ L h (fun z => if z = y then some u else if z = x then some v else m z) := by
  have e : (fun z => if z = y then some u else if z = x then some v else m z) = m := by
    funext z
    by_cases h1 : z = y
    · rw [if_pos h1, h1, hy]
    · rw [if_neg h1]
      by_cases h2 : z = x
      · rw [if_pos h2, h2, hx]
      · rw [if_neg h2]
  rw [e]; exact F
def SkipV (h₀ : Heap) (L : Addr) (m : Str → Option Value) (s : Shared) (P : List (Addr × Obj) → Prop) (f : Flow) (s' : Shared) : Prop :=
  f = .next ∧ ∃ h' tk led, s' = { s with heap := h', toks := tk } ∧ Fr h₀ L h' m ∧ News h₀ L h' led ∧ P led
theorem SkipV.intro {P : List (Addr × Obj) → Prop} {h' : Heap} {tk : Nat} {led led' : List (Addr × Obj)} (F : Fr h₀ L h' m) (N : News h₀ L h' led') (hs : ∀ q ∈ led, q ∈ led') (hp : P led) : SkipV h₀ L m s P .next { s with heap := h', toks := tk } :=
  ⟨rfl, h', tk, led, rfl, F, newsSub N hs, hp⟩
/-- one statement that sets no name -/
theorem cut_skip (P : List (Addr × Obj) → Prop) (_F : Fr h₀ L s.heap m) (h1 : wpAny M A (exec stmt env) (SkipV h₀ L m s P) E s)
    (h2 : ∀ h' tk led, Fr h₀ L h' m → News h₀ L h' led → P led → wpAny M A (execs rest env) Q E { s with heap := h', toks := tk }) : wpAny M A (execs (stmt :: rest) env) Q E s := by
  refine wpAny_execs_cons (wpAny_mono h1 (fun f s' h => ?_) fun _ _ e => e)
  obtain ⟨rfl, h', tk, led, rfl, F, N, hp⟩ := h
  exact h2 h' tk led F N hp
end
/-- all of the ledger's ends: lists and tuples ahead, the two tables behind -/
structure Tabs (h₀ : Heap) (L : Addr) (h : Heap) (objs t37 t44 : List (Addr × Obj)) : Prop where
  n : News h₀ L h (objs ++ (t37 ++ t44))
  n37 : Nest 37 35 4 (Str.ofString "_int2digits.<locals>.inner") t37
  n44 : Nest 44 50 4 (Str.ofString "_digits2int.<locals>.inner") t44
  ap : ∀ q ∈ t44, ∀ p ∈ t37, p.1 ≠ q.1
def SeqObj (o : Obj) : Prop := ∃ its k, o.data = .seq its k
theorem Tabs.off37 {h₀ h : Heap} {L : Addr} {objs t37 t44 : List (Addr × Obj)} (T : Tabs h₀ L h objs t37 t44) {q : Addr × Obj} (hq : q ∈ objs) (hs : SeqObj q.2) : ∀ p ∈ t37, p.1 ≠ q.1 := by
  obtain ⟨its, k, e⟩ := hs
  exact apart_seq (led := []) T.n37 (newsSub T.n fun r hr => List.mem_append_right _ (List.mem_append_left _ hr)) (T.n q (List.mem_append_left _ hq)).1 e
theorem Tabs.off44 {h₀ h : Heap} {L : Addr} {objs t37 t44 : List (Addr × Obj)} (T : Tabs h₀ L h objs t37 t44) {q : Addr × Obj} (hq : q ∈ objs) (hs : SeqObj q.2) : ∀ p ∈ t44, p.1 ≠ q.1 := by
  obtain ⟨its, k, e⟩ := hs
  exact apart_seq (led := []) T.n44 (newsSub T.n fun r hr => List.mem_append_right _ (List.mem_append_right _ hr)) (T.n q (List.mem_append_left _ hq)).1 e
end Mine
end PartCu
section PartC1
namespace Mine
open PySem PySem.Spec PySem.Calls PySem.W PyProof.Rows
section
variable {w : World} {p : Program} {loose : List Str} {mean : ExcName → Option Value} {mg mb : Str → Option Value} {dp un : Nat} {gd : Option (List Code)} {cn : Str} {cs : Scope} {L a : Addr} {ccd : Value} {cl : List (Str × Addr)} {outer : List Env} {A₀ : Around} {base h₀ : Heap} {m : Str → Option Value} {news : List (Addr × Obj)} {s : Shared} {Q E : Value → Shared → Prop}
theorem fold_unit (ns : List Int) : ∀ c : Int, (ns.foldl (fun (q : Int × Unit) n => (q.1 * 64 + n, ())) (c, ())).1 = ns.foldl (fun a x => a * 64 + x) c := by
  induction ns with
  | nil => intro c; rfl
  | cons n r ih => intro c; exact ih _
set_option maxHeartbeats 8000000 in
theorem worth_spec {l : Addr} {vs : List Value} {ns : List Int} (B : Below A₀ base outer h₀) (F : Fr h₀ L s.heap m) (X : (hd.heap_39 w.params).In h₀) (N : News h₀ L s.heap news) (T : Top p loose mean mg mb h₀) (hk : cs.kind = .function)
    (hl : s.heap.IsList l vs.toArray) (hi : IntsAre vs ns) (hdp : dp < 900) (hun : un < 9000)
    (ret : ∀ t h' tk, Fr h₀ L h' m → News h₀ L h' news → Q (.int (worth ns) t) { s with heap := h', toks := tk }) :
    wpAny (model PySem.Challenge.rw_nb0147_01.row.prog w) (ktrTop dp un gd cn cs L a ccd cl outer) (call (.ref 112) [.ref l]) Q E s := by
  revert X; k_fill; intro X
  refine wpAny_call ?_
  refine' enterK (live := []) (binds := [(Str.ofString "figures", .ref l)]) B F X News.nil T rfl rfl hk ?k6 ?k7 ?k8 ?k9 ?kB ?_ ?c2 ?c3 ?c4 ?c5
  case k6 => k_dflt k_is
  case k7 => k_dflt k_is
  case k8 => show dp < 1000; omega
  case k9 => exact BindsTo.of_eq rfl
  case kB => exact locs rfl
  case c2 => exact rfl
  case c3 => exact rfl
  case c4 => exact rfl
  case c5 => decide
  intro g L' h₁ Z FG F' N' B' X' T' hlt
  have hl' : g.IsList l vs.toArray := Z.list0 hl
  clear FG hlt
  dsimp only
  k_with_none
  k_steps
  rename_i kF kN _ _
  refine end_int ret kF (thaw (news' := []) Z (by k_asm) N (fun _ _ => List.forall_mem_nil _) News.nil) ?_
  exact fold_unit ns 0
end
end Mine
end PartC1
section PartRz
namespace Mine
open PySem PySem.Spec PySem.Calls PySem.W PyProof.Rows
theorem zero_self : isSubtype (.type "ZeroDivisionError") (.type "ZeroDivisionError") = pure true := PySem.F.self_ZeroDivisionError
/-- the class itself is raised: its instance has no words -/
theorem raise_zero {prog : Program} {w : World} {A : Around} {E : Value → Shared → Prop} {s : Shared} {env : Env} {x : Str} {np pos : Pos} {Q : Flow → Shared → Prop} (hh : A.handled = none)
    (hx : wpAny (model prog w) A (eval (.Name x np) env) (fun v s₁ => v = .type "ZeroDivisionError" ∧ s₁ = s) E s)
    (h : ∀ h' e, Heap.MadeExc s.heap h' e "ZeroDivisionError" [] → E (.ref e) { s with heap := h' }) :
    wpAny (model prog w) A (exec (.Raise (some (.Name x np)) none pos) env) Q E s := by
  show wpAny (model prog w) A (do standAt pos; raiseStmt env (some (do let v ← eval (.Name x np) env; standAt pos; pure v)) none) Q E s
  refine wpAny_bind (wpAny_standAt ?_)
  unfold raiseStmt
  refine wpAny_bind (wpAny_bind (wpAny_mono hx (fun v s₁ h₁ => wpAny_bind (wpAny_standAt (wpAny_pure ?_))) fun _ _ e => e))
  obtain ⟨rfl, rfl⟩ := h₁
  refine wpAny_bind (wpAny_pure (wpAny_bind (wpAny_holding ?_)))
  unfold excFromValue isExcClass
  refine wpAny_bind (wpAny_bind (wpAny_pure ?_))
  rw [if_pos rfl, PySem.F.isExc_ZeroDivisionError]
  refine wpAny_pure ?_
  rw [if_pos rfl]
  refine wpAny_bind (wpAny_call_exc PySem.F.excCall_ZeroDivisionError fun h' e hm => ?_)
  obtain ⟨t, he, _, _⟩ := hm.there
  have hT : ({ s₁ with heap := h' } : Shared).TypeIs (.ref e) "ZeroDivisionError" := (show ∃ o, h'.get? e = some o ∧ o.cls = .type "ZeroDivisionError" from ⟨_, he, rfl⟩)
  refine wpAny_bind (wpAny_isInstance hT PySem.F.isExc_ZeroDivisionError ?_)
  simp only [Bool.not_true, Bool.false_eq_true, if_false]
  refine wpAny_pure ?_
  refine wpAny_bind (m := isType (.type "ZeroDivisionError")) (wpAny_pure ?_)
  rw [if_pos rfl]
  refine wpAny_bind (wpAny_holding ?_)
  unfold raisedFor
  refine wpAny_bind (wpAny_typeOf hT ?_)
  refine wpAny_bind (call_issubclass (issubclass_self excClass_ZeroDivisionError zero_self) ?_)
  dsimp only [wants]
  refine wpAny_bind (wpAny_truthy_bool ?_)
  rw [if_pos rfl]
  refine wpAny_pure ?_
  unfold setFlight raiseNew
  refine wpAny_bind (wpAny_bind (wpAny_field (i := 1) (x := Value.none) he rfl rfl ?_))
  rw [if_neg (by decide)]
  refine wpAny_pure (wpAny_bind (wpAny_handled ?_))
  rw [hh]
  first
    | exact wpAny_throw (h h' e hm)
    | exact wpAny_bind (wpAny_pure (wpAny_throw (h h' e hm)))
end Mine
end PartRz
section PartMain
open PySem PySem.Spec PySem.Calls PySem.W PyProof.Rows
namespace Mine
local macro_rules | `(tactic| walk_at "SetV") => `(tactic| (refine stop_here ?_))
local macro_rules | `(tactic| walk_at "ite") => `(tactic| (k_extra "my ite"))
local macro_rules | `(tactic| walk_at "call ref") => `(tactic| (k_extra "my call"))
theorem size_in (lead : Int) : 1 ≤ ((if lead < 0 then -lead else lead) + 40).fmod 2147483648 + 1 ∧ ((if lead < 0 then -lead else lead) + 40).fmod 2147483648 + 1 ≤ 2147483648 := by
  rw [Int.fmod_eq_emod_of_nonneg _ (by decide)]
  omega
local macro_rules | `(tactic| walk_at "binaryOp Add ref ref") => `(tactic| (k_extra "my add"))
theorem ints_of_mod {ys : List Value} {gs : List Int} (h : CarriedAll ys (List.map (fun a => PyData.int (a.fmod 64)) (List.filter (fun _ => true) gs))) : IntsAre ys (gs.map (· % 64)) := by
  have e : List.map (fun a => PyData.int (a.fmod 64)) (List.filter (fun _ => true) gs) = gs.map fun a => PyData.int (a % 64) := by
    rw [List.filter_eq_self.mpr (fun _ _ => rfl)]
    exact List.map_congr_left fun a _ => congrArg PyData.int (Int.fmod_eq_emod_of_nonneg a (by decide))
  rw [e] at h
  exact CarriedAll.intsOf h
theorem pad_count {n : Nat} : 0 ≤ (-(n : Int)).fmod 4 ∧ (-(n : Int)).fmod 4 < 4 ∧ (((-(n : Int)).fmod 4).toNat + n) % 4 = 0 := by
  rw [Int.fmod_eq_emod_of_nonneg _ (by decide)]
  omega
theorem count_eq (n : Nat) : (n : Int).fdiv 4 * 3 = ((n / 4 * 3 : Nat) : Int) := by
  rw [Int.fdiv_eq_ediv_of_nonneg _ (by decide)]
  omega
local macro_rules | `(tactic| walk_at "execs cons") => `(tactic| ((with_reducible refine wpAny_execs_cons ?_); (try dsimp only)))
local macro_rules | `(tactic| walk_at "execs nil") => `(tactic| ((with_reducible refine wpAny_execs_nil ?_); (try dsimp only)))
local macro_rules | `(tactic| walk_at "exec If") => `(tactic| ((with_reducible refine wpAny_If ?_); (try dsimp only)))
local macro_rules | `(tactic| walk_at "exec If BoolOp cons nil") => `(tactic| ((with_reducible refine wpAny_If ?_); (try dsimp only)))
local macro_rules | `(tactic| walk_at "exec If Compare cons nil") => `(tactic| ((with_reducible refine wpAny_If ?_); (try dsimp only)))
local macro_rules | `(tactic| walk_at "SetV2") => `(tactic| (refine stop_here ?_))
local macro_rules | `(tactic| walk_at "SkipV") => `(tactic| (refine stop_here ?_))
local macro_rules | `(tactic| walk_at "subscriptTail Name Slice ref ref") => `(tactic| (k_extra "my slice"))
local macro_rules | `(tactic| walk_at "my perm") => `(tactic| (intro q hq; simp only [List.mem_cons, List.mem_append, List.not_mem_nil, or_false, false_or] at hq ⊢; grind))
theorem bInts_inj {a b : Array UInt8} (h : KBw.bInts a = KBw.bInts b) : a = b := by
  have h2 : a.toList.map (fun c => (c.toNat : Int)) = b.toList.map (fun c => (c.toNat : Int)) := h
  refine Array.toList_inj.mp (List.map_inj_right ?_ |>.mp h2)
  intro x y e
  exact UInt8.toNat_inj.mp (by exact_mod_cast e)
theorem ne_bytes_same {prog : Program} {w : World} {A : Around} {E : Value → Shared → Prop} {s : Shared} {b c : Array UInt8} {t u : Tok} {Q : Value → Shared → Prop} (e : b = c) (h : Q (.bool false) s) : wpAny (model prog w) A (compareOp .NotEq (.bytes b t) (.bytes c u)) Q E s := by
  subst e
  refine ne_bytes ?_
  have : (b.toList != b.toList) = false := by simp
  rw [this]
  exact h
local macro_rules | `(tactic| walk_at "compareOp NotEq bytes bytes") => `(tactic| (k_extra "my ne"))
def PaperF (D : Int) (fs : List Int) : Prop := worth (paper D fs).1 = worth fs / D ∧ (paper D fs).2 = worth fs % D ∧ (paper D fs).1.length = fs.length ∧ ∀ d ∈ (paper D fs).1, 0 ≤ d ∧ d < 64
theorem tinv1 {D : Int} {fs ms : List Int} {ap : Bool} (h : PaperF D fs) (ha : ap = true) (hr : (paper D fs).2 ≠ 0) (hw : worth ms = worth (paper D fs).1 + 1) : TInv (worth fs) D ap ms (D - (paper D fs).2) := by
  obtain ⟨e1, e2, _, _⟩ := h
  rw [e2] at hr ⊢
  refine ⟨fun _ _ => ⟨by rw [hw, e1], rfl⟩, fun hc => ?_⟩
  rcases hc with hc | hc
  · rw [ha] at hc; cases hc
  · exact absurd hc hr
theorem tinv2 {D : Int} {fs : List Int} {ap : Bool} (h : PaperF D fs) (hc : ap = false ∨ (paper D fs).2 = 0) : TInv (worth fs) D ap (paper D fs).1 (paper D fs).2 := by
  obtain ⟨e1, e2, _, _⟩ := h
  refine ⟨fun ha hr => ?_, fun _ => ⟨e1, e2⟩⟩
  rcases hc with hc | hc
  · rw [ha] at hc; cases hc
  · exact absurd (e2 ▸ hc) hr
theorem abs_eq {prog : Program} {w : World} {A : Around} {E : Value → Shared → Prop} {s : Shared} {a c : Int} {t : Tok} {Q : Value → Shared → Prop} (e : (if a < 0 then -a else a) = c) (h : ∀ u tk, Q (.int c u) { s with toks := tk }) : wpAny (model prog w) A (call (.builtin "abs") [.int a t]) Q E s := call_abs_int fun u tk => by
  rw [e]; exact h u tk
local macro_rules | `(tactic| walk_at "binaryOp Add bytes bytes") => `(tactic| (k_extra "my badd"))
local macro_rules | `(tactic| walk_at "call builtin:abs") => `(tactic| (k_extra "my abs"))
local macro_rules | `(tactic| walk_at "And") => `(tactic| (k_extra "my and"))
local macro_rules | `(tactic| walk_at "exec Raise some none") => `(tactic| (k_here; (with_reducible show wpAny _ _ (exec (Stmt.Raise (some (Expr.Name ("ZeroDivisionError" : Str) _)) none _) _) _ _ _); (with_reducible rename Fr _ _ _ _ => kF); k_dflt (refine' raise_zero ?hh ?hx ?_; (case hh => rfl); (case hx => (refine' name_B kF ?k1 ?k2 ?k3 ?k4 ?k5 ?_; (case k1 => k_asm); (case k2 => k_asm); (case k3 => k_is); (case k4 => boot_by_name); (case k5 => decide); exact ⟨rfl, rfl⟩)))))
theorem end_true {l : OpenLaw} {cl : Str → Option Addr} {mean : ExcName → Option Value} {args : List WData} {s₁ s' : Shared} {L : Addr} {m : Str → Option Value} {b : Bool} (F : Fr s₁.heap L s'.heap m) (hg : s'.gens = #[]) (e : b = true) (hos : s'.os = s₁.os) : GoodW l.row.claim cl mean args s₁ (.ok (.ret (.bool b))) s' := by
  subst e
  exact goodW_bool F hg (raisesW_false (r := l.row.toRowW) allW_false_nil) (postW_of (r := l.row.toRowW) rfl (by wtm_val) (by w_fin)) hos
theorem Nest.has {P : Addr} {line col : Nat} {qual : Str} {tabs : List (Addr × Obj)} : Nest P line col qual tabs → ∃ ps, (P, tabObj ps) ∈ tabs
  | .none => ⟨_, .head _⟩
  | .some _ _ => ⟨_, .head _⟩
set_option maxHeartbeats 8000000 in
theorem main : PySem.Challenge.rw_nb0147_01.Holds := hd (by
  k_go0
  k_with_none
  rename_i ns _ _ _ _ _ _ _ ld vs _ _ _ _ _ hI _ hlen _ _ _ X0 T0 K0 F0 C37 N0 l0
  have C44 := codeHd
  have hl0 := lifted
  clear codeHd lifted
  replace hlen : ns.length ≤ 63 := by omega
  -- lead
  refine cut_set (Str.ofString "lead") (fun v led => led = [(37, tabObj #[]), (44, tabObj #[])] ∧ ∃ n t, v = .int n t) F0 ?_ ?_
  · by_cases hn : ns = []
    · k_with "my ite" => (first | (refine ite_pos (by simp [hn]) ?_) | (refine ite_neg (by simp [hn]) ?_))
      k_steps
      refine Stop.go (SetV.intro (led := [(37, tabObj #[]), (44, tabObj #[])]) (by k_asm) (by k_asm) (List.forall_mem_cons.mpr ⟨by k_mem, List.forall_mem_cons.mpr ⟨by k_mem, List.forall_mem_nil _⟩⟩) ⟨rfl, _, _, rfl⟩)
    · have hpos : 0 < ns.length := List.length_pos_iff.mpr hn
      k_steps
      refine Stop.go (SetV.intro (led := [(37, tabObj #[]), (44, tabObj #[])]) (by k_asm) (by k_asm) (List.forall_mem_cons.mpr ⟨by k_mem, List.forall_mem_cons.mpr ⟨by k_mem, List.forall_mem_nil _⟩⟩) ⟨rfl, _, _, rfl⟩)
  k_with_none
  intro h1 tk1 v1 led1 F1 N1 hp1
  obtain ⟨rfl, lead, tl, rfl⟩ := hp1
  clear F0 N0
  -- size
  refine cut_set (Str.ofString "size") (fun v led => led = [(37, tabObj #[]), (44, tabObj #[])] ∧ ∃ sz t, v = .int sz t ∧ 1 ≤ sz ∧ sz ≤ 2147483648) F1 ?_ ?_
  · k_steps
    refine Stop.go (SetV.intro (led := [(37, tabObj #[]), (44, tabObj #[])]) (by k_asm) (by k_asm) (List.forall_mem_cons.mpr ⟨by k_mem, List.forall_mem_cons.mpr ⟨by k_mem, List.forall_mem_nil _⟩⟩) ⟨rfl, _, _, rfl, size_in lead⟩)
  intro h2 tk2 v2 led2 F2 N2 hp2
  obtain ⟨rfl, sz, ts, rfl, hz1, hz2⟩ := hp2
  clear F1 N1
  -- given
  refine cut_set (Str.ofString "given") (fun v led => ∃ gd ws k gs, v = .ref gd ∧ led = [(gd, listOf ws.toArray k), (37, tabObj #[]), (44, tabObj #[])] ∧ IntsAre ws gs ∧ 1 ≤ gs.length ∧ gs.length ≤ 12) F2 ?_ ?_
  · k_steps
    · refine Stop.go (SetV.intro (led := [(_, listOf _ _), (37, tabObj #[]), (44, tabObj #[])]) (by k_asm) (by k_asm) (fun q hq => hq) ⟨_, _, _, _, rfl, rfl, by assumption, by omega, by omega⟩)
    · refine Stop.go (SetV.intro (led := [(_, listOf _ _), (37, tabObj #[]), (44, tabObj #[])]) (by k_asm) (by k_asm) (fun q hq => hq) ⟨_, _, _, [-26, 5, 0, 63, 1], rfl, rfl, .cons _ _ (.cons _ _ (.cons _ _ (.cons _ _ (.cons _ _ .nil)))), by decide, by decide⟩)
  intro h3 tk3 v3 led3 F3 N3 hp3
  obtain ⟨gd, ws, k3, gs, rfl, rfl, hws, hg1, hg2⟩ := hp3
  clear F2 N2
  -- figures
  refine cut_set (Str.ofString "figures") (fun v led => ∃ fd fv k fs, v = .ref fd ∧ led = [(fd, listOf fv.toArray k), (gd, listOf ws.toArray k3), (37, tabObj #[]), (44, tabObj #[])] ∧ IntsAre fv fs ∧ (∀ d ∈ fs, 0 ≤ d ∧ d < 64) ∧ fs.length % 4 = 0 ∧ 4 ≤ fs.length ∧ fs.length ≤ 12) F3 ?_ ?_
  · k_with "my add" => refine stop_here ?_
    k_steps
    refine Stop.go ?_
    rename_i Dz _ _ _ iz _ _ _ _ _ _ _ _ Dy ys _ _ Fy Ny _ hLy hCy
    have hCi := ints_of_mod hCy
    obtain ⟨hj0, hj1, hj2⟩ := pad_count (n := gs.length)
    rw [krep_flat] at iz
    refine add_lists_ints Fy Ny (News.isList Ny (.head _)) hLy iz hCi ?_ (by rw [List.length_replicate, List.length_map, sizeLine_eq]; omega)
    intro h9 F9 N9 hI9
    k_with_none
    k_steps
    refine Stop.go (SetV.intro (led := [(_, listOf (_ ++ ys).toArray 0), (gd, listOf ws.toArray k3), (37, tabObj #[]), (44, tabObj #[])]) (by k_asm) (by k_asm) (List.forall_mem_cons.mpr ⟨by k_mem, List.forall_mem_cons.mpr ⟨by k_mem, List.forall_mem_cons.mpr ⟨by k_mem, List.forall_mem_cons.mpr ⟨by k_mem, List.forall_mem_nil _⟩⟩⟩⟩) ⟨_, _, _, _, rfl, rfl, hI9, ?_, ?_, ?_, ?_⟩)
    · intro d hd
      rcases List.mem_append.mp hd with hd | hd
      · rw [(List.mem_replicate.mp hd).2]; decide
      · obtain ⟨x, _, rfl⟩ := List.mem_map.mp hd
        omega
    all_goals (simp only [List.length_append, List.length_replicate, List.length_map]; omega)
  intro h4 tk4 v4 led4 F4 N4 hp4
  obtain ⟨fd, fv, k4, fs, rfl, rfl, hfv, hfr, hf4, hf5, hf6⟩ := hp4
  clear F3 N3
  -- count
  refine cut_set (Str.ofString "count") (fun v led => led = [(fd, listOf fv.toArray k4), (gd, listOf ws.toArray k3), (37, tabObj #[]), (44, tabObj #[])] ∧ ∃ t, v = .int ((fs.length / 4 * 3 : Nat) : Int) t) F4 ?_ ?_
  · k_steps
    refine Stop.go (SetV.intro (by k_asm) (by k_asm) (fun q hq => hq) ⟨rfl, _, congrArg (Value.int · _) (count_eq fs.length)⟩)
  intro h5 tk5 v5 led5 F5 N5 hp5
  obtain ⟨rfl, tc, rfl⟩ := hp5
  clear F4 N4
  -- whole
  refine cut_set (Str.ofString "whole") (fun v led => led = [(fd, listOf fv.toArray k4), (gd, listOf ws.toArray k3), (37, tabObj #[]), (44, tabObj #[])] ∧ ∃ t, v = .int (worth fs) t) F5 ?_ ?_
  · k_with "my call" => (k_dflt (refine' worth_spec (ns := fs) ?b1 ?b2 ?b3 ?b4 ?b5 ?b6 ?b7 hfv ?b8 ?b9 ?_; (case b1 => k_asm); (case b2 => k_asm); (case b3 => k_asm); (case b4 => k_asm); (case b5 => k_asm); (case b6 => exact rfl); (case b7 => exact News.isList (by k_asm) (by k_mem)); (case b8 => decide); (case b9 => decide); intro t9 h9 tk9 F9 N9; (try dsimp only)))
    k_steps
    refine Stop.go (SetV.intro (by k_asm) (by k_asm) (fun q hq => hq) ⟨rfl, _, rfl⟩)
  intro h6 tk6 v6 led6 F6 N6 hp6
  obtain ⟨rfl, tw, rfl⟩ := hp6
  clear F5 N5
  k_with_none
  -- _digits2int of the figures
  refine cut_skip (fun led => ∃ t44, led = [(fd, listOf fv.toArray k4), (gd, listOf ws.toArray k3)] ++ ([(37, tabObj #[])] ++ t44) ∧ Nest 44 50 4 q44 t44 ∧ ∀ q ∈ t44, ∀ p ∈ [((37 : Addr), tabObj #[])], p.1 ≠ q.1) F6 ?_ ?_
  · k_with "my call" => refine stop_here ?_
    k_steps
    refine Stop.go ?_
    rename_i D7 w7 h7 F7 N7 hi7 hl7 l7
    have N44 : News _ _ h7 [((44 : Addr), tabObj #[])] := newsSub N7 (by walk_at "my perm")
    have a44 : ∀ (a : Addr) (its : Array Value) (k : Nat), (a, listOf its k) ∈ [(D7, listOf w7.toArray 0), (fd, listOf fv.toArray k4), (gd, listOf ws.toArray k3), (37, tabObj #[]), (44, tabObj #[])] → ∀ p ∈ [((44 : Addr), tabObj #[])], p.1 ≠ a := fun a its k hm => apart_seq (led := []) (Nest.none (P := 44) (line := 50) (col := 4) (qual := q44)) N44 (N7 _ hm).1 rfl
    refine d2i_spec (tabs := [(44, tabObj #[])]) (news := [(D7, listOf w7.toArray 0), (fd, listOf fv.toArray k4), (gd, listOf ws.toArray k3), (37, tabObj #[])]) (ns := fs.reverse) (nn := 6) K0 F7 X0 (newsSub N7 (by walk_at "my perm")) T0 rfl C44 .none ?_ ⟨_, (N7 _ (.head _)).1, rfl, _, rfl⟩ (a44 _ _ _ (by k_mem)) hi7 (fun d hd => hfr d (List.mem_reverse.mp hd)) (by decide) (by rw [List.length_reverse]; omega) (by decide) (by decide) ?_
    · exact List.forall_mem_cons.mpr ⟨a44 _ _ _ (by k_mem), List.forall_mem_cons.mpr ⟨a44 _ _ _ (by k_mem), List.forall_mem_cons.mpr ⟨a44 _ _ _ (by k_mem), List.forall_mem_cons.mpr ⟨fun p hp => by rw [List.mem_singleton.mp hp]; decide, List.forall_mem_nil _⟩⟩⟩⟩
    intro t9 h9 tk9 t44 hT44 F9 N9 hap9
    dsimp only
    rw [← worth_val]
    clear F7 N7 N44 a44
    k_steps
    · omega
    · refine Stop.go (SkipV.intro F9 N9 (by walk_at "my perm") ⟨t44, rfl, hT44, fun q hq p hp e => ?_⟩)
      rw [List.mem_singleton.mp hp] at e
      exact hap9 _ (.tail _ (.tail _ (.tail _ (.head _)))) q hq e.symm
  intro h7 tk7 led7 F7 N7 hp7
  obtain ⟨t44, rfl, hT44, hap7⟩ := hp7
  clear F6 N6
  k_with_none
  -- the octets, written
  have T7 : Tabs _ _ h7 [(fd, listOf fv.toArray k4), (gd, listOf ws.toArray k3)] [((37 : Addr), tabObj #[])] t44 := ⟨N7, .none, hT44, hap7⟩
  refine cut_skip (fun led => ∃ t37, led = [(fd, listOf fv.toArray k4), (gd, listOf ws.toArray k3)] ++ (t37 ++ t44) ∧ Nest 37 35 4 q37 t37 ∧ ∀ q ∈ t44, ∀ p ∈ t37, p.1 ≠ q.1) F7 ?_ ?_
  · have hA37 : ∀ q ∈ t44 ++ [(fd, listOf fv.toArray k4), (gd, listOf ws.toArray k3)], ∀ p ∈ [((37 : Addr), tabObj #[])], p.1 ≠ q.1 := by
      intro q hq
      rcases List.mem_append.mp hq with hq | hq
      · exact hap7 q hq
      · refine T7.off37 hq ?_
        simp only [List.mem_cons, List.not_mem_nil, or_false] at hq
        rcases hq with rfl | rfl <;> exact ⟨_, _, rfl⟩
    k_with "my call" => ((with_reducible show wpAny _ _ (call (Value.ref 100) _) _ _ _); k_dflt (refine' octets_spec (tabs := [((37 : Addr), tabObj #[])]) (news := t44 ++ [(fd, listOf fv.toArray k4), (gd, listOf ws.toArray k3)]) K0 ?b2 X0 (newsSub N7 (by walk_at "my perm")) T0 ?b6 C37 .none hA37 (worth_nonneg hfr) (worth_fits hfr hf4) (by omega) (by decide) (by decide) ?_; (case b2 => k_asm); (case b6 => exact rfl); intro h8 tk8 t37 b8 t8 hT37 F8 N8 hap8 hb8; (try dsimp only)))
    k_with "my call" => ((with_reducible show wpAny _ _ (call (Value.ref 93) _) _ _ _); k_dflt (refine' b64_spec K0 ?b2 X0 ?b4 T0 ?b6 hb8 (by rw [List.length_reverse, digs_length]; omega) (by rw [List.length_reverse, digs_length]; omega) (by decide) (by decide) ?_; (case b2 => k_asm); (case b4 => exact N8); (case b6 => exact rfl); intro h9 tk9 r9 t9 F9 N9 hr9; (try dsimp only)))
    k_with "my call" => ((with_reducible show wpAny _ _ (call (Value.ref 105) _) _ _ _); k_dflt (refine' written_spec (ns := fs) K0 ?b2 X0 ?b4 T0 ?b6 ?b7 hfv (by omega) hfr (by decide) (by decide) ?_; (case b2 => k_asm); (case b4 => exact N9); (case b6 => exact rfl); (case b7 => exact ⟨_, (N9 (fd, listOf fv.toArray k4) (by simp)).1, rfl, _, rfl⟩); intro h10 tk10 r10 t10 F10 N10 hr10; (try dsimp only)))
    k_with "my ne" => (have e9 : r9 = r10 := bInts_inj (by rw [hr9, hr10, octets_written hfr hf4]); k_dflt (refine ne_bytes_same e9 ?_))
    k_steps
    refine Stop.go (SkipV.intro (by k_asm) (by k_asm) (by walk_at "my perm") ⟨t37, rfl, hT37, fun q hq => hap8 q (List.mem_append_left _ hq)⟩)
  intro h8 tk8 led8 F8 N8 hp8
  obtain ⟨t37, rfl, hT37, hap8⟩ := hp8
  clear F7 N7 T7 hap7
  k_with_none
  -- the paper
  refine cut_set2 (Str.ofString "told") (Str.ofString "rest") (fun v u led => ∃ td tv k tr, v = .ref td ∧ u = .int (paper sz fs).2 tr ∧ led = [(td, listOf tv.toArray k), (fd, listOf fv.toArray k4), (gd, listOf ws.toArray k3)] ++ (t37 ++ t44) ∧ IntsAre tv (paper sz fs).1) F8 ?_ ?_
  · k_with "my call" => (k_dflt (refine' paper_spec (ns := fs) (D := sz) K0 ?b2 X0 ?b4 T0 ?b6 ?b7 hfv (by omega) hfr hz1 hz2 (by decide) (by decide) ?_; (case b2 => k_asm); (case b4 => exact N8); (case b6 => exact rfl); (case b7 => exact ⟨_, (N8 _ (.head _)).1, rfl, _, rfl⟩); intro h9 tk9 r9 vs9 k9 pr9 tp9 F9 N9 hi9 hlt9; (try dsimp only)))
    k_steps
    refine Stop.go (SetV2.intro (by k_asm) (by k_asm) (fun q hq => List.Mem.tail _ hq) ⟨r9, vs9, k9, tp9, rfl, rfl, rfl, hi9⟩)
  intro h9 tk9 v9 u9 led9 F9 N9 hp9
  obtain ⟨td, tv, k9, tr, rfl, rfl, rfl, htv⟩ := hp9
  have hPF : PaperF sz fs := paper_facts hz1 fs hfr
  clear F8 N8
  k_with_none
  -- apart
  refine cut_set (Str.ofString "apart") (fun v led => led = [(td, listOf tv.toArray k9), (fd, listOf fv.toArray k4), (gd, listOf ws.toArray k3)] ++ (t37 ++ t44) ∧ v = .bool (decide (gs.getD 0 0 < 0) != decide (lead < 0))) F9 ?_ ?_
  · k_steps
    refine Stop.go (SetV.intro (by k_asm) (by k_asm) (fun q hq => hq) ⟨rfl, rfl⟩)
  intro h10 tk10 v10 led10 F10 N10 hp10
  obtain ⟨rfl, rfl⟩ := hp10
  clear F9 N9
  -- one more
  refine cut_set2 (Str.ofString "told") (Str.ofString "rest") (fun v u led => ∃ td tv k ts r tr, v = .ref td ∧ u = .int r tr ∧ led = [(td, listOf tv.toArray k), (fd, listOf fv.toArray k4), (gd, listOf ws.toArray k3)] ++ (t37 ++ t44) ∧ IntsAre tv ts ∧ ts.length = fs.length ∧ (∀ d ∈ ts, 0 ≤ d ∧ d < 64) ∧ TInv (worth fs) sz (decide (gs.getD 0 0 < 0) != decide (lead < 0)) ts r) F10 ?_ ?_
  · k_with "my call" => (k_dflt (refine' more_spec (ns := (paper sz fs).1) K0 ?b2 X0 ?b4 T0 ?b6 ?b7 htv (by have := hPF.2.2.1; omega) hPF.2.2.2 (paper_not63 hz1 hfr (by assumption)) (by decide) (by decide) ?_; (case b2 => k_asm); (case b4 => exact N10); (case b6 => exact rfl); (case b7 => exact ⟨_, (N10 _ (.head _)).1, rfl, _, rfl⟩); intro h9 tk9 r9 vs9 k9 ms9 F9 N9 hi9 hl9 hr9 hw9; (try dsimp only)))
    k_steps
    · refine Stop.go (SetV2.intro (led := [(r9, listOf vs9.toArray k9), (fd, listOf fv.toArray k4), (gd, listOf ws.toArray k3)] ++ (t37 ++ t44)) (by k_asm) (by k_asm) (by walk_at "my perm") ⟨r9, vs9, k9, ms9, _, _, rfl, rfl, rfl, hi9, by rw [hl9, hPF.2.2.1], hr9, tinv1 hPF (by assumption) (by assumption) hw9⟩)
    · refine Stop.go (SetV2.intro (fr_same2 F10 rfl rfl) N10 (fun q hq => hq) ⟨td, tv, _, _, _, _, rfl, rfl, rfl, htv, hPF.2.2.1, hPF.2.2.2, tinv2 hPF (.inr (by assumption))⟩)
    · refine Stop.go (SetV2.intro (fr_same2 F10 rfl rfl) N10 (fun q hq => hq) ⟨td, tv, _, _, _, _, rfl, rfl, rfl, htv, hPF.2.2.1, hPF.2.2.2, tinv2 hPF (.inl (by assumption))⟩)
  intro h11 tk11 v11 u11 led11 F11 N11 hp11
  obtain ⟨t2, t2v, k11, ts2, r2, tr2, rfl, rfl, rfl, ht2, hl2, hr2, hT2⟩ := hp11
  obtain ⟨hr20, hr21⟩ := hT2.range hz1
  clear F10 N10
  k_with_none
  -- dividend
  refine cut_set (Str.ofString "dividend") (fun v led => led = [(t2, listOf t2v.toArray k11), (fd, listOf fv.toArray k4), (gd, listOf ws.toArray k3)] ++ (t37 ++ t44) ∧ ∃ t, v = .int (if gs.getD 0 0 < 0 then -worth fs else worth fs) t) F11 ?_ ?_
  · k_steps
    all_goals refine Stop.go (SetV.intro (by k_asm) (by k_asm) (fun q hq => hq) ⟨rfl, _, congrArg (Value.int · _) ?_⟩)
    · rw [if_pos (by assumption)]
    · rw [if_neg (by assumption)]
  intro h12 tk12 v12 led12 F12 N12 hp12
  obtain ⟨rfl, tdv, rfl⟩ := hp12
  clear F11 N11
  -- divisor
  refine cut_set (Str.ofString "divisor") (fun v led => led = [(t2, listOf t2v.toArray k11), (fd, listOf fv.toArray k4), (gd, listOf ws.toArray k3)] ++ (t37 ++ t44) ∧ ∃ t, v = .int (if lead < 0 then -sz else sz) t) F12 ?_ ?_
  · k_steps
    all_goals refine Stop.go (SetV.intro (by k_asm) (by k_asm) (fun q hq => hq) ⟨rfl, _, congrArg (Value.int · _) ?_⟩)
    · rw [if_pos (by assumption)]
    · rw [if_neg (by assumption)]
  intro h13 tk13 v13 led13 F13 N13 hp13
  obtain ⟨rfl, tds, rfl⟩ := hp13
  clear F12 N12
  have hanswer := answer_eq hz1 hT2
  have hW0 := worth_nonneg hfr
  have hW1 : worth fs < 2 ^ 80 := Int.lt_of_lt_of_le (worth_lt hfr) (by
    have := Nat.pow_le_pow_right (n := 2) (by decide) (show 6 * fs.length ≤ 80 by omega)
    have h2 : ((2 ^ (6 * fs.length) : Nat) : Int) ≤ ((2 ^ 80 : Nat) : Int) := Int.ofNat_le.mpr this
    simpa using h2)
  have T13 : Tabs _ _ h13 [(t2, listOf t2v.toArray k11), (fd, listOf fv.toArray k4), (gd, listOf ws.toArray k3)] t37 t44 := ⟨N13, hT37, hT44, hap8⟩
  have hA13 : ∀ q ∈ [(t2, listOf t2v.toArray k11), (fd, listOf fv.toArray k4), (gd, listOf ws.toArray k3)], ∀ p ∈ t37 ++ t44, p.1 ≠ q.1 := by
    intro q hq p hp
    have hs : SeqObj q.2 := by
      simp only [List.mem_cons, List.not_mem_nil, or_false] at hq
      rcases hq with rfl | rfl | rfl <;> exact ⟨_, _, rfl⟩
    rcases List.mem_append.mp hp with hp | hp
    · exact T13.off37 hq hs p hp
    · exact T13.off44 hq hs p hp
  -- answer
  refine cut_set (Str.ofString "answer") (fun v led => ∃ pr q1 q2 t37 t44, v = .ref pr ∧ led = [(pr, { cls := .type "tuple", data := .seq #[.int (if (decide (gs.getD 0 0 < 0) != decide (lead < 0)) = true then -worth ts2 else worth ts2) q1, .int (if lead < 0 then -r2 else r2) q2] 0 }), (t2, listOf t2v.toArray k11), (fd, listOf fv.toArray k4), (gd, listOf ws.toArray k3)] ++ (t37 ++ t44) ∧ Nest 37 35 4 q37 t37 ∧ Nest 44 50 4 q44 t44 ∧ ∀ q ∈ t44, ∀ p ∈ t37, p.1 ≠ q.1) F13 ?_ ?_
  · k_with "my call" => refine stop_here ?_
    k_steps
    refine Stop.go ?_
    by_cases hl : lead < 0
    · obtain ⟨a1, a2⟩ := hanswer.2 hl
      have eb : (if lead < 0 then -sz else sz) = -sz := if_pos hl
      refine idm3_spec (t37 := t37) (t44 := t44) (news := [(t2, listOf t2v.toArray k11), (fd, listOf fv.toArray k4), (gd, listOf ws.toArray k3)]) K0 (by k_asm) X0 (newsSub N13 (by walk_at "my perm")) T0 rfl C37 C44 hT37 hT44 hap8 hA13 (by split <;> omega) (by split <;> omega) (by rw [eb]; omega) (by rw [eb]; omega) (by decide) (by decide) ?_
      intro h9 tk9 pr9 t9 u9 s37 s44 hS37 hS44 F9 N9 hap9 _
      rw [eb, Int.neg_neg, a1, a2] at N9
      dsimp only
      k_steps
      refine Stop.go (SetV.intro (by k_asm) (by k_asm) (by walk_at "my perm") ⟨pr9, t9, u9, s37, s44, rfl, rfl, hS37, hS44, hap9⟩)
    · obtain ⟨a1, a2⟩ := hanswer.1 hl
      have eb : (if lead < 0 then -sz else sz) = sz := if_neg hl
      refine idm_spec (t37 := t37) (t44 := t44) (news := [(t2, listOf t2v.toArray k11), (fd, listOf fv.toArray k4), (gd, listOf ws.toArray k3)]) K0 (by k_asm) X0 (newsSub N13 (by walk_at "my perm")) T0 rfl C37 C44 hT37 hT44 hap8 hA13 (by split <;> omega) (by split <;> omega) (by rw [eb]; omega) (by rw [eb]; omega) (by decide) (by decide) ?_
      intro h9 tk9 pr9 t9 u9 s37 s44 hS37 hS44 F9 N9 hap9 _
      rw [eb, a1, a2] at N9
      dsimp only
      k_steps
      refine Stop.go (SetV.intro (by k_asm) (by k_asm) (by walk_at "my perm") ⟨pr9, t9, u9, s37, s44, rfl, rfl, hS37, hS44, hap9⟩)
  intro h14 tk14 v14 led14 F14 N14 hp14
  obtain ⟨pr, pq, pl, s37, s44, rfl, rfl, hS37, hS44, hap14⟩ := hp14
  clear F13 N13 T13 hA13 hT37 hT44 hap8
  k_with_none
  -- due
  refine cut_set (Str.ofString "due") (fun v led => led = [(pr, { cls := .type "tuple", data := .seq #[.int (if (decide (gs.getD 0 0 < 0) != decide (lead < 0)) = true then -worth ts2 else worth ts2) pq, .int (if lead < 0 then -r2 else r2) pl] 0 }), (t2, listOf t2v.toArray k11), (fd, listOf fv.toArray k4), (gd, listOf ws.toArray k3)] ++ (s37 ++ s44) ∧ ∃ t, v = .int (if (decide (gs.getD 0 0 < 0) != decide (lead < 0)) = true then -worth ts2 else worth ts2) t) F14 ?_ ?_
  · k_with "my call" => (k_dflt (refine' worth_spec (ns := ts2) K0 ?b2 X0 ?b4 T0 ?b6 ?b7 ht2 (by decide) (by decide) ?_; (case b2 => k_asm); (case b4 => exact N14); (case b6 => exact rfl); (case b7 => exact ⟨_, (N14 _ (.tail _ (.head _))).1, rfl, _, rfl⟩); intro t9 h9 tk9 F9 N9; (try dsimp only)))
    k_steps
    all_goals refine Stop.go (SetV.intro (by k_asm) (by k_asm) (fun q hq => hq) ⟨rfl, _, congrArg (Value.int · _) ?_⟩)
    · rw [(by assumption : (decide (gs.getD 0 0 < 0) != decide (lead < 0)) = true)]; rfl
    · rw [(by assumption : (decide (gs.getD 0 0 < 0) != decide (lead < 0)) = false)]; rfl
  intro h15 tk15 v15 led15 F15 N15 hp15
  obtain ⟨rfl, tdu, rfl⟩ := hp15
  clear F14 N14
  k_with_none
  -- the answer is the due one
  refine cut_skip (fun led => led = [(pr, { cls := .type "tuple", data := .seq #[.int (if (decide (gs.getD 0 0 < 0) != decide (lead < 0)) = true then -worth ts2 else worth ts2) pq, .int (if lead < 0 then -r2 else r2) pl] 0 }), (t2, listOf t2v.toArray k11), (fd, listOf fv.toArray k4), (gd, listOf ws.toArray k3)] ++ (s37 ++ s44)) F15 ?_ ?_
  · k_steps
    · exact Stop.go (SkipV.intro (by k_asm) (by k_asm) (fun q hq => List.Mem.tail _ hq) rfl)
    · exact absurd (if_pos (by assumption : lead < 0) : (if lead < 0 then -r2 else r2) = -r2) (by assumption)
    · exact Stop.go (SkipV.intro (by k_asm) (by k_asm) (fun q hq => List.Mem.tail _ hq) rfl)
    · exact absurd (if_neg (by assumption : ¬ lead < 0) : (if lead < 0 then -r2 else r2) = r2) (by assumption)
  intro h16 tk16 led16 F16 N16 hp16
  subst hp16
  clear F15 N15
  -- quotient, left
  refine cut_set2 (Str.ofString "quotient") (Str.ofString "left") (fun v u led => led = [(pr, { cls := .type "tuple", data := .seq #[.int (if (decide (gs.getD 0 0 < 0) != decide (lead < 0)) = true then -worth ts2 else worth ts2) pq, .int (if lead < 0 then -r2 else r2) pl] 0 }), (t2, listOf t2v.toArray k11), (fd, listOf fv.toArray k4), (gd, listOf ws.toArray k3)] ++ (s37 ++ s44) ∧ v = .int (if (decide (gs.getD 0 0 < 0) != decide (lead < 0)) = true then -worth ts2 else worth ts2) pq ∧ u = .int (if lead < 0 then -r2 else r2) pl) F16 ?_ ?_
  · k_steps
    exact Stop.go (SetV2.intro (by k_asm) (by k_asm) (fun q hq => hq) ⟨rfl, rfl, rfl⟩)
  intro h17 tk17 v17 u17 led17 F17 N17 hp17
  obtain ⟨rfl, rfl, rfl⟩ := hp17
  clear F16 N16
  k_with_none
  -- octets
  have habs1 : (if (if (decide (gs.getD 0 0 < 0) != decide (lead < 0)) = true then -worth ts2 else worth ts2) < 0 then -(if (decide (gs.getD 0 0 < 0) != decide (lead < 0)) = true then -worth ts2 else worth ts2) else (if (decide (gs.getD 0 0 < 0) != decide (lead < 0)) = true then -worth ts2 else worth ts2)) = worth ts2 := by
    have := worth_nonneg hr2
    generalize (decide (gs.getD 0 0 < 0) != decide (lead < 0)) = ap
    cases ap <;> simp <;> omega
  have habs2 : (if (if lead < 0 then -r2 else r2) < 0 then -(if lead < 0 then -r2 else r2) else (if lead < 0 then -r2 else r2)) = r2 := by
    split <;> split <;> omega
  refine cut_set (Str.ofString "octets") (fun v led => ∃ b t t37 t44, v = .bytes b t ∧ led = [(t2, listOf t2v.toArray k11)] ++ (t37 ++ t44) ∧ Nest 37 35 4 q37 t37 ∧ Nest 44 50 4 q44 t44 ∧ (∀ q ∈ t44, ∀ p ∈ t37, p.1 ≠ q.1) ∧ KBw.bInts b = (digs 8 (fs.length / 4 * 3) (worth ts2)).reverse ++ (digs 8 6 r2).reverse) F17 ?_ ?_
  · k_with "my abs" => (k_dflt (refine abs_eq habs1 ?_; intro ua ta))
    k_with "my abs" => (k_dflt (refine abs_eq habs2 ?_; intro ua ta))
    k_with "my call" => refine stop_here ?_
    k_steps
    refine Stop.go ?_
    have T17 : Tabs _ _ h17 [(t2, listOf t2v.toArray k11)] s37 s44 := ⟨newsSub N17 (by walk_at "my perm"), hS37, hS44, hap14⟩
    have hA17 : ∀ q ∈ s44 ++ [(t2, listOf t2v.toArray k11)], ∀ p ∈ s37, p.1 ≠ q.1 := by
      intro q hq
      rcases List.mem_append.mp hq with hq | hq
      · exact hap14 q hq
      · exact T17.off37 hq (by rw [List.mem_singleton.mp hq]; exact ⟨_, _, rfl⟩)
    refine octets_spec (tabs := s37) (news := s44 ++ [(t2, listOf t2v.toArray k11)]) (cnt := fs.length / 4 * 3) K0 (by k_asm) X0 (newsSub N17 (by walk_at "my perm")) T0 rfl C37 hS37 hA17 (worth_nonneg hr2) (by have := worth_fits hr2 (by omega); rwa [hl2] at this) (by omega) (by decide) (by decide) ?_
    intro h8 tk8 u37 b8 t8 hU37 F8 N8 hA8 hb8
    dsimp only
    k_steps
    refine Stop.go ?_
    refine octets_spec (tabs := u37) (news := s44 ++ [(t2, listOf t2v.toArray k11)]) (cnt := 6) K0 (by k_asm) X0 N8 T0 rfl C37 hU37 hA8 hr20 (by omega) (by decide) (by decide) (by decide) ?_
    intro h9 tk9 y37 b9 t9 hY37 F9 N9 hA9 hb9
    dsimp only
    k_with "my badd" => (k_dflt (refine KBa.add_K hb8 hb9 (by simp only [List.length_reverse, digs_length]; omega) ?_; intro t10 k10 hb10))
    k_steps
    refine Stop.go (SetV.intro (by k_asm) (by k_asm) (by walk_at "my perm") ⟨_, _, y37, s44, rfl, rfl, hY37, hS44, fun q hq => hA9 q (List.mem_append_left _ hq), hb10⟩)
  intro h18 tk18 v18 led18 F18 N18 hp18
  obtain ⟨ob, obt, y37, y44, rfl, rfl, hY37, hY44, hap18, hob⟩ := hp18
  clear F17 N17
  k_with_none
  -- the answer, written
  have hsix : six ((digs 8 (fs.length / 4 * 3) (worth ts2)).reverse ++ (digs 8 6 r2).reverse) = ts2 ++ (digs 6 8 r2).reverse := by
    rw [six_append (by rw [List.length_reverse, digs_length]; omega)]
    have e1 := octets_written hr2 (by omega)
    rw [hl2] at e1
    rw [e1]
    exact congrArg (ts2 ++ ·) (six_digs 2 r2 hr20)
  refine cut_skip (fun led => led = y37 ++ y44) F18 ?_ ?_
  · k_with "my call" => ((with_reducible show wpAny _ _ (call (Value.ref 93) _) _ _ _); k_dflt (refine' b64_spec K0 ?b2 X0 ?b4 T0 ?b6 hob (by simp only [List.length_append, List.length_reverse, digs_length]; omega) (by simp only [List.length_append, List.length_reverse, digs_length]; omega) (by decide) (by decide) ?_; (case b2 => k_asm); (case b4 => exact N18); (case b6 => exact rfl); intro h9 tk9 r9 t9 F9 N9 hr9; (try dsimp only)))
    k_with "my call" => ((with_reducible show wpAny _ _ (call (Value.ref 117) _) _ _ _); k_dflt (refine' eight_spec (x := r2) K0 ?b2 X0 ?b4 T0 ?b6 hr20 (by omega) (by decide) (by decide) ?_; (case b2 => k_asm); (case b4 => exact N9); (case b6 => exact rfl); intro h10 tk10 d10 v10 k10 F10 N10 hv10; (try dsimp only)))
    k_with "my add" => (k_dflt (refine add_lists_ints F10 N10 ⟨_, (N10 _ (.tail _ (.head _))).1, rfl, _, rfl⟩ ⟨_, (N10 _ (.head _)).1, rfl, _, rfl⟩ ht2 hv10 ?_ (by rw [List.length_reverse, digs_length, sizeLine_eq]; omega); intro h11 F11 N11 hv11))
    k_with "my call" => ((with_reducible show wpAny _ _ (call (Value.ref 105) _) _ _ _); k_dflt (refine' written_spec K0 ?b2 X0 ?b4 T0 ?b6 ?b7 hv11 (by rw [List.length_append, List.length_reverse, digs_length]; omega) ?b8 (by decide) (by decide) ?_; (case b2 => k_asm); (case b4 => exact N11); (case b6 => exact rfl); (case b7 => exact ⟨_, (N11 _ (.head _)).1, rfl, _, rfl⟩); (case b8 => exact fun d hd => (List.mem_append.mp hd).elim (hr2 d) fun hd => by simpa using digs_mem (List.mem_reverse.mp hd)); intro h12 tk12 r12 t12 F12 N12 hr12; (try dsimp only)))
    k_with "my ne" => (have e9 : r9 = r12 := bInts_inj (by rw [hr9, hr12, hsix]); k_dflt (refine ne_bytes_same e9 ?_))
    k_steps
    exact Stop.go (SkipV.intro (by k_asm) (by k_asm) (by walk_at "my perm") rfl)
  intro h19 tk19 led19 F19 N19 hp19
  subst hp19
  clear F18 N18
  k_with_none
  -- by nought
  k_with "my and" => ((with_reducible show GoodW _ _ _ _ _ _ _ ∧ _); refine stop_here ?_)
  k_steps
  refine Stop.go ⟨end_true (by assumption) (by assumption) rfl rfl, ?_⟩
  obtain ⟨p37, hp37⟩ := hY37.has
  obtain ⟨p44, hp44⟩ := hY44.has
  exact ⟨GrownAt.of (by assumption) (List.mem_append_left _ hp37), GrownAt.of (by assumption) (List.mem_append_right _ hp44), True.intro⟩)
end Mine
end PartMain
set_option maxRecDepth 100000 in
set_option maxHeartbeats 8000000 in
theorem PySem.Challenge.cw_nb0147_01_holds : PySem.Challenge.rw_nb0147_01.Holds := by
  exact Mine.main
