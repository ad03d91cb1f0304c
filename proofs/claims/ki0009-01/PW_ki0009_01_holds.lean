import PyProof.Rows.All
import Wide.All
import OpenK.AllK
import Wide.FinOn
import PySem.Challenge.RW_ki0009_01
open PySem PySem.W PyProof.Rows
set_option Elab.async false
set_option linter.all false
set_option maxRecDepth 100000
set_option maxHeartbeats 0
namespace Mine
open_top hd for PySem.Challenge.rw_ki0009_01

/-! ### Base0 -/
section
theorem top_off_Base0 : True := by
  w_top off
  trivial

/-- the place of a call: nothing is being handled -/
@[reducible] def Ar (d : Nat) (fr : Option (List Env)) (gs : Option (List Code)) (u : Nat) : Around := ⟨none, d, fr, gs, u⟩
/-- room for n more frames -/
structure Room (d u n : Nat) : Prop where
  dep : d + n < 900
  un : u + 4 * n < 9000

theorem Room.deeper {d u n : Nat} (R : Room d u (n + 1)) : Room (d + 1) (u + 3) n :=
  ⟨by have := R.dep; omega, by have := R.un; omega⟩
theorem Room.lt {d u n : Nat} {fr gs} (R : Room d u n) : (Ar d fr gs u).depth < recursionLimit := by have := R.dep; show d < 1000; omega
theorem Room.units {d u n : Nat} {fr gs} (R : Room d u n) : (Ar d fr gs u).units < cLine := by have := R.un; show u < 9900; omega
theorem Room.mono {d u n k : Nat} (R : Room d u n) (h : k ≤ n) : Room d u k := ⟨by have := R.dep; omega, by have := R.un; omega⟩

/-- what a call may do to the state: it keeps every old object; its value is as P says -/
def Ret (s : Shared) (P : Value → Heap → Prop) (r : Result) (s' : Shared) : Prop :=
  ∃ v h' t', r = .ok (.ret v) ∧ s' = { s with heap := h', toks := t' } ∧ (∀ b o, s.heap.get? b = some o → h'.get? b = some o) ∧ P v h'

theorem ret_of {s : Shared} {P : Value → Heap → Prop} {L : Addr} {m : Str → Option Value} {v : Value} {h' : Heap} {t' : Nat} (F : Fr s.heap L h' m) (h : P v h') :
    Ret s P (.ok (.ret v)) { s with heap := h', toks := t' } := ⟨v, h', t', rfl, rfl, F.keep, h⟩

theorem ret_bytes {s : Shared} {L : Addr} {m : Str → Option Value} {b b' : Array UInt8} {t : Tok} {h' : Heap} {t' : Nat} (F : Fr s.heap L h' m) (e : b = b') :
    Ret s (fun v _ => ∃ t₁, v = .bytes b' t₁) (.ok (.ret (.bytes b t))) { s with heap := h', toks := t' } := ⟨_, h', t', rfl, rfl, F.keep, t, by rw [e]⟩

theorem enter_def {prog : Program} {w : World} {A : Around} {s : Shared} {K : Frag} {R : Result → Shared → Prop} {mg mb : Str → Option Value} {p : Program} {loose : List Str} {mean : ExcName → Option Value}
    {name qual : Str} {params : Arguments} {body : List Stmt} {scope : Scope} {dV kV doc pm cdv ct oc : Value} {an od : Option Addr} {osl : Array (Option Value)} {f : Addr} {args : Args} {binds : List (Str × Value)}
    (X : K.In s.heap) (T : Top p loose mean mg mb s.heap)
    (ho : K.lookup f = some ⟨oc, od, .func (fnOf name qual params body scope dV kV doc pm an cdv ct), osl⟩) (hcd : codeIn K cdv qual = true) (hroom : A.depth < recursionLimit)
    (hbind : BindsTo s (fnOf name qual params body scope dV kV doc pm an cdv ct) args binds) (hloc : ∀ y ∈ binds, scope.names.lookup y.1 = some .local)
    (h : ∀ L h₁, L = s.heap.objs.size → Fr s.heap L h₁ (fun y => binds.reverse.lookup y) → News s.heap L h₁ [] →
      wpAny (model prog w) (A.deeper (envOf qual scope L f cdv)) (execs body (envOf qual scope L f cdv))
        (fun fl s' => R (.ok (.ret (match fl with | .ret v => v | _ => .none))) s')
        (fun _ _ => False)
        { s with heap := h₁, toks := s.toks + binds.length })
    (hco : scope.isCoroutine = false) (hgen : scope.isGenerator = false) (hk : scope.kind = .function)
    (hcell : ∀ x ∈ scope.names, x.2 ≠ .cell) : codeAny (model prog w) A (.call (.ref f) args) R s :=
  codeAny_call_def (fd := fnOf name qual params body scope dV kV doc pm an cdv ct) (body := body) (binds := binds) hroom (X _ _ ho) rfl T.nolimit (codeRec_of X hcd) rfl hbind hcell hloc
    (fun h₁ hns hk₁ => wpAny_mono (h _ h₁ rfl ⟨hns, hk₁, Nat.le_refl _⟩ News.nil) (fun _ _ x => x) (fun _ _ x => x.elim)) hco hgen hk

theorem enter_defC {prog : Program} {w : World} {A : Around} {s : Shared} {K : Frag} {R : Result → Shared → Prop} {mg mb : Str → Option Value} {p : Program} {loose : List Str} {mean : ExcName → Option Value}
    {name qual : Str} {params : Arguments} {body : List Stmt} {scope : Scope} {dV kV doc pm cdv ct oc : Value} {an od : Option Addr} {osl : Array (Option Value)} {f : Addr} {args : Args} {binds : List (Str × Value)}
    (X : K.In s.heap) (T : Top p loose mean mg mb s.heap)
    (ho : K.lookup f = some ⟨oc, od, .func (fnOf name qual params body scope dV kV doc pm an cdv ct), osl⟩) (hcd : codeIn K cdv qual = true) (hroom : A.depth < recursionLimit)
    (hbind : BindsTo s (fnOf name qual params body scope dV kV doc pm an cdv ct) args binds)
    (hkind : (binds.all fun y => scope.names.lookup y.1 == some .local || scope.names.lookup y.1 == some .cell) = true)
    (hnd : ((cellsFrom 0 scope.names []).map (·.1)).Nodup)
    (h : ∀ L h₁ tk cells, L = s.heap.objs.size → Fr s.heap L h₁ (bindL (envOfC qual scope L f cdv).kindOf binds fun _ => none) → News s.heap L h₁ cells →
      CellsAre (bindC (envOfC qual scope L f cdv).kindOf binds fun _ => none) (cellsFrom (L + 1) scope.names []) cells →
      wpAny (model prog w) (A.deeper (envOfC qual scope L f cdv)) (execs body (envOfC qual scope L f cdv))
        (fun fl s' => R (.ok (.ret (match fl with | .ret v => v | _ => .none))) s')
        (fun _ _ => False)
        { s with heap := h₁, toks := tk })
    (hco : scope.isCoroutine = false) (hgen : scope.isGenerator = false) (hk : scope.kind = .function) : codeAny (model prog w) A (.call (.ref f) args) R s := by
  refine codeAny_call_function (fd := fnOf name qual params body scope dV kV doc pm an cdv ct) hroom (X _ _ ho) rfl hco hgen rfl (codeRec_of X hcd) (hbind _ _ _ _ ?_)
  refine wpAny_newFunctionEnv_cells hk (kindsX hkind _) fun env' he s' x => ?_
  subst he
  refine ⟨T.nolimit.keeps x.toInCall.keep, codeAny_func ?_⟩
  obtain ⟨h₁, tk, rfl, _⟩ := x.done
  have hk₁ := x.toInCall.keep
  obtain ⟨cells, NC, Y⟩ := Cl.news (h₀ := s.heap) (Nat.le_refl _) fun n c hm => ⟨x.cell n c (lookup_of_mem_nodup (cellsFrom_names scope.names 0 (s.heap.objs.size + 1) [] [] rfl ▸ hnd) hm), x.above n c hm⟩
  exact wpAny_mono (h s.heap.objs.size h₁ tk cells rfl ⟨x.toInCall.ns, hk₁, Nat.le_refl _⟩ NC Y) (fun _ _ y => y) fun _ _ y => y.elim

theorem keepsFr {h₀ h h' : Heap} {L : Addr} {m : Str → Option Value} (F : Fr h₀ L h m) (k : ∀ b o, h.get? b = some o → h'.get? b = some o) : Fr h₀ L h' m :=
  ⟨F.ns.at' fun o e => k _ o e, fun b o e => k b o (F.keep b o e), F.above⟩
theorem keepsNews {h₀ h h' : Heap} {L : Addr} {news : List (Addr × Obj)} (N : News h₀ L h news) (k : ∀ b o, h.get? b = some o → h'.get? b = some o) : News h₀ L h' news :=
  fun p hp => ⟨k _ _ (N p hp).1, (N p hp).2⟩

/-- a call by its contract -/
theorem call_by {prog : Program} {w : World} {A : Around} {E : Value → Shared → Prop} {s : Shared} {h₀ : Heap} {L : Addr} {m : Str → Option Value} {news : List (Addr × Obj)} {f : Value} {pos : List Value} {kw : List (Str × Value)}
    {P : Value → Heap → Prop} {Q : Value → Shared → Prop} (F : Fr h₀ L s.heap m) (N : News h₀ L s.heap news)
    (c : codeAny (model prog w) A (.call f ⟨pos, kw⟩) (Ret s P) s)
    (h : ∀ v h' t', P v h' → Fr h₀ L h' m → News h₀ L h' news → (∀ b o, s.heap.get? b = some o → h'.get? b = some o) → Q v { s with heap := h', toks := t' }) :
    wpAny (model prog w) A (call f pos kw) Q E s :=
  wpAny_call (codeAny_mono c fun _ _ ⟨v, h', t', e1, e2, k, p⟩ => by subst e1; subst e2; exact h v h' t' p (keepsFr F k) (keepsNews N k) k)
end

/-! ### Plain -/
section
theorem top_off_Plain : True := by
  w_top off
  trivial
/-- base 64's places of a row of octets -/
def sx : List Nat → List Nat
  | a :: b :: c :: r => a / 4 :: (a % 4 * 16 + b / 16) :: (b % 16 * 4 + c / 64) :: c % 64 :: sx r
  | [a, b] => [a / 4, a % 4 * 16 + b / 16, b % 16 * 4]
  | [a] => [a / 4, a % 4 * 16]
  | [] => []
def T64 : List Nat := [65, 66, 67, 68, 69, 70, 71, 72, 73, 74, 75, 76, 77, 78, 79, 80, 81, 82, 83, 84, 85, 86, 87, 88, 89, 90, 97, 98, 99, 100, 101, 102, 103, 104, 105, 106, 107, 108, 109, 110, 111, 112, 113, 114, 115, 116, 117, 118, 119, 120, 121, 122, 48, 49, 50, 51, 52, 53, 54, 55, 56, 57, 43, 47]
def sg (i : Nat) : Nat := T64.getD i 0
def padn (n : Nat) : Nat := (3 - n % 3) % 3
def enc64 (l : List Nat) : List Nat := (sx l).map sg ++ List.replicate (padn l.length) 61

/-- what the encoder's loop has done behind a row of octets: the places written, the bits left -/
inductive Left : List Nat → Nat → Nat → List Nat → Prop where
  | zero {q : List Nat} {lc : Nat} (h : q.length % 3 = 0) : Left q lc 0 ((sx q).map sg)
  | one {q : List Nat} {a lc : Nat} (h : q.length % 3 = 0) (hb : lc % 4 = a % 4) : Left (q ++ [a]) lc 2 ((sx q).map sg ++ [sg (a / 4)])
  | two {q : List Nat} {a b lc : Nat} (h : q.length % 3 = 0) (hb : lc % 16 = b % 16) : Left (q ++ [a, b]) lc 4 ((sx q).map sg ++ [sg (a / 4), sg (a % 4 * 16 + b / 16)])

theorem sx_append : ∀ {q : List Nat} (r : List Nat), q.length % 3 = 0 → sx (q ++ r) = sx q ++ sx r
  | [], r, _ => rfl
  | [a], r, h => by simp at h
  | [a, b], r, h => by simp at h
  | a :: b :: c :: q, r, h => by
    have : q.length % 3 = 0 := by simp only [List.length_cons] at h; omega
    show a / 4 :: _ :: _ :: _ :: sx (q ++ r) = _
    rw [sx_append r this]; rfl
theorem sx_len_le : ∀ q : List Nat, (sx q).length ≤ 2 * q.length
  | [] => by simp [sx]
  | [a] => by simp [sx]
  | [a, b] => by simp [sx]
  | a :: b :: c :: q => by
    have := sx_len_le q
    simp only [sx, List.length_cons]; omega
theorem Left.len {q : List Nat} {lc lb : Nat} {on : List Nat} (h : Left q lc lb on) : on.length ≤ 2 * q.length := by
  cases h with
  | zero h => simpa using sx_len_le q
  | one h hb => rename_i q' a; have := sx_len_le q'; simp; omega
  | two h hb => rename_i q' a b; have := sx_len_le q'; simp; omega
theorem inv_zero {q : List Nat} {lc a : Nat} (hq : q.length % 3 = 0) (ha : a < 256 := by assumption) : Left (q ++ [a]) ((lc * 256 + a) % 65536) 2 ((sx q).map sg ++ [sg ((lc * 256 + a) % 65536 / 2 ^ 2 % 64)]) := by
  have e : (lc * 256 + a) % 65536 / 2 ^ 2 % 64 = a / 4 := by omega
  rw [e]
  exact .one hq (by omega)
theorem inv_one {q : List Nat} {lc a b : Nat} (hq : q.length % 3 = 0) (hb : lc % 4 = b % 4) (ha : a < 256 := by assumption) : Left (q ++ [b] ++ [a]) ((lc * 256 + a) % 65536) 4 ((sx q).map sg ++ [sg (b / 4)] ++ [sg ((lc * 256 + a) % 65536 / 2 ^ 4 % 64)]) := by
  have e : (lc * 256 + a) % 65536 / 2 ^ 4 % 64 = b % 4 * 16 + a / 16 := by omega
  rw [e]
  simp only [List.append_assoc, List.cons_append, List.nil_append]
  exact .two hq (by omega)
theorem inv_two {q : List Nat} {lc a b c : Nat} (hq : q.length % 3 = 0) (hb : lc % 16 = c % 16) (ha : a < 256 := by assumption) : Left (q ++ [b, c] ++ [a]) ((lc * 256 + a) % 65536) 0 ((sx q).map sg ++ [sg (b / 4), sg (b % 4 * 16 + c / 16)] ++ [sg ((lc * 256 + a) % 65536 / 2 ^ 6 % 64), sg ((lc * 256 + a) % 65536 / 2 ^ 0 % 64)]) := by
  have e : (lc * 256 + a) % 65536 / 2 ^ 6 % 64 = c % 16 * 4 + a / 64 := by omega
  have e2 : (lc * 256 + a) % 65536 / 2 ^ 0 % 64 = a % 64 := by omega
  rw [e, e2]
  have := Left.zero (q := q ++ [b, c, a]) (lc := (lc * 256 + a) % 65536) (by simp; omega)
  rw [sx_append _ hq] at this
  simpa [sx] using this
theorem fin_zero {q : List Nat} (hq : q.length % 3 = 0) : (sx q).map sg = enc64 q := by
  simp [enc64, padn, hq]
theorem fin_one {q : List Nat} {lc a : Nat} (hq : q.length % 3 = 0) (hb : lc % 4 = a % 4) : (sx q).map sg ++ [sg (a / 4)] ++ [sg (lc % 4 * 16), 61, 61] = enc64 (q ++ [a]) := by
  have h : (q.length + 1) % 3 = 1 := by omega
  simp [enc64, padn, h, sx_append _ hq, sx, hb, List.replicate]
theorem fin_two {q : List Nat} {lc a b : Nat} (hq : q.length % 3 = 0) (hb : lc % 16 = b % 16) : (sx q).map sg ++ [sg (a / 4), sg (a % 4 * 16 + b / 16)] ++ [sg (lc % 16 * 4), 61] = enc64 (q ++ [a, b]) := by
  have h : (q.length + 2) % 3 = 2 := by omega
  simp [enc64, padn, h, sx_append _ hq, sx, hb, List.replicate]
theorem sg_lt {j : Nat} : sg j < 256 := by
  unfold sg
  by_cases h : j < 64
  · have : ∀ j : Fin 64, T64.getD j.val 0 < 256 := by decide +kernel
    exact this ⟨j, h⟩
  · rw [List.getD_eq_getElem?_getD, List.getElem?_eq_none (by show 64 ≤ j; omega)]; decide
theorem enc64_lt {l : List Nat} : ∀ n ∈ enc64 l, n < 256 := by
  intro n hn
  rcases List.mem_append.mp hn with h | h
  · obtain ⟨x, _, rfl⟩ := List.mem_map.mp h
    exact sg_lt
  · rw [(List.mem_replicate.mp h).2]; decide
theorem enc64_len_le (l : List Nat) : (enc64 l).length ≤ 2 * l.length + 2 := by
  have := sx_len_le l
  simp only [enc64, List.length_append, List.length_map, List.length_replicate, padn]
  omega
theorem enc64_append {a b : List Nat} (h : a.length % 3 = 0) : enc64 (a ++ b) = enc64 a ++ enc64 b := by
  have h1 : padn a.length = 0 := by simp [padn, h]
  have h2 : padn (a ++ b).length = padn b.length := by simp only [padn, List.length_append]; omega
  unfold enc64
  rw [sx_append b h, h1, h2, List.map_append]
  simp
end

/-! ### Bits -/
section
theorem top_off_Bits : True := by
  w_top off
  trivial

local macro_rules | `(tactic| walk_at "call type:type") => `(tactic| ((with_reducible show wpAny _ _ (call _ [Value.bytes _ _]) _ _ _); refine call_type_of (Tx := "bytes") rfl (by decide +kernel) ?_))
@[reducible] def TB : List UInt8 := [65, 66, 67, 68, 69, 70, 71, 72, 73, 74, 75, 76, 77, 78, 79, 80, 81, 82, 83, 84, 85, 86, 87, 88, 89, 90, 97, 98, 99, 100, 101, 102, 103, 104, 105, 106, 107, 108, 109, 110, 111, 112, 113, 114, 115, 116, 117, 118, 119, 120, 121, 122, 48, 49, 50, 51, 52, 53, 54, 55, 56, 57, 43, 47]
theorem bitOr_nat (x y : Nat) : Builtin.bitOr (x : Int) (y : Int) = ((x ||| y : Nat) : Int) := by
  unfold Builtin.bitOr Builtin.bitAnd Builtin.bitNot
  have h1 : decide (0 ≤ -((x : Nat) : Int) - 1) = false := decide_eq_false (by omega)
  have h2 : decide (0 ≤ -((y : Nat) : Int) - 1) = false := decide_eq_false (by omega)
  simp only [h1, h2]
  have e1 : (-(-((x : Nat) : Int) - 1) - 1).toNat = x := by omega
  have e2 : (-(-((y : Nat) : Int) - 1) - 1).toNat = y := by omega
  rw [e1, e2]
  omega
theorem or_low {x y k : Nat} (h : y < 2 ^ k) : (x * 2 ^ k) ||| y = x * 2 ^ k + y := by
  rw [← Nat.shiftLeft_eq, Nat.shiftLeft_add_eq_or_of_lt h]
/-- the encoder's shift register, one octet in -/
theorem lc_step {lc a : Nat} (ha : a < 256) : Builtin.bitAnd (Builtin.bitOr ((lc : Int) * 2 ^ Int.toNat 8) (a : Int)) 65535 = (((lc * 256 + a) % 65536 : Nat) : Int) := by
  have e : ((lc : Int) * 2 ^ Int.toNat 8) = ((lc * 2 ^ 8 : Nat) : Int) := by
    show (lc : Int) * 2 ^ 8 = _
    omega
  rw [e, bitOr_nat, or_low (by omega), bitAnd_m16]
  omega
theorem idx_step {lc a k : Nat} {e : Int} (he : e = ((2 ^ k : Nat) : Int)) (ha : a < 256) :
    Builtin.bitAnd ((Builtin.bitAnd (Builtin.bitOr ((lc : Int) * 2 ^ Int.toNat 8) (a : Int)) 65535).fdiv e) 63 = (((lc * 256 + a) % 65536 / 2 ^ k % 64 : Nat) : Int) := by
  rw [lc_step ha, bitAnd_m6, he, Int.fdiv_eq_ediv_of_nonneg _ (Int.natCast_nonneg _)]
  norm_cast
theorem tab_at {j : Nat} (h : j < 64) : (TB.getD j 0).toNat = sg j := by
  have : ∀ j : Fin 64, (TB.getD j.val 0).toNat = sg j.val := by decide +kernel
  exact this ⟨j, h⟩
/-- a sign of the table -/
theorem b64_item {prog : Program} {w : World} {A : Around} {E : Value → Shared → Prop} {s : Shared} {i : Int} {j : Nat} {t ui : Tok} {value slice : Expr} {Q : Value → Shared → Prop} (hij : i = (j : Int)) (hj : j < 64)
    (h : Q (.int (sg j : Int) s.toks) { s with toks := s.toks + 1 })
    (hs : subscripted slice false (.bytes TB.toArray t) (.int i ui) = operate [.bytes TB.toArray t, .int i ui] (getItem (.bytes TB.toArray t) (.int i ui)) := by with_unfolding_all rfl)
    (ht : ∀ r, letTemporaryGo value (.bytes TB.toArray t) r = pure () := by intro _; with_unfolding_all rfl) :
    wpAny (model prog w) A (subscriptTail value slice (.bytes TB.toArray t) (.int i ui)) Q E s := by
  subst hij
  exact bytes_item_K (by decide) (by omega) (by show (j : Int) < 64; omega) (by rw [Int.toNat_natCast, tab_at hj]) h hs ht

theorem append_L {prog : Program} {w : World} {A : Around} {E : Value → Shared → Prop} {s : Shared} {h₀ : Heap} {L D : Addr} {m : Str → Option Value} {vs : List Value} {n : Nat} {x : Value} {own : List (Addr × Obj)} {Q : Value → Shared → Prop}
    (F : Fr h₀ L s.heap m) (N : News h₀ L s.heap ((D, listOf vs.toArray n) :: own)) (ho : ∀ p ∈ own, p.1 ≠ D) (hz : vs.length ≤ 100000)
    (h : ∀ h', Fr h₀ L h' m → News h₀ L h' ((D, listOf (vs ++ [x]).toArray (n + 1)) :: own) → Q .none { s with heap := h' }) : wpAny (model prog w) A (call (.builtin "list.append") [.ref D, x]) Q E s :=
  append_K F N (.head ho) (fun h' F' N' => h h' F' (by simpa using N')) (by show vs.toArray.size ≤ 2 ^ 24; simp; omega)
theorem IntsAre.snoc {vs : List Value} {ns : List Int} {n : Int} {t : Tok} (h : IntsAre vs ns) : IntsAre (vs ++ [.int n t]) (ns ++ [n]) := by
  induction h with
  | nil => exact .cons _ _ .nil
  | cons m t' _ ih => exact .cons _ _ ih

theorem idx_end2 {lc : Nat} : Builtin.bitAnd (lc : Int) 3 * 2 ^ Int.toNat 4 = ((lc % 4 * 16 : Nat) : Int) := by
  rw [bitAnd_m2]
  show (lc : Int) % 4 * 2 ^ 4 = _
  omega
theorem idx_end4 {lc : Nat} : Builtin.bitAnd (lc : Int) 15 * 2 ^ Int.toNat 2 = ((lc % 16 * 4 : Nat) : Int) := by
  rw [bitAnd_m4]
  show (lc : Int) % 16 * 2 ^ 2 = _
  omega
theorem byteArr_nat (l : List Nat) : byteArr (l.map fun n : Nat => (n : Int)) = (l.map (·.toUInt8)).toArray := by
  simp [byteArr, Function.comp_def]
theorem in_nat {l : List Nat} (h : ∀ n ∈ l, n < 256) : KBa.In (l.map fun n : Nat => (n : Int)) := by
  intro k hk
  obtain ⟨n, hn, rfl⟩ := List.mem_map.mp hk
  have := h n hn
  omega
/-- bytes(out) of a list that the call has made -/
theorem make_nat {prog : Program} {w : World} {A : Around} {E : Value → Shared → Prop} {s : Shared} {h₀ : Heap} {L D : Addr} {m : Str → Option Value} {vs : List Value} {n : Nat} {own : List (Addr × Obj)} {l : List Nat} {Q : Value → Shared → Prop}
    (F : Fr h₀ L s.heap m) (N : News h₀ L s.heap ((D, listOf vs.toArray n) :: own)) (hh : A.handled = none) (hi : IntsAre vs (l.map fun n : Nat => (n : Int))) (hr : ∀ n ∈ l, n < 256) (hn : l.length ≤ 100000)
    (h : ∀ h' t' k, Fr h₀ L h' m → News h₀ L h' ((D, listOf vs.toArray n) :: own) → Q (.bytes (l.map (·.toUInt8)).toArray t') { s with heap := h', toks := k }) : wpAny (model prog w) A (call (.type "bytes") [.ref D]) Q E s :=
  KBa.make_K F N hh ⟨_, (N _ (.head _)).1, rfl, _, rfl⟩ hi (in_nat hr) (by rw [List.length_map]; omega) fun h' t' k F' N' _ => by rw [byteArr_nat]; exact h h' t' k F' N'

theorem nat_inj : ∀ {l l' : List Nat}, l.map (fun n : Nat => (n : Int)) = l'.map (fun n : Nat => (n : Int)) → l = l'
  | [], [], _ => rfl
  | [], _ :: _, h => by cases h
  | _ :: _, [], h => by cases h
  | a :: l, b :: l', h => by
    simp only [List.map_cons, List.cons.injEq] at h
    rw [nat_inj h.2, show a = b by omega]
end

/-! ### Blt -/
section
theorem top_off_Blt : True := by
  w_top off
  trivial

local macro_rules | `(tactic| walk_at "call type:type") => `(tactic| ((with_reducible show wpAny _ _ (call _ [Value.bytes _ _]) _ _ _); refine call_type_of (Tx := "bytes") rfl (by decide +kernel) ?_))
section Facts
open PySem.Builtin
set_option maxRecDepth 100000
theorem slot_upper : Slot "bytes" "upper" "bytes.upper" :=
  .of (owner := "bytes") (n := "upper") (by rw [typeLookup_type, builtinLookup_eq_fast]; kernel_rfl) (by decide +kernel) (by decide +kernel) (by decide +kernel)
    (by first | exact .inl (by decide +kernel) | exact .inr (by decide +kernel)) (by rw [isSubtype_type]; kernel_rfl)
theorem type_upper : typeOf (.builtin "bytes.upper") = pure (.type "method_descriptor") := by show builtinType _ = _; rw [builtinType_eq_fast]; kernel_rfl
theorem entry_upper : entryFor table "bytes.upper" = some Builtin.«bytes.upper» := by first | exact entryFor_of_tree (by kernel_rfl) | exact entryFor_of_fast (by kernel_rfl)
theorem args_upper (a : Value) : argsOk "bytes.upper" ⟨[a], []⟩ := by unfold argsOk; kernel_rfl
theorem slot_translate : Slot "bytes" "translate" "bytes.translate" :=
  .of (owner := "bytes") (n := "translate") (by rw [typeLookup_type, builtinLookup_eq_fast]; kernel_rfl) (by decide +kernel) (by decide +kernel) (by decide +kernel)
    (by first | exact .inl (by decide +kernel) | exact .inr (by decide +kernel)) (by rw [isSubtype_type]; kernel_rfl)
theorem type_translate : typeOf (.builtin "bytes.translate") = pure (.type "method_descriptor") := by show builtinType _ = _; rw [builtinType_eq_fast]; kernel_rfl
theorem entry_translate : entryFor table "bytes.translate" = some Builtin.«bytes.translate» := by first | exact entryFor_of_tree (by kernel_rfl) | exact entryFor_of_fast (by kernel_rfl)
theorem args_translate (a b : Value) : argsOk "bytes.translate" ⟨[a, b], []⟩ := by unfold argsOk; kernel_rfl
theorem slot_replace : Slot "bytes" "replace" "bytes.replace" :=
  .of (owner := "bytes") (n := "replace") (by rw [typeLookup_type, builtinLookup_eq_fast]; kernel_rfl) (by decide +kernel) (by decide +kernel) (by decide +kernel)
    (by first | exact .inl (by decide +kernel) | exact .inr (by decide +kernel)) (by rw [isSubtype_type]; kernel_rfl)
theorem type_replace : typeOf (.builtin "bytes.replace") = pure (.type "method_descriptor") := by show builtinType _ = _; rw [builtinType_eq_fast]; kernel_rfl
theorem entry_replace : entryFor table "bytes.replace" = some Builtin.«bytes.replace» := by first | exact entryFor_of_tree (by kernel_rfl) | exact entryFor_of_fast (by kernel_rfl)
theorem args_replace (a b c : Value) : argsOk "bytes.replace" ⟨[a, b, c], []⟩ := by unfold argsOk; kernel_rfl
theorem slot_join : Slot "bytes" "join" "bytes.join" :=
  .of (owner := "bytes") (n := "join") (by rw [typeLookup_type, builtinLookup_eq_fast]; kernel_rfl) (by decide +kernel) (by decide +kernel) (by decide +kernel)
    (by first | exact .inl (by decide +kernel) | exact .inr (by decide +kernel)) (by rw [isSubtype_type]; kernel_rfl)
theorem type_join : typeOf (.builtin "bytes.join") = pure (.type "method_descriptor") := by show builtinType _ = _; rw [builtinType_eq_fast]; kernel_rfl
theorem entry_join : entryFor table "bytes.join" = some Builtin.«bytes.join» := by first | exact entryFor_of_tree (by kernel_rfl) | exact entryFor_of_fast (by kernel_rfl)
theorem args_join (a b : Value) : argsOk "bytes.join" ⟨[a, b], []⟩ := by unfold argsOk; kernel_rfl
theorem slot_lt : Slot "bytes" (cmpInfo .Lt).2.1 "bytes.__lt__" :=
  .of (owner := "bytes") (n := "__lt__") (by rw [typeLookup_type, builtinLookup_eq_fast]; kernel_rfl) (by decide +kernel) (by decide +kernel) (by decide +kernel)
    (by first | exact .inl (by decide +kernel) | exact .inr (by decide +kernel)) (by rw [isSubtype_type]; kernel_rfl)
theorem entry_lt : entryFor table "bytes.__lt__" = some Builtin.«bytes.__lt__» := by first | exact entryFor_of_tree (by kernel_rfl) | exact entryFor_of_fast (by kernel_rfl)
theorem args_lt (a b : Value) : argsOk "bytes.__lt__" ⟨[a, b], []⟩ := by unfold argsOk; kernel_rfl
theorem slot_encode : Slot "str" "encode" "str.encode" :=
  .of (owner := "str") (n := "encode") (by rw [typeLookup_type, builtinLookup_eq_fast]; kernel_rfl) (by decide +kernel) (by decide +kernel) (by decide +kernel)
    (by first | exact .inl (by decide +kernel) | exact .inr (by decide +kernel)) (by rw [isSubtype_type]; kernel_rfl)
theorem type_encode : typeOf (.builtin "str.encode") = pure (.type "method_descriptor") := by show builtinType _ = _; rw [builtinType_eq_fast]; kernel_rfl
theorem entry_encode : entryFor table "str.encode" = some Builtin.«str.encode» := by first | exact entryFor_of_tree (by kernel_rfl) | exact entryFor_of_fast (by kernel_rfl)
theorem args_encode (a b : Value) : argsOk "str.encode" ⟨[a, b], []⟩ := by unfold argsOk; kernel_rfl
end Facts
end

/-! ### T1 -/
section
theorem top_off_T1 : True := by
  w_top off
  trivial

local macro_rules | `(tactic| walk_at "call type:type") => `(tactic| ((with_reducible show wpAny _ _ (call _ [Value.bytes _ _]) _ _ _); refine call_type_of (Tx := "bytes") rfl (by decide +kernel) ?_))
section
open PySem.Builtin PySem.Builtin.Bytes
theorem wp_mkBytes {M : Model} {A : Around} {E : Value → Shared → Prop} {s : Shared} {b : Array UInt8} {Q : Value → Shared → Prop} (hb : b.size ≤ 1000000) (h : Q (.bytes b s.toks) { s with toks := s.toks + 1 }) : wpAny M A (mkBytes b) Q E s := by
  unfold mkBytes
  rw [if_neg (by rw [sizeLine_eq]; omega)]
  exact wpAny_bind (wpAny_fresh (wpAny_pure h))
theorem payload_eq (b : Array UInt8) (t : Tok) : payload (.bytes b t) = pure b := rfl
theorem same_eq (b : Array UInt8) (t : Tok) : Kind.same .bytes (.bytes b t) = pure (.bytes b t) := by kernel_rfl
theorem new_eq (b : Array UInt8) : Kind.new .bytes b = mkBytes b := rfl
theorem meets_translate (b c : Array UInt8) (t u : Tok) (hc : c.size = 256) (hb : b.size ≤ 100000) :
    Meets («bytes.translate» ⟨[.bytes b t, .bytes c u], []⟩) (fun _ R s => ∀ t' k, R (.ok (.ret (.bytes (b.map fun x => c.getD x.toNat x) t'))) { s with toks := k }) := by
  refine .of_wp fun prog w A R s hS => ?_
  unfold «bytes.translate» translateM
  simp [KBd.like_eq, hc, payload_eq, same_eq, new_eq]
  have ef : Array.filter (fun _ => true) b = b := by
    apply Array.toList_inj.mp
    simp
  rw [ef]
  have e2 : (b.map fun x => c.getD x.toNat x) = Array.map (fun x => c[x.toNat]?.getD x) b := by simp
  rw [e2] at hS
  split
  · rename_i h
    refine wpAny_bind (wpAny_rule ?_)
    rw [h] at hS
    exact wpAny_pure ⟨_, rfl, hS _ _⟩
  · exact wpAny_bind (wp_mkBytes (by simp; omega) (wpAny_pure ⟨_, rfl, hS _ _⟩))
theorem translate_by {prog : Program} {w : World} {A : Around} {E : Value → Shared → Prop} {s : Shared} {b c : Array UInt8} {t u : Tok} {Q : Value → Shared → Prop} (hc : c.size = 256) (hb : b.size ≤ 100000)
    (h : ∀ t' k, Q (.bytes (b.map fun x => c.getD x.toNat x) t') { s with toks := k }) : wpAny (model prog w) A (call (.builtin "bytes.translate") [.bytes b t, .bytes c u]) Q E s :=
  call_meets slot_translate (typeIs_bytes _ _ _) entry_translate (args_translate _ _) (meets_translate b c t u hc hb) h
theorem m_translate {M : Model} {A : Around} {E : Value → Shared → Prop} {s : Shared} {b : Array UInt8} {t : Tok} {pl : Sem Bool} {Q : Value × List Value → Shared → Prop} (h : Q (.builtin "bytes.translate", [.bytes b t]) s) : wpAny M A (getMethod (.bytes b t) (Str.ofString "translate") pl) Q E s := by
  with_reducible exact KBd.method_of (.bytes b t) (typeIs_bytes _ _ _) slot_translate type_translate KBd.noRef h
theorem m_upper {M : Model} {A : Around} {E : Value → Shared → Prop} {s : Shared} {b : Array UInt8} {t : Tok} {pl : Sem Bool} {Q : Value × List Value → Shared → Prop} (h : Q (.builtin "bytes.upper", [.bytes b t]) s) : wpAny M A (getMethod (.bytes b t) (Str.ofString "upper") pl) Q E s := by
  with_reducible exact KBd.method_of (.bytes b t) (typeIs_bytes _ _ _) slot_upper type_upper KBd.noRef h
theorem m_hex {M : Model} {A : Around} {E : Value → Shared → Prop} {s : Shared} {b : Array UInt8} {t : Tok} {pl : Sem Bool} {Q : Value × List Value → Shared → Prop} (h : Q (.builtin "bytes.hex", [.bytes b t]) s) : wpAny M A (getMethod (.bytes b t) (Str.ofString "hex") pl) Q E s := by
  with_reducible exact KBd.method_of (.bytes b t) (typeIs_bytes _ _ _) FB.slot_bytes_hex FB.type_bytes_hex KBd.noRef h
theorem m_replace {M : Model} {A : Around} {E : Value → Shared → Prop} {s : Shared} {b : Array UInt8} {t : Tok} {pl : Sem Bool} {Q : Value × List Value → Shared → Prop} (h : Q (.builtin "bytes.replace", [.bytes b t]) s) : wpAny M A (getMethod (.bytes b t) (Str.ofString "replace") pl) Q E s := by
  with_reducible exact KBd.method_of (.bytes b t) (typeIs_bytes _ _ _) slot_replace type_replace KBd.noRef h
theorem m_join {M : Model} {A : Around} {E : Value → Shared → Prop} {s : Shared} {b : Array UInt8} {t : Tok} {pl : Sem Bool} {Q : Value × List Value → Shared → Prop} (h : Q (.builtin "bytes.join", [.bytes b t]) s) : wpAny M A (getMethod (.bytes b t) (Str.ofString "join") pl) Q E s := by
  with_reducible exact KBd.method_of (.bytes b t) (typeIs_bytes _ _ _) slot_join type_join KBd.noRef h
theorem m_encode {M : Model} {A : Around} {E : Value → Shared → Prop} {s : Shared} {x : Str} {t : Tok} {pl : Sem Bool} {Q : Value × List Value → Shared → Prop} (h : Q (.builtin "str.encode", [.str x t]) s) : wpAny M A (getMethod (.str x t) (Str.ofString "encode") pl) Q E s := by
  with_reducible exact GM.of (.str x t) (typeIs_str _ _ _) slot_encode type_encode GM.noRef h

theorem hex_eq (b : Array UInt8) (t : Tok) : «bytes.hex» ⟨[.bytes b t], []⟩ = retStr ⟨b.toList.zipIdx.foldl (fun (out : Array Nat) (x : UInt8 × Nat) => (out.push (hexDigit (x.1.toNat / 16))).push (hexDigit (x.1.toNat % 16))) #[]⟩ := by
  kernel_rfl
/-- the signs of an octet in base 16, small letters -/
def hxs (l : List Nat) : List Nat := l.flatMap fun c => [hexDigit (c / 16), hexDigit (c % 16)]
theorem hex_fold : ∀ (l : List UInt8) (k : Nat) (acc : Array Nat), (l.zipIdx k).foldl (fun (out : Array Nat) (x : UInt8 × Nat) => (out.push (hexDigit (x.1.toNat / 16))).push (hexDigit (x.1.toNat % 16))) acc = acc ++ (hxs (l.map (·.toNat))).toArray
  | [], k, acc => by simp [hxs]
  | c :: l, k, acc => by
    rw [List.zipIdx_cons, List.foldl_cons, hex_fold l]
    simp [hxs]
theorem hxs_len (l : List Nat) : (hxs l).length = 2 * l.length := by
  induction l with
  | nil => rfl
  | cons a l ih => simp only [hxs, List.flatMap_cons, List.length_append, List.length_cons, List.length_nil] at *; omega
theorem meets_hex (b : Array UInt8) (t : Tok) (hb : b.size ≤ 100000) :
    Meets («bytes.hex» ⟨[.bytes b t], []⟩) (fun _ R s => ∀ t' k, R (.ok (.ret (.str ⟨(hxs (b.toList.map (·.toNat))).toArray⟩ t'))) { s with toks := k }) := by
  refine .of_wp fun prog w A R s hS => ?_
  rw [hex_eq, hex_fold]
  have e : (#[] : Array Nat) ++ (hxs (b.toList.map (·.toNat))).toArray = (hxs (b.toList.map (·.toNat))).toArray := by simp
  rw [e]
  refine wpAny_bind (wpAny_mkStr (wpAny_pure ⟨_, rfl, hS _ _⟩) ?_)
  show (hxs (b.toList.map (·.toNat))).toArray.size ≤ sizeLine
  rw [sizeLine_eq, List.size_toArray, hxs_len, List.length_map, Array.length_toList]
  omega
theorem hex_by {prog : Program} {w : World} {A : Around} {E : Value → Shared → Prop} {s : Shared} {b : Array UInt8} {t : Tok} {Q : Value → Shared → Prop} (hb : b.size ≤ 100000)
    (h : ∀ t' k, Q (.str ⟨(hxs (b.toList.map (·.toNat))).toArray⟩ t') { s with toks := k }) : wpAny (model prog w) A (call (.builtin "bytes.hex") [.bytes b t]) Q E s :=
  call_meets FB.slot_bytes_hex (typeIs_bytes _ _ _) FB.entry_bytes_hex (FB.args_bytes_hex_1 _) (meets_hex b t hb) h
theorem upper_eq (b : Array UInt8) (t : Tok) : «bytes.upper» ⟨[.bytes b t], []⟩ = (do ret (← mkBytes (b.toList.map toUpper).toArray)) := by
  kernel_rfl
theorem meets_upper (b : Array UInt8) (t : Tok) (hb : b.size ≤ 100000) :
    Meets («bytes.upper» ⟨[.bytes b t], []⟩) (fun _ R s => ∀ t' k, R (.ok (.ret (.bytes (b.toList.map toUpper).toArray t'))) { s with toks := k }) := by
  refine .of_wp fun prog w A R s hS => ?_
  rw [upper_eq]
  exact wpAny_bind (wp_mkBytes (by simp; omega) (wpAny_pure ⟨_, rfl, hS _ _⟩))
theorem upper_by {prog : Program} {w : World} {A : Around} {E : Value → Shared → Prop} {s : Shared} {b : Array UInt8} {t : Tok} {Q : Value → Shared → Prop} (hb : b.size ≤ 100000)
    (h : ∀ t' k, Q (.bytes (b.toList.map toUpper).toArray t') { s with toks := k }) : wpAny (model prog w) A (call (.builtin "bytes.upper") [.bytes b t]) Q E s :=
  call_meets slot_upper (typeIs_bytes _ _ _) entry_upper (args_upper _) (meets_upper b t hb) h
theorem meets_lt (b c : Array UInt8) (t u : Tok) : Gives («bytes.__lt__» ⟨[.bytes b t, .bytes c u], []⟩) (.val (.bool (order b.toList c.toList == .lt))) := by
  refine .of_wp fun M A E s Q hq => ?_
  show wpAny M A (isInstance (.bytes c u) (.type "bytes") >>= fun r => _) _ E s
  refine wpAny_bind (wpAny_isInstance (typeIs_bytes s c u) F.sub_bytes_bytes ?_)
  exact wpAny_pure ⟨_, rfl, hq⟩
theorem lt_by {prog : Program} {w : World} {A : Around} {E : Value → Shared → Prop} {s : Shared} {b c : Array UInt8} {t u : Tok} {Q : Value → Shared → Prop} (h : Q (.bool (order b.toList c.toList == .lt)) s) : wpAny (model prog w) A (compareOp .Lt (.bytes b t) (.bytes c u)) Q E s :=
  compareOp_gives (op := .Lt) (typeIs_bytes s b t) (typeIs_bytes s c u) slot_lt entry_lt (args_lt _ _) (meets_lt b c t u) (fun e => nomatch e) h
theorem encode_eq (x : Str) (t u : Tok) : «str.encode» ⟨[.str x t, .str (PySem.Str.ofString "ascii") u], []⟩ = (do
   ret (← (do mkBytes (← _codecs.encodeNarrow "str.encode" _codecs.asciiCodec none (.str x t) x)))) := by
  kernel_rfl
theorem two_step {σ : Type} {l : List Nat} {f : Nat → σ → Sem (ForInStep σ)} {a b : σ} (hl : l ≠ []) (h1 : ∀ i, f i a = pure (.yield b)) (h2 : ∀ i, f i b = pure (.done b)) : forIn l a f = pure b := by
  match l, hl with
  | [x], _ => rw [List.forIn_cons, h1]; rfl
  | x :: y :: r, _ => rw [List.forIn_cons, h1]; show forIn (y :: r) b f = _; rw [List.forIn_cons, h2]; rfl
theorem narrow_eq (x : Str) (v : Value) (hx : ∀ c ∈ x.cps, c < 128) (hz : x.cps.size ≤ 100000) : _codecs.encodeNarrow "str.encode" _codecs.asciiCodec none v x = pure (x.cps.map UInt8.ofNat) := by
  unfold _codecs.encodeNarrow
  simp [_codecs.asciiCodec]
  by_cases h0 : x.cps.size = 0
  · have e : x.cps = #[] := Array.eq_empty_of_size_eq_zero h0
    have e2 : x.length = 0 := h0
    rw [e2]
    rw [List.range'_zero, List.forIn_nil, e]
    simp
  · have hs : x.length = x.cps.size := rfl
    have hne : List.range' 0 x.length ≠ [] := by
      intro h
      have := congrArg List.length h
      simp at this
      omega
    refine (congrArg _ (two_step (b := (x.cps.size, x.cps.map UInt8.ofNat, ({} : _codecs.Faults))) hne ?_ ?_)).trans rfl
    · intro i
      have h1 : x.cps[0]? = some x.cps[0] := by simp
      have h2 : x.cps[0] < 128 := hx _ (by simp)
      have h3 : Array.findIdx? (fun y => decide (128 ≤ y)) x.cps = none := by
        rw [Array.findIdx?_eq_none_iff]
        intro y hy
        have := hx y hy
        simp; omega
      have h4 : (Array.map UInt8.ofNat x.cps).extract 0 x.cps.size = Array.map UInt8.ofNat x.cps := by
        have := Array.extract_size (xs := Array.map UInt8.ofNat x.cps)
        rwa [Array.size_map] at this
      simp [h1, h2, h3, h4]
    · intro i
      have h1 : ¬ sizeLine < x.cps.size := by rw [sizeLine_eq]; omega
      simp [h1]
theorem meets_encode (x : Str) (t u : Tok) (hx : ∀ c ∈ x.cps, c < 128) (hz : x.cps.size ≤ 100000) :
    Meets («str.encode» ⟨[.str x t, .str (PySem.Str.ofString "ascii") u], []⟩) (fun _ R s => ∀ t' k, R (.ok (.ret (.bytes (x.cps.map UInt8.ofNat) t'))) { s with toks := k }) := by
  refine .of_wp fun prog w A R s hS => ?_
  rw [encode_eq, narrow_eq x _ hx hz]
  exact wpAny_bind (wpAny_bind (wpAny_pure (wp_mkBytes (by simp; omega) (wpAny_pure ⟨_, rfl, hS _ _⟩))))
theorem encode_by {prog : Program} {w : World} {A : Around} {E : Value → Shared → Prop} {s : Shared} {x : Str} {t u : Tok} {Q : Value → Shared → Prop} (hx : ∀ c ∈ x.cps, c < 128) (hz : x.cps.size ≤ 100000)
    (h : ∀ t' k, Q (.bytes (x.cps.map UInt8.ofNat) t') { s with toks := k }) : wpAny (model prog w) A (call (.builtin "str.encode") [.str x t, .str (PySem.Str.ofString "ascii") u]) Q E s :=
  call_meets slot_encode (typeIs_str _ _ _) entry_encode (args_encode _ _) (meets_encode x t u hx hz) h
end
end

/-! ### T2 -/
section
theorem top_off_T2 : True := by
  w_top off
  trivial

local macro_rules | `(tactic| walk_at "call type:type") => `(tactic| ((with_reducible show wpAny _ _ (call _ [Value.bytes _ _]) _ _ _); refine call_type_of (Tx := "bytes") rfl (by decide +kernel) ?_))
section
open PySem.Builtin PySem.Builtin.Bytes
/-- a list of bytes values -/
inductive BytesAre : List Value → List (Array UInt8) → Prop
  | nil : BytesAre [] []
  | cons (b : Array UInt8) (t : Tok) {vs bs} : BytesAre vs bs → BytesAre (.bytes b t :: vs) (b :: bs)
theorem BytesAre.length {vs : List Value} {bs : List (Array UInt8)} (h : BytesAre vs bs) : vs.length = bs.length := by
  induction h with
  | nil => rfl
  | cons b t _ ih => simp [ih]
theorem BytesAre.get {vs : List Value} {bs : List (Array UInt8)} (h : BytesAre vs bs) : ∀ (i : Nat) (b : Array UInt8), bs[i]? = some b → ∃ t, vs[i]? = some (.bytes b t) := by
  induction h with
  | nil => intro i b e; simp at e
  | cons c t _ ih =>
    intro i b e
    cases i with
    | zero => simp at e; subst e; exact ⟨t, rfl⟩
    | succ i => exact ih i b (by simpa using e)
theorem BytesAre.snoc {vs : List Value} {bs : List (Array UInt8)} {b : Array UInt8} {t : Tok} (h : BytesAre vs bs) : BytesAre (vs ++ [.bytes b t]) (bs ++ [b]) := by
  induction h with
  | nil => exact .cons _ _ .nil
  | cons c t' _ ih => exact .cons _ _ ih
theorem take_eq {id : String} {b : Array UInt8} {t : Tok} : takeBufferQuiet? id (.bytes b t) 0 = pure (some (b, none)) := by
  unfold takeBufferQuiet? takeBuffer?
  rw [KBy.special_eq KBy.look_buffer, KBy.own_buffer]
  have e : buffer? id (.bytes b t) ((0 : Int) == fullReadOnly) = pure (some b) := by
    unfold buffer?
    rw [KBy.special_eq KBy.look_buffer, KBy.own_buffer, KBy.own_release]
    kernel_rfl
  show (do match ← ((buffer? id (.bytes b t) ((0 : Int) == fullReadOnly)) >>= fun r => pure (r.map fun x => (x, (none : Option Value)))).attempt with
            | .ok r => pure r
            | .error _ => rule "memoryview.buffer.refusal-replaced"; pure none) = _
  rw [e]
  rfl
theorem wp_range {M : Model} {A : Around} {E : Value → Shared → Prop} {s : Shared} {β : Type} {n : Nat} {f : Nat → β → Sem (ForInStep β)} {Q : β → Shared → Prop} {b : β} (I : Nat → β → Prop)
    (turn : ∀ i b, i < n → I i b → wpAny M A (f i b) (fun r s' => s' = s ∧ ∃ b', r = .yield b' ∧ I (i + 1) b') E s) (h : I 0 b) (hQ : ∀ b, I n b → Q b s) : wpAny M A (forIn [:n] b f) Q E s := by
  rw [Std.Legacy.Range.forIn_eq_forIn_range']
  refine wpAny_forIn_list f (fun rest b s' => s' = s ∧ ∃ i, i ≤ n ∧ rest = List.range' i (n - i) ∧ I i b) Q ?_ ?_ _ _ ⟨rfl, 0, Nat.zero_le _, by simp [Std.Legacy.Range.size], h⟩
  · rintro x rest b s' ⟨rfl, i, hi, e, hI⟩
    have hlt : i < n := by
      rcases Nat.lt_or_ge i n with h | h
      · exact h
      · rw [Nat.sub_eq_zero_of_le h] at e; simp at e
    obtain ⟨k, hk⟩ : ∃ k, n - i = k + 1 := ⟨n - i - 1, by omega⟩
    rw [hk, List.range'_succ] at e
    injection e with e1 e2
    subst e1
    refine wpAny_mono (turn _ b hlt hI) (fun r s₂ hr => ?_) fun _ _ x => x
    obtain ⟨rfl, b', rfl, hI'⟩ := hr
    exact ⟨rfl, x + 1, hlt, by rw [e2]; congr 1; omega, hI'⟩
  · rintro b s' ⟨rfl, i, hi, e, hI⟩
    have : n - i = 0 := by have := congrArg List.length e; simpa using this.symm
    have e3 : i = n := by omega
    subst e3
    exact hQ b hI
theorem wp_joinLetGo {M : Model} {A : Around} {E : Value → Shared → Prop} {s : Shared} {Q : Unit → Shared → Prop} {keep : List Value} (h : Q () s) : ∀ taken : List (Value × Option Value), (∀ p ∈ taken, p.2 = none) → wpAny M A (joinLetGo taken keep) Q E s
  | [], _ => wpAny_pure h
  | (x, w) :: rest, hn => by
    have : w = none := hn (x, w) (.head _)
    subst this
    unfold joinLetGo
    refine wpAny_bind (m := letGo [x] _) ?_
    unfold letGo
    refine wpAny_bind (wpAny_holding (wpAny_point ?_))
    refine wpAny_pure ?_
    exact wp_joinLetGo h rest fun p hp => hn p (.tail _ hp)
/-- bytes laid end to end -/
def cat (bs : List (Array UInt8)) : Array UInt8 := ((bs.map (·.toList)).flatten).toArray
theorem joined_nil (l : List (Array UInt8)) : joined #[] l = cat l := by
  have key : ∀ (l : List (Array UInt8)) (k : Nat) (acc : Array UInt8), (l.zipIdx k).foldl (fun out (x : Array UInt8 × Nat) => (if x.2 > 0 then out ++ #[] else out) ++ x.1) acc = acc ++ cat l := by
    intro l
    induction l with
    | nil => intro k acc; simp [cat]
    | cons a l ih =>
      intro k acc
      rw [List.zipIdx_cons, List.foldl_cons, ih]
      apply Array.toList_inj.mp
      simp [cat]
  have := key l 0 #[]
  unfold joined
  simpa using this
theorem sizes_eq : ∀ (l : List (Array UInt8)) (k : Nat), l.foldl (fun x y => x + y.size) k = k + (cat l).size
  | [], k => by simp [cat]
  | a :: l, k => by
    rw [List.foldl_cons, sizes_eq l]
    simp [cat]
    omega
/-- b''.join of a list of bytes -/
theorem meets_join (vs : List Value) (bs : List (Array UInt8)) (a : Addr) (t : Tok) (hv : BytesAre vs bs) (hz : (cat bs).size ≤ 100000) :
    Meets («bytes.join» ⟨[.bytes #[] t, .ref a], []⟩) (fun _ R s => s.heap.IsList a vs.toArray ∧ ∀ t' k, R (.ok (.ret (.bytes (cat bs) t'))) { s with toks := k }) := by
  refine .of_wp fun prog w A R s hS => ?_
  obtain ⟨⟨o, ho, hc, n, hd⟩, hS⟩ := hS
  show wpAny _ _ (joinItems (.ref a) >>= fun r => _) _ _ s
  have hj : wpAny (model prog w) A.in1 (joinItems (.ref a)) (fun v s' => v = .ref a ∧ s' = s) (fun e s' => R (.error e) s') s := by
    unfold joinItems
    refine wpAny_bind (wpAny_typeOf (T := "list") ⟨o, ho, hc⟩ ?_)
    exact wpAny_pure ⟨rfl, rfl⟩
  refine wpAny_bind (wpAny_mono hj (fun v s' h => ?_) fun _ _ x => x)
  obtain ⟨rfl, rfl⟩ := h
  show wpAny _ _ (seqItems? (.ref a) >>= fun r => _) _ _ s'
  refine wpAny_bind (wpAny_seqItems ho hd ?_)
  have hv0 := hv
  cases hv with
  | nil =>
    show wpAny _ _ (forIn [:0] (#[], []) _ >>= fun r => _) _ _ s'
    refine wpAny_bind (wp_range (fun _ r => r = (#[], [])) (fun i b hi => absurd hi (Nat.not_lt_zero _)) rfl ?_)
    rintro b rfl
    refine wpAny_bind (m := payload _) (wpAny_pure ?_)
    show wpAny _ _ (mkBytes (joined #[] []) >>= fun r => _) _ _ s'
    rw [joined_nil]
    refine wpAny_bind (wp_mkBytes (by omega) ?_)
    refine wpAny_bind (wpAny_holding (wpAny_point ?_))
    refine wpAny_bind (wp_joinLetGo ?_ _ (fun _ h => nomatch h))
    exact wpAny_pure ⟨_, rfl, hS _ _⟩
  | cons b t hv =>
    cases hv with
    | nil =>
      show wpAny _ _ (typeOf (.bytes b t) >>= fun r => _) _ _ s'
      refine wpAny_bind (wpAny_typeOf (typeIs_bytes _ _ _) ?_)
      show wpAny _ _ (rule _ >>= fun r => _) _ _ s'
      refine wpAny_bind (wpAny_rule ?_)
      refine wpAny_pure ⟨_, rfl, ?_⟩
      have e : cat [b] = b := by simp [cat]
      rw [e] at hS
      exact hS t s'.toks
    | cons b' t' hv =>
      rename_i vs bs
      show wpAny _ _ (forIn [:(Value.bytes b t :: Value.bytes b' t' :: vs).toArray.size] (#[], []) _ >>= fun r => _) _ _ s'
      have hlen := hv0.length
      refine wpAny_bind (wp_range (fun i r => r.1 = ((b :: b' :: bs).take i).toArray ∧ ∀ p ∈ r.2, p.2 = none ∧ p.1.onHeap = false) ?_ ⟨rfl, fun _ h => nomatch h⟩ ?_)
      · rintro i ⟨ps, tk⟩ hi ⟨h1, h2⟩
        dsimp only at h1 h2
        refine wpAny_bind (wpAny_seqItems ho hd ?_)
        obtain ⟨c, hc'⟩ : ∃ c, (b :: b' :: bs)[i]? = some c := ⟨_, List.getElem?_eq_getElem (by rw [List.size_toArray, hlen] at hi; exact hi)⟩
        obtain ⟨tt, hx⟩ := hv0.get i c hc'
        have hx' : (Value.bytes b t :: Value.bytes b' t' :: vs).toArray.getD i Value.none = .bytes c tt := by
          rw [Array.getD_eq_getD_getElem?, List.getElem?_toArray, hx]; rfl
        show wpAny _ _ (if (Kind.bytes == Kind.bytearray || tk.any fun x => x.1.onHeap) = true then _ else _) _ _ s'
        have hno : (tk.any fun x => x.1.onHeap) = false := List.any_eq_false.mpr fun p hp => by rw [(h2 p hp).2]; exact Bool.false_ne_true
        rw [if_neg (by rw [hno]; exact Bool.false_ne_true)]
        show wpAny _ _ (holding _ (takeBufferQuiet? _ ((Value.bytes b t :: Value.bytes b' t' :: vs).toArray.getD i Value.none) 0) >>= fun r => _) _ _ s'
        rw [hx', take_eq]
        refine wpAny_bind (wpAny_holding (wpAny_pure ?_))
        show wpAny _ _ (seqItems? (.ref a) >>= fun r => _) _ _ s'
        refine wpAny_bind (wpAny_seqItems ho hd ?_)
        show wpAny _ _ (if (_ != _) = true then _ else _) _ _ s'
        rw [if_neg (by simp)]
        refine wpAny_pure ⟨rfl, _, rfl, ?_, ?_⟩
        · show ps.push c = _
          rw [h1, List.push_toArray, List.take_add_one, hc']
          rfl
        · intro p hp
          rcases List.mem_append.mp hp with h | h
          · exact h2 p h
          · rw [List.mem_singleton.mp h]
            exact ⟨rfl, rfl⟩
      · rintro ⟨ps, tk⟩ ⟨h1, h2⟩
        dsimp only at h1 h2
        have e3 : (b :: b' :: bs).take (Value.bytes b t :: Value.bytes b' t' :: vs).toArray.size = b :: b' :: bs := by
          rw [List.size_toArray, hlen, List.take_length]
        rw [e3] at h1
        subst h1
        refine wpAny_bind (m := payload _) (wpAny_pure ?_)
        show wpAny _ _ (if tooLong (Array.foldl (fun x1 x2 => x1 + x2.size) (0 * _) (b :: b' :: bs).toArray) = true then _ else _) _ _ s'
        have e4 : Array.foldl (fun (x1 : Nat) (x2 : Array UInt8) => x1 + x2.size) (0 * ((b :: b' :: bs).toArray.size - 1)) (b :: b' :: bs).toArray = (cat (b :: b' :: bs)).size := by
          rw [List.foldl_toArray, sizes_eq]
          omega
        rw [e4, if_neg (by rw [KBy.tooLong_not (by omega)]; exact Bool.false_ne_true)]
        show wpAny _ _ (mkBytes (joined #[] (b :: b' :: bs)) >>= fun r => _) _ _ s'
        rw [joined_nil]
        refine wpAny_bind (wp_mkBytes (by omega) ?_)
        refine wpAny_bind (wpAny_holding (wpAny_point ?_))
        refine wpAny_bind (wp_joinLetGo ?_ _ (fun p h => (h2 p h).1))
        exact wpAny_pure ⟨_, rfl, hS _ _⟩
theorem join_by {prog : Program} {w : World} {A : Around} {E : Value → Shared → Prop} {s : Shared} {vs : List Value} {bs : List (Array UInt8)} {a : Addr} {t : Tok} {Q : Value → Shared → Prop} (hl : s.heap.IsList a vs.toArray) (hv : BytesAre vs bs) (hz : (cat bs).size ≤ 100000)
    (h : ∀ t' k, Q (.bytes (cat bs) t') { s with toks := k }) : wpAny (model prog w) A (call (.builtin "bytes.join") [.bytes #[] t, .ref a]) Q E s :=
  call_meets slot_join (typeIs_bytes _ _ _) entry_join (args_join _ _) (meets_join vs bs a t hv hz) ⟨hl, h⟩
end
end

/-! ### T3 -/
section
theorem top_off_T3 : True := by
  w_top off
  trivial

local macro_rules | `(tactic| walk_at "call type:type") => `(tactic| ((with_reducible show wpAny _ _ (call _ [Value.bytes _ _]) _ _ _); refine call_type_of (Tx := "bytes") rfl (by decide +kernel) ?_))
section
open PySem.Builtin PySem.Builtin.Bytes
theorem joined_snoc (sep : Array UInt8) (ps : List (Array UInt8)) (p : Array UInt8) : joined sep (ps ++ [p]) = (if ps = [] then #[] else joined sep ps ++ sep) ++ p := by
  unfold joined
  rw [List.zipIdx_append, List.foldl_append]
  cases ps with
  | nil => simp
  | cons a ps => simp
def occStep (b : Array UInt8) (x : UInt8) (acc : List Nat × Nat) (i : Nat) : List Nat × Nat :=
  if acc.2 ≤ i ∧ b.extract i (i + 1) = #[x] then (i :: acc.1, i + 1) else acc
def btwStep (b : Array UInt8) (acc : Array (Array UInt8) × Nat) (p : Nat) : Array (Array UInt8) × Nat := (acc.1.push (b.extract acc.2 p), p + 1)
/-- the places up to k, cut up and joined anew -/
theorem repl_inv (b : Array UInt8) (x y : UInt8) : ∀ k, k ≤ b.size →
    ((List.range k).foldl (occStep b x) ([], 0)).2 ≤ k ∧
    (let bt := ((List.range k).foldl (occStep b x) ([], 0)).1.reverse.foldl (btwStep b) (#[], 0)
     bt.2 ≤ k ∧ (bt.1 = #[] → bt.2 = 0) ∧ joined #[y] (bt.1.toList ++ [b.extract bt.2 k]) = (b.extract 0 k).map (fun c => if c = x then y else c)) := by
  intro k
  induction k with
  | zero => intro _; refine ⟨Nat.le_refl _, ?_⟩; simp [joined]
  | succ k ih =>
    intro hk
    have hk' : k < b.size := hk
    obtain ⟨i1, i2, i3, i4⟩ := ih (by omega)
    rw [List.range_succ, List.foldl_append]
    generalize hO : (List.range k).foldl (occStep b x) ([], 0) = O at *
    generalize hB : O.1.reverse.foldl (btwStep b) (#[], 0) = B at *
    have e1 : b.extract k (k + 1) = #[b[k]] := by
      apply Array.toList_inj.mp
      simp [List.take_one, hk']
    have e2 : ∀ j, j ≤ k → b.extract j (k + 1) = (b.extract j k).push b[k] := by
      intro j hj
      have h1 := Array.extract_append_extract (as := b) (i := j) (j := k) (k := k + 1)
      have h3 : min j k = j := by omega
      have h2 : max k (k + 1) = k + 1 := by omega
      rw [h3, h2, e1] at h1
      rw [← h1]
      simp
    by_cases hx : b[k] = x
    · have hs : occStep b x O k = (k :: O.1, k + 1) := by
        unfold occStep
        rw [e1, hx]
        simp [i1]
      rw [List.foldl_cons, List.foldl_nil, hs]
      refine ⟨Nat.le_refl _, ?_⟩
      show (let bt := (k :: O.1).reverse.foldl (btwStep b) (#[], 0); _)
      rw [List.reverse_cons, List.foldl_append, hB]
      refine ⟨Nat.le_refl _, ?_, ?_⟩
      · intro h; simp [btwStep] at h
      · show joined #[y] ((B.1.push (b.extract B.2 k)).toList ++ [b.extract (k + 1) (k + 1)]) = _
        rw [joined_snoc, Array.toList_push, i4, e2 0 (Nat.zero_le _)]
        simp [hx]
        omega
    · have hs : occStep b x O k = O := by
        unfold occStep
        rw [e1]
        rw [if_neg]
        simp [hx]
      rw [List.foldl_cons, List.foldl_nil, hs]
      refine ⟨by omega, ?_⟩
      show (let bt := O.1.reverse.foldl (btwStep b) (#[], 0); _)
      rw [hB]
      refine ⟨by omega, i3, ?_⟩
      rw [joined_snoc] at i4 ⊢
      rw [e2 _ i2, e2 0 (Nat.zero_le _), Array.map_push, ← i4, if_neg hx]
      simp
theorem repl_eq (b : Array UInt8) (x y : UInt8) : joined #[y] (between b 1 (occurrences b #[x] 0 b.size)) = b.map (fun c => if c = x then y else c) := by
  have h := (repl_inv b x y b.size (Nat.le_refl _)).2
  have e : occurrences b #[x] 0 b.size = ((List.range b.size).foldl (occStep b x) ([], 0)).1.reverse := by
    unfold occurrences
    have : b.size + 1 - (0 + (#[x] : Array UInt8).size) = b.size := by simp
    rw [this]
    simp
    rfl
  rw [e]
  have e2 : between b 1 ((List.range b.size).foldl (occStep b x) ([], 0)).1.reverse = (((List.range b.size).foldl (occStep b x) ([], 0)).1.reverse.foldl (btwStep b) (#[], 0)).1.toList ++ [b.extract (((List.range b.size).foldl (occStep b x) ([], 0)).1.reverse.foldl (btwStep b) (#[], 0)).2 b.size] := by
    unfold between
    rw [← Array.toList_push]
    rfl
  rw [e2, h.2.2]
  simp
theorem repl_none (b : Array UInt8) (x y : UInt8) (h : occurrences b #[x] 0 b.size = []) : b.map (fun c => if c = x then y else c) = b := by
  rw [← repl_eq b x y, h]
  unfold between joined
  simp
theorem occ_len (b : Array UInt8) (x : UInt8) : (occurrences b #[x] 0 b.size).length ≤ b.size := by
  have key : ∀ (l : List Nat) (acc : List Nat × Nat), (l.foldl (occStep b x) acc).1.length ≤ acc.1.length + l.length := by
    intro l
    induction l with
    | nil => intro acc; simp
    | cons a l ih =>
      intro acc
      rw [List.foldl_cons]
      refine Nat.le_trans (ih _) ?_
      unfold occStep
      split <;> simp <;> omega
  have e : occurrences b #[x] 0 b.size = ((List.range b.size).foldl (occStep b x) ([], 0)).1.reverse := by
    unfold occurrences
    have : b.size + 1 - (0 + (#[x] : Array UInt8).size) = b.size := by simp
    rw [this]
    simp
    rfl
  rw [e, List.length_reverse]
  simpa using key (List.range b.size) ([], 0)
theorem meets_replace (b : Array UInt8) (x y : UInt8) (t t1 t2 : Tok) (hb : b.size ≤ 100000) :
    Meets («bytes.replace» ⟨[.bytes b t, .bytes #[x] t1, .bytes #[y] t2], []⟩) (fun _ R s => ∀ t' k, R (.ok (.ret (.bytes (b.map fun c => if c = x then y else c) t'))) { s with toks := k }) := by
  refine .of_wp fun prog w A R s hS => ?_
  unfold «bytes.replace» replaceM
  simp [KBd.like_eq, payload_eq, same_eq, new_eq, selfAndSome, checkCount, noKeywords]
  split
  · rename_i h
    rw [repl_none b x y h] at hS
    exact wpAny_bind (wpAny_rule (wpAny_pure ⟨_, rfl, hS _ _⟩))
  · have := occ_len b x
    rw [if_neg (by rw [KBy.tooLong_not (by omega)]; exact Bool.false_ne_true), repl_eq]
    exact wpAny_bind (wp_mkBytes (by simp; omega) (wpAny_pure ⟨_, rfl, hS _ _⟩))
theorem replace_by {prog : Program} {w : World} {A : Around} {E : Value → Shared → Prop} {s : Shared} {b : Array UInt8} {x y : UInt8} {t t1 t2 : Tok} {Q : Value → Shared → Prop} (hb : b.size ≤ 100000)
    (h : ∀ t' k, Q (.bytes (b.map fun c => if c = x then y else c) t') { s with toks := k }) : wpAny (model prog w) A (call (.builtin "bytes.replace") [.bytes b t, .bytes #[x] t1, .bytes #[y] t2]) Q E s :=
  call_meets slot_replace (typeIs_bytes _ _ _) entry_replace (args_replace _ _ _) (meets_replace b x y t t1 t2 hb) h
end
end

/-! ### W1 -/
section
theorem top_off_W1 : True := by
  w_top off
  trivial

local macro_rules | `(tactic| walk_at "call type:type") => `(tactic| ((with_reducible show wpAny _ _ (call _ [Value.bytes _ _]) _ _ _); refine call_type_of (Tx := "bytes") rfl (by decide +kernel) ?_))
theorem c_truth {w : World} {d u : Nat} {fr : Option (List Env)} {gs : Option (List Code)} {s : Shared} {mg mb : Str → Option Value} {mean : ExcName → Option Value} {p : Program} {loose : List Str} {b : Bool} :
   (hd.heap_39 w.params).In s.heap → Top p loose mean mg mb s.heap → Room d u 1 → 
   codeAny (model Challenge.rw_ki0009_01.row.prog w) (Ar d fr gs u) (.call (.ref 35) ⟨[.bool b], []⟩) (Ret s fun v _ => v = .bool b) s := by
  k_fill
  intro X T hA
  refine' enter_def X T ?ho ?hcd ?hroom ?hb ?hl ?_ ?a1 ?a2 ?a3 ?a4
  case ho => k_is
  case hcd => k_is
  case hroom => exact hA.lt
  case hb => exact BindsTo.of_eq rfl
  case hl => exact locs rfl
  case a1 => exact rfl
  case a2 => exact rfl
  case a3 => exact rfl
  case a4 => decide
  intro L h₁ hL F N
  (try dsimp only)
  k_steps
  all_goals (refine ret_of (by assumption) ?_)
  · simp [*]
  · simp [*]
theorem c_buffer {w : World} {d u : Nat} {fr : Option (List Env)} {gs : Option (List Code)} {s : Shared} {mg mb : Str → Option Value} {mean : ExcName → Option Value} {p : Program} {loose : List Str} {b : Array UInt8} {t : Tok} :
   (hd.heap_39 w.params).In s.heap → Top p loose mean mg mb s.heap → Room d u 1 → 
   codeAny (model Challenge.rw_ki0009_01.row.prog w) (Ar d fr gs u) (.call (.ref 28) ⟨[.bytes b t], []⟩) (Ret s fun v _ => v = .bytes b t) s := by
  k_fill
  intro X T hA
  refine' enter_def X T ?ho ?hcd ?hroom ?hb ?hl ?_ ?a1 ?a2 ?a3 ?a4
  case ho => k_is
  case hcd => k_is
  case hroom => exact hA.lt
  case hb => exact BindsTo.of_eq rfl
  case hl => exact locs rfl
  case a1 => exact rfl
  case a2 => exact rfl
  case a3 => exact rfl
  case a4 => decide
  intro L h₁ hL F N
  (try dsimp only)
  k_steps
  exact ret_of (by assumption) rfl
end

/-! ### W2 -/
section
theorem top_off_W2 : True := by
  w_top off
  trivial

local macro_rules | `(tactic| walk_at "call type:type") => `(tactic| ((with_reducible show wpAny _ _ (call _ [Value.bytes _ _]) _ _ _); refine call_type_of (Tx := "bytes") rfl (by decide +kernel) ?_))

/-- the state of the encoder's loop -/
structure SE where
  lc : Int
  lb : Int
  t1 : Tok
  t2 : Tok
  ep : Nat
  vs : List Value
  outs : List Int
  hi : IntsAre vs outs
def InvE (pre : List Int) (c : SE) : Prop :=
  ∃ (q : List Nat) (lcn lbn : Nat) (on : List Nat), pre = q.map (fun n : Nat => (n : Int)) ∧ c.lc = (lcn : Int) ∧ c.lb = (lbn : Int) ∧ c.outs = on.map (fun n : Nat => (n : Int)) ∧ Left q lcn lbn on ∧ lcn < 65536
theorem c_b2a {w : World} {d u : Nat} {fr : Option (List Env)} {gs : Option (List Code)} {s : Shared} {mg mb : Str → Option Value} {mean : ExcName → Option Value} {p : Program} {loose : List Str} {b : Array UInt8} {t : Tok} :
   (hd.heap_39 w.params).In s.heap → Top p loose mean mg mb s.heap → Room d u 2 → b.size ≤ 1000 →
   codeAny (model Challenge.rw_ki0009_01.row.prog w) (Ar d fr gs u) (.call (.ref 43) ⟨[.bytes b t], [(Str.ofString "newline", .bool false)]⟩) (Ret s fun v _ => ∃ t', v = .bytes ((enc64 (b.toList.map (·.toNat))).map (·.toUInt8)).toArray t') s := by
  k_fill
  intro X T hA hbs
  refine' enter_def (binds := [(Str.ofString "data", .bytes b t), (Str.ofString "newline", .bool false)]) X T ?ho ?hcd ?hroom ?hb ?hl ?_ ?a1 ?a2 ?a3 ?a4
  case ho => k_is
  case hcd => k_is
  case hroom => exact hA.lt
  case hb => first | exact BindsTo.of_eq rfl | exact binds_K (by k_in) rfl (by k_is) rfl rfl rfl 
  case hl => exact locs rfl
  case a1 => exact rfl
  case a2 => exact rfl
  case a3 => exact rfl
  case a4 => decide
  intro L h₁ hL F N
  (try dsimp only)
  k_with "call ref" => (refine call_by (by assumption) (by assumption) (c_buffer (by k_in) (Top.keeps (by assumption) (Fr.keep (by assumption))) (by exact hA.deeper)) ?_; intro v' h' t' e' F' N' k'; subst e')
  k_with "call ref" => (refine call_by (by assumption) (by assumption) (c_truth (by k_in) (Top.keeps (by assumption) (Fr.keep (by assumption))) (by exact hA.deeper)) ?_; intro v' h' t' e' F' N' k'; subst e')
  k_steps
  rename_i l9 _ _ _ _ _ F9 N9
  refine' KStb.kst_bytes (σ := SE) (fun c => [(l9, listOf c.vs.toArray c.ep)]) (fun c => [(Str.ofString "leftchar", .int c.lc c.t1), (Str.ofString "leftbits", .int c.lb c.t2)]) (fun _ => True) [] InvE ⟨0, 0, tk + 1 + 1, tk, 0, [], [], .nil⟩ rfl rfl rfl F9 N9 trivial ?_ ?_ ?_ ?_
  · intro p hp
    rcases List.mem_cons.mp hp with rfl | hp
    · rfl
    · rcases List.mem_cons.mp hp with rfl | hp
      · rfl
      · cases hp
  · exact ⟨[], 0, 0, [], rfl, rfl, rfl, rfl, .zero rfl, by decide⟩
  · intro c pre post n t9 u9 h9 tk9 own e9 hlt h0 h1 hoff _ hP F N
    obtain ⟨q, lcn, lbn, on, e1, e2, e3, e4, hL9, hlc⟩ := hP
    clear F9 N9
    obtain ⟨lc, lb, t1, t2, ep, vs, outs, hi⟩ := c
    obtain ⟨a, rfl⟩ := Int.eq_ofNat_of_zero_le h0
    have ha : a < 256 := by omega
    dsimp only at *
    subst e1 e2 e3 
    have hown : ∀ p ∈ own, p.1 ≠ l9 := hoff.ne (.head _)
    have hz1 : vs.length ≤ 2000 := by
      have h1 := hi.length
      have h2 := hL9.len
      rw [e4, List.length_map] at h1
      rw [List.length_map, KBw.ints_length] at hlt
      omega
    k_with "subscriptTail" => (refine' b64_item ?hij ?hj ?_ ?hs ?ht; (case hij => exact idx_step (lc := lcn) (a := a) rfl ha); (case hj => exact Nat.mod_lt _ (by decide)); (case hs => with_unfolding_all rfl); (case ht => intro _; with_unfolding_all rfl))
    k_with "call builtin:list.append" => (refine append_L (by assumption) (by assumption) (by assumption) (by (try simp only [List.length_append, List.length_cons, List.length_nil]); omega) ?_; intro h' F' N')
    cases hL9 with
    | zero =>
      rename_i hq
      k_steps
      rename_i F2 N2
      simp only [List.push_toArray, List.append_assoc, List.cons_append, List.nil_append] at N2
      refine' kst_end (σ := SE) ⟨?a1z, ?a2z, ?a3z, ?a4z, ?a5z, vs ++ [?v0z], outs ++ [?o0z], ?a8z⟩ F2 N2 ?g1z ?g2z ?g3z trivial ?g4z ?g5z ?g6z
      case g1z =>
        intro p hp
        rw [List.mem_singleton.mp hp]
        exact .head _
      case g3z => rfl
      case a8z => exact IntsAre.snoc hi
      case g2z =>
        intro p hp
        exact .tail _ hp
      case g4z =>
        intro p hp
        rcases List.mem_cons.mp hp with rfl | hp
        · rfl
        · rcases List.mem_cons.mp hp with rfl | hp
          · rfl
          · cases hp
      case g5z =>
        intro z hz h2 _
        have a1 := h2 _ (.head _)
        have a2 := h2 _ (.tail _ (.head _))
        simp only [kstB, hz, a1, a2, if_false, List.contains_nil, Bool.false_eq_true]
      case g6z => exact ⟨q ++ [a], _, 2, (sx q).map sg ++ [_], by simp, lc_step ha, rfl, (by show outs ++ [_] = List.map _ ((sx q).map sg ++ [_]); rw [e4]; simp), inv_zero hq, by omega⟩
    | one =>
      rename_i q aa hq hb9
      k_steps
      rename_i F2 N2
      simp only [List.push_toArray, List.append_assoc, List.cons_append, List.nil_append] at N2
      refine' kst_end (σ := SE) ⟨?a1o, ?a2o, ?a3o, ?a4o, ?a5o, vs ++ [?v0o], outs ++ [?o0o], ?a8o⟩ F2 N2 ?g1o ?g2o ?g3o trivial ?g4o ?g5o ?g6o
      case g1o =>
        intro p hp
        rw [List.mem_singleton.mp hp]
        exact .head _
      case g3o => rfl
      case a8o => exact IntsAre.snoc hi
      case g2o =>
        intro p hp
        exact .tail _ hp
      case g4o =>
        intro p hp
        rcases List.mem_cons.mp hp with rfl | hp
        · rfl
        · rcases List.mem_cons.mp hp with rfl | hp
          · rfl
          · cases hp
      case g5o =>
        intro z hz h2 _
        have a1 := h2 _ (.head _)
        have a2 := h2 _ (.tail _ (.head _))
        simp only [kstB, hz, a1, a2, if_false, List.contains_nil, Bool.false_eq_true]
      case g6o => exact ⟨q ++ [aa] ++ [a], _, 4, (sx q).map sg ++ [sg (aa / 4)] ++ [_], by simp, lc_step ha, rfl, (by show outs ++ [_] = List.map _ ((sx q).map sg ++ [sg (aa / 4)] ++ [_]); rw [e4]; simp), inv_one hq hb9, by omega⟩
    | two =>
      rename_i q aa bb hq hb9
      k_steps
      rename_i F2 N2
      simp only [List.push_toArray, List.append_assoc, List.cons_append, List.nil_append] at N2
      refine' kst_end (σ := SE) ⟨?a1t, ?a2t, ?a3t, ?a4t, ?a5t, vs ++ [?v0t, ?v1t], outs ++ [?o0t, ?o1t], ?a8t⟩ F2 N2 ?g1t ?g2t ?g3t trivial ?g4t ?g5t ?g6t
      case g1t =>
        intro p hp
        rw [List.mem_singleton.mp hp]
        exact .head _
      case g3t => rfl
      case a8t => exact (by simpa using IntsAre.snoc (IntsAre.snoc hi))
      case g2t =>
        intro p hp
        exact .tail _ hp
      case g4t =>
        intro p hp
        rcases List.mem_cons.mp hp with rfl | hp
        · rfl
        · rcases List.mem_cons.mp hp with rfl | hp
          · rfl
          · cases hp
      case g5t =>
        intro z hz h2 _
        have a1 := h2 _ (.head _)
        have a2 := h2 _ (.tail _ (.head _))
        simp only [kstB, hz, a1, a2, if_false, List.contains_nil, Bool.false_eq_true]
      case g6t => exact ⟨q ++ [aa, bb] ++ [a], _, 0, (sx q).map sg ++ [sg (aa / 4), sg (aa % 4 * 16 + bb / 16)] ++ [_, _], by simp, lc_step ha, rfl, (by show outs ++ [_, _] = List.map _ ((sx q).map sg ++ [sg (aa / 4), sg (aa % 4 * 16 + bb / 16)] ++ [_, _]); rw [e4]; simp), inv_two hq hb9, by omega⟩
  · intro c u9 h9 tk9 _ _ hP F N
    clear F9 N9
    obtain ⟨q, lcn, lbn, on, e1, e2, e3, e4, hL9, hlc⟩ := hP
    obtain ⟨lc, lb, t1, t2, ep, vs, outs, hi⟩ := c
    dsimp only at *
    subst e2 e3
    have hz1 : vs.length ≤ 2000 := by
      have h1 := hi.length
      have h2 := hL9.len
      have h3 := congrArg List.length e1
      rw [e4, List.length_map] at h1
      rw [List.length_map, KBw.ints_length] at h3
      omega
    k_with "subscriptTail" => (refine' b64_item ?hij ?hj ?_ ?hs ?ht; (case hij => first | exact idx_end2 | exact idx_end4); (case hj => omega); (case hs => with_unfolding_all rfl); (case ht => intro _; with_unfolding_all rfl))
    have eb : q = b.toList.map (·.toNat) := by
      have h4 : (b.toList.map (·.toNat)).map (fun n : Nat => (n : Int)) = q.map (fun n : Nat => (n : Int)) := by rw [← e1]; simp [KBw.bInts]
      exact (nat_inj h4).symm
    k_with "binaryOp LShift int int" => (refine lshift_int_small (by decide) (by decide) (by first | (rw [bitAnd_m2]; omega) | (rw [bitAnd_m4]; omega)) ?_)
    cases hL9 with
    | zero => 
      rename_i hq
      k_steps
      refine make_nat (l := enc64 (b.toList.map (·.toNat))) (by assumption) (by assumption) rfl ?_ enc64_lt (by have := enc64_len_le (b.toList.map (·.toNat)); have h5 : b.toList.length = b.size := (by simp); rw [List.length_map] at this; omega) ?_
      · rw [← eb, ← fin_zero hq]
        rw [← e4]; exact hi
      · intro h8 t8 k8 F8 N8
        exact ret_of F8 ⟨_, rfl⟩
    | one => 
      rename_i q aa hq hb9
      k_steps
      refine make_nat (l := enc64 (b.toList.map (·.toNat))) (by assumption) (by assumption) rfl ?_ enc64_lt (by have := enc64_len_le (b.toList.map (·.toNat)); have h5 : b.toList.length = b.size := (by simp); rw [List.length_map] at this; omega) ?_
      · rw [← eb, ← fin_one (lc := lcn) hq hb9]
        rw [List.map_append, ← e4]; simpa using IntsAre.snoc (IntsAre.snoc (IntsAre.snoc hi))
      · intro h8 t8 k8 F8 N8
        exact ret_of F8 ⟨_, rfl⟩
    | two => 
      rename_i q aa bb hq hb9
      k_steps
      refine make_nat (l := enc64 (b.toList.map (·.toNat))) (by assumption) (by assumption) rfl ?_ enc64_lt (by have := enc64_len_le (b.toList.map (·.toNat)); have h5 : b.toList.length = b.size := (by simp); rw [List.length_map] at this; omega) ?_
      · rw [← eb, ← fin_two (lc := lcn) hq hb9]
        rw [List.map_append, ← e4]; simpa using IntsAre.snoc (IntsAre.snoc hi)
      · intro h8 t8 k8 F8 N8
        exact ret_of F8 ⟨_, rfl⟩
end

/-! ### W3 -/
section
theorem top_off_W3 : True := by
  w_top off
  trivial

local macro_rules | `(tactic| walk_at "call type:type") => `(tactic| ((with_reducible show wpAny _ _ (call _ [Value.bytes _ _]) _ _ _); refine call_type_of (Tx := "bytes") rfl (by decide +kernel) ?_))
local macro_rules | `(tactic| walk_at "getMethod bytes") => `(tactic| (first | with_reducible refine m_translate ?_ | with_reducible refine m_upper ?_ | with_reducible refine m_hex ?_ | with_reducible refine m_replace ?_ | with_reducible refine m_join ?_))
local macro_rules | `(tactic| walk_at "getMethod str") => `(tactic| (with_reducible refine m_encode ?_))
local macro_rules | `(tactic| walk_at "eval DictComp") => `(tactic| k_extra "my DictComp")
local macro_rules | `(tactic| walk_at "eval ListComp") => `(tactic| k_extra "my ListComp")
local macro_rules | `(tactic| walk_at "eval Name") => `(tactic| k_extra "my Name")
local macro_rules | `(tactic| walk_at "pyIter ref") => `(tactic| k_extra "my pyIter")
local macro_rules | `(tactic| walk_at "subscriptTail Name Slice ref ref") => `(tactic| k_extra "my slice")
theorem c_b64 {w : World} {d u : Nat} {fr : Option (List Env)} {gs : Option (List Code)} {s : Shared} {mg mb : Str → Option Value} {mean : ExcName → Option Value} {p : Program} {loose : List Str} {b : Array UInt8} {t : Tok} :
   (hd.heap_39 w.params).In s.heap → Top p loose mean mg mb s.heap → Room d u 3 → b.size ≤ 1000 →
   codeAny (model Challenge.rw_ki0009_01.row.prog w) (Ar d fr gs u) (.call (.ref 60) ⟨[.bytes b t], []⟩) (Ret s (fun v _ => ∃ t', v = .bytes ((enc64 (b.toList.map (·.toNat))).map (·.toUInt8)).toArray t')) s := by
  k_fill
  k_with_none
  intro X T hA hbs
  refine' enter_def (binds := [(Str.ofString "s", .bytes b t), (Str.ofString "altchars", .none)]) X T ?ho ?hcd ?hroom ?hb ?hl ?_ ?a1 ?a2 ?a3 ?a4
  case ho => k_is
  case hcd => k_is
  case hroom => exact hA.lt
  case hb => first | exact BindsTo.of_eq rfl | exact binds_K (by k_in) rfl (by k_is) rfl rfl rfl
  case hl => exact locs rfl
  case a1 => exact rfl
  case a2 => exact rfl
  case a3 => exact rfl
  case a4 => decide
  intro L h₁ hL F N
  (try dsimp only)
  k_with "call ref" => (refine call_by (by assumption) (by assumption) (c_b2a (by k_in) (Top.keeps (by assumption) (Fr.keep (by assumption))) (by exact hA.deeper.mono (by decide)) hbs) ?_; intro v' h' t' e' F' N' k'; obtain ⟨t9, rfl⟩ := e')
  k_steps
  exact ret_of (by assumption) ⟨_, rfl⟩
theorem c_std64 {w : World} {d u : Nat} {fr : Option (List Env)} {gs : Option (List Code)} {s : Shared} {mg mb : Str → Option Value} {mean : ExcName → Option Value} {p : Program} {loose : List Str} {b : Array UInt8} {t : Tok} :
   (hd.heap_39 w.params).In s.heap → Top p loose mean mg mb s.heap → Room d u 4 → b.size ≤ 1000 →
   codeAny (model Challenge.rw_ki0009_01.row.prog w) (Ar d fr gs u) (.call (.ref 67) ⟨[.bytes b t], []⟩) (Ret s (fun v _ => ∃ t', v = .bytes ((enc64 (b.toList.map (·.toNat))).map (·.toUInt8)).toArray t')) s := by
  k_fill
  k_with_none
  intro X T hA hbs
  refine' enter_def (binds := [(Str.ofString "s", .bytes b t)]) X T ?ho ?hcd ?hroom ?hb ?hl ?_ ?a1 ?a2 ?a3 ?a4
  case ho => k_is
  case hcd => k_is
  case hroom => exact hA.lt
  case hb => first | exact BindsTo.of_eq rfl | exact binds_K (by k_in) rfl (by k_is) rfl rfl rfl
  case hl => exact locs rfl
  case a1 => exact rfl
  case a2 => exact rfl
  case a3 => exact rfl
  case a4 => decide
  intro L h₁ hL F N
  (try dsimp only)
  k_with "call ref" => (refine call_by (by assumption) (by assumption) (c_b64 (by k_in) (Top.keeps (by assumption) (Fr.keep (by assumption))) (by exact hA.deeper.mono (by decide)) hbs) ?_; intro v' h' t' e' F' N' k'; obtain ⟨t9, rfl⟩ := e')
  k_steps
  exact ret_of (by assumption) ⟨_, rfl⟩

/-- a place's sign in base 16 -/
def hs (n : Nat) : Nat := if n < 10 then 48 + n else 55 + n
def enc16 (l : List Nat) : List Nat := l.flatMap fun c => [hs (c / 16), hs (c % 16)]
theorem up_digit : ∀ n : Fin 16, Builtin.Bytes.toUpper (Builtin.Bytes.hexDigit n.val).toUInt8 = (hs n.val).toUInt8 := by decide +kernel
theorem hxs_up : ∀ l : List Nat, (∀ c ∈ l, c < 256) → ((hxs l).map (·.toUInt8)).map Builtin.Bytes.toUpper = (enc16 l).map (·.toUInt8)
  | [], _ => rfl
  | c :: l, h => by
    have h1 := h c (.head _)
    have h2 := hxs_up l fun x hx => h x (.tail _ hx)
    have e1 := up_digit ⟨c / 16, by omega⟩
    have e2 := up_digit ⟨c % 16, by omega⟩
    simp only [hxs, enc16, List.flatMap_cons, List.map_append, List.map_cons, List.map_nil] at *
    rw [h2, e1, e2]
theorem hxs_ascii (l : List Nat) (h : ∀ c ∈ l, c < 256) : ∀ c ∈ (hxs l).toArray, c < 128 := by
  intro c hc
  have hc' : c ∈ hxs l := by simpa using hc
  obtain ⟨a, ha, hm⟩ := List.mem_flatMap.mp hc'
  have := h a ha
  have d : ∀ n : Fin 16, Builtin.Bytes.hexDigit n.val < 128 := by decide +kernel
  rcases List.mem_cons.mp hm with rfl | hm
  · exact d ⟨a / 16, by omega⟩
  · rw [List.mem_singleton.mp hm]; exact d ⟨a % 16, by omega⟩
theorem nats_lt (b : Array UInt8) : ∀ c ∈ b.toList.map (·.toNat), c < 256 := by
  intro c hc
  obtain ⟨x, _, rfl⟩ := List.mem_map.mp hc
  exact x.toNat_lt
theorem enc16_len (l : List Nat) : (enc16 l).length = 2 * l.length := by
  induction l with
  | nil => rfl
  | cons a l ih => simp only [enc16, List.flatMap_cons, List.length_append, List.length_cons, List.length_nil] at *; omega
theorem c_hex {w : World} {d u : Nat} {fr : Option (List Env)} {gs : Option (List Code)} {s : Shared} {mg mb : Str → Option Value} {mean : ExcName → Option Value} {p : Program} {loose : List Str} {b : Array UInt8} {t : Tok} :
   (hd.heap_39 w.params).In s.heap → Top p loose mean mg mb s.heap → Room d u 3 → b.size ≤ 1000 →
   codeAny (model Challenge.rw_ki0009_01.row.prog w) (Ar d fr gs u) (.call (.ref 52) ⟨[.bytes b t], []⟩) (Ret s (fun v _ => ∃ t', v = .bytes ((hxs (b.toList.map (·.toNat))).map (·.toUInt8)).toArray t')) s := by
  k_fill
  k_with_none
  intro X T hA hbs
  refine' enter_def (binds := [(Str.ofString "data", .bytes b t), (Str.ofString "sep", .ref 44), (Str.ofString "bytes_per_sep", .int 1 229)]) X T ?ho ?hcd ?hroom ?hb ?hl ?_ ?a1 ?a2 ?a3 ?a4
  case ho => k_is
  case hcd => k_is
  case hroom => exact hA.lt
  case hb => first | exact BindsTo.of_eq rfl | exact binds_K (by k_in) rfl (by k_is) rfl rfl rfl
  case hl => exact locs rfl
  case a1 => exact rfl
  case a2 => exact rfl
  case a3 => exact rfl
  case a4 => decide
  intro L h₁ hL F N
  (try dsimp only)
  k_with "call ref" => (refine call_by (by assumption) (by assumption) (c_buffer (by k_in) (Top.keeps (by assumption) (Fr.keep (by assumption))) (by exact hA.deeper.mono (by decide))) ?_; intro v' h' t' e' F' N' k'; subst e')
  k_with "call builtin:bytes.hex" => (refine hex_by (by omega) ?_; intro t8 k8)
  k_with "call builtin:str.encode" => (refine encode_by (hxs_ascii _ (nats_lt b)) (by show (hxs _).toArray.size ≤ _; rw [List.size_toArray, hxs_len, List.length_map, Array.length_toList]; omega) ?_; intro t8 k8)
  k_steps
  exact ret_bytes (by assumption) (by simp)
theorem c_b16 {w : World} {d u : Nat} {fr : Option (List Env)} {gs : Option (List Code)} {s : Shared} {mg mb : Str → Option Value} {mean : ExcName → Option Value} {p : Program} {loose : List Str} {b : Array UInt8} {t : Tok} :
   (hd.heap_39 w.params).In s.heap → Top p loose mean mg mb s.heap → Room d u 4 → b.size ≤ 1000 →
   codeAny (model Challenge.rw_ki0009_01.row.prog w) (Ar d fr gs u) (.call (.ref 81) ⟨[.bytes b t], []⟩) (Ret s (fun v _ => ∃ t', v = .bytes ((enc16 (b.toList.map (·.toNat))).map (·.toUInt8)).toArray t')) s := by
  k_fill
  k_with_none
  intro X T hA hbs
  refine' enter_def (binds := [(Str.ofString "s", .bytes b t)]) X T ?ho ?hcd ?hroom ?hb ?hl ?_ ?a1 ?a2 ?a3 ?a4
  case ho => k_is
  case hcd => k_is
  case hroom => exact hA.lt
  case hb => first | exact BindsTo.of_eq rfl | exact binds_K (by k_in) rfl (by k_is) rfl rfl rfl
  case hl => exact locs rfl
  case a1 => exact rfl
  case a2 => exact rfl
  case a3 => exact rfl
  case a4 => decide
  intro L h₁ hL F N
  (try dsimp only)
  k_with "call ref" => (refine call_by (by assumption) (by assumption) (c_hex (by k_in) (Top.keeps (by assumption) (Fr.keep (by assumption))) (by exact hA.deeper.mono (by decide)) hbs) ?_; intro v' h' t' e' F' N' k'; obtain ⟨t9, rfl⟩ := e')
  k_with "call builtin:bytes.upper" => (refine upper_by (by rw [List.size_toArray, List.length_map, hxs_len, List.length_map, Array.length_toList]; omega) ?_; intro t8 k8)
  k_steps
  exact ret_bytes (by assumption) (by rw [← hxs_up _ (nats_lt b)])

/-- the sign in the alphabet that is safe in a URL -/
def us (x : UInt8) : UInt8 := if (if x = 43 then 45 else x) = 47 then 95 else (if x = 43 then 45 else x)
theorem us_tab (x : UInt8) : (#[0, 1, 2, 3, 4, 5, 6, 7, 8, 9, 10, 11, 12, 13, 14, 15, 16, 17, 18, 19, 20, 21, 22, 23, 24, 25, 26, 27, 28, 29, 30, 31, 32, 33, 34, 35, 36, 37, 38, 39, 40, 41, 42, 45, 44, 45, 46, 95, 48, 49, 50, 51, 52, 53, 54, 55, 56, 57, 58, 59, 60, 61, 62, 63, 64, 65, 66, 67, 68, 69, 70, 71, 72, 73, 74, 75, 76, 77, 78, 79, 80, 81, 82, 83, 84, 85, 86, 87, 88, 89, 90, 91, 92, 93, 94, 95, 96, 97, 98, 99, 100, 101, 102, 103, 104, 105, 106, 107, 108, 109, 110, 111, 112, 113, 114, 115, 116, 117, 118, 119, 120, 121, 122, 123, 124, 125, 126, 127, 128, 129, 130, 131, 132, 133, 134, 135, 136, 137, 138, 139, 140, 141, 142, 143, 144, 145, 146, 147, 148, 149, 150, 151, 152, 153, 154, 155, 156, 157, 158, 159, 160, 161, 162, 163, 164, 165, 166, 167, 168, 169, 170, 171, 172, 173, 174, 175, 176, 177, 178, 179, 180, 181, 182, 183, 184, 185, 186, 187, 188, 189, 190, 191, 192, 193, 194, 195, 196, 197, 198, 199, 200, 201, 202, 203, 204, 205, 206, 207, 208, 209, 210, 211, 212, 213, 214, 215, 216, 217, 218, 219, 220, 221, 222, 223, 224, 225, 226, 227, 228, 229, 230, 231, 232, 233, 234, 235, 236, 237, 238, 239, 240, 241, 242, 243, 244, 245, 246, 247, 248, 249, 250, 251, 252, 253, 254, 255] : Array UInt8).getD x.toNat x = us x := by
  have key : ∀ n : Fin 256, (#[0, 1, 2, 3, 4, 5, 6, 7, 8, 9, 10, 11, 12, 13, 14, 15, 16, 17, 18, 19, 20, 21, 22, 23, 24, 25, 26, 27, 28, 29, 30, 31, 32, 33, 34, 35, 36, 37, 38, 39, 40, 41, 42, 45, 44, 45, 46, 95, 48, 49, 50, 51, 52, 53, 54, 55, 56, 57, 58, 59, 60, 61, 62, 63, 64, 65, 66, 67, 68, 69, 70, 71, 72, 73, 74, 75, 76, 77, 78, 79, 80, 81, 82, 83, 84, 85, 86, 87, 88, 89, 90, 91, 92, 93, 94, 95, 96, 97, 98, 99, 100, 101, 102, 103, 104, 105, 106, 107, 108, 109, 110, 111, 112, 113, 114, 115, 116, 117, 118, 119, 120, 121, 122, 123, 124, 125, 126, 127, 128, 129, 130, 131, 132, 133, 134, 135, 136, 137, 138, 139, 140, 141, 142, 143, 144, 145, 146, 147, 148, 149, 150, 151, 152, 153, 154, 155, 156, 157, 158, 159, 160, 161, 162, 163, 164, 165, 166, 167, 168, 169, 170, 171, 172, 173, 174, 175, 176, 177, 178, 179, 180, 181, 182, 183, 184, 185, 186, 187, 188, 189, 190, 191, 192, 193, 194, 195, 196, 197, 198, 199, 200, 201, 202, 203, 204, 205, 206, 207, 208, 209, 210, 211, 212, 213, 214, 215, 216, 217, 218, 219, 220, 221, 222, 223, 224, 225, 226, 227, 228, 229, 230, 231, 232, 233, 234, 235, 236, 237, 238, 239, 240, 241, 242, 243, 244, 245, 246, 247, 248, 249, 250, 251, 252, 253, 254, 255] : Array UInt8).getD n.val (UInt8.ofNat n.val) = us (UInt8.ofNat n.val) := by decide +kernel
  have := key ⟨x.toNat, x.toNat_lt⟩
  simpa using this
theorem size64 {b : Array UInt8} (h : b.size ≤ 1000) : ((enc64 (b.toList.map (·.toNat))).map (·.toUInt8)).toArray.size ≤ 100000 := by
  have := enc64_len_le (b.toList.map (·.toNat))
  have h5 : b.toList.length = b.size := by simp
  rw [List.size_toArray, List.length_map]
  rw [List.length_map] at this
  omega
theorem c_url64 {w : World} {d u : Nat} {fr : Option (List Env)} {gs : Option (List Code)} {s : Shared} {mg mb : Str → Option Value} {mean : ExcName → Option Value} {p : Program} {loose : List Str} {b : Array UInt8} {t : Tok} :
   (hd.heap_39 w.params).In s.heap → Top p loose mean mg mb s.heap → Room d u 4 → b.size ≤ 1000 →
   codeAny (model Challenge.rw_ki0009_01.row.prog w) (Ar d fr gs u) (.call (.ref 74) ⟨[.bytes b t], []⟩) (Ret s (fun v _ => ∃ t', v = .bytes (((enc64 (b.toList.map (·.toNat))).map (·.toUInt8)).toArray.map us) t')) s := by
  k_fill
  k_with_none
  intro X T hA hbs
  refine' enter_def (binds := [(Str.ofString "s", .bytes b t)]) X T ?ho ?hcd ?hroom ?hb ?hl ?_ ?a1 ?a2 ?a3 ?a4
  case ho => k_is
  case hcd => k_is
  case hroom => exact hA.lt
  case hb => first | exact BindsTo.of_eq rfl | exact binds_K (by k_in) rfl (by k_is) rfl rfl rfl
  case hl => exact locs rfl
  case a1 => exact rfl
  case a2 => exact rfl
  case a3 => exact rfl
  case a4 => decide
  intro L h₁ hL F N
  (try dsimp only)
  k_with "call ref" => (refine call_by (by assumption) (by assumption) (c_b64 (by k_in) (Top.keeps (by assumption) (Fr.keep (by assumption))) (by exact hA.deeper.mono (by decide)) hbs) ?_; intro v' h' t' e' F' N' k'; obtain ⟨t9, rfl⟩ := e')
  k_with "call builtin:bytes.translate" => (refine translate_by (by decide +kernel) (size64 hbs) ?_; intro t8 k8)
  k_steps
  exact ret_bytes (by assumption) (congrArg (fun f => Array.map f _) (funext us_tab))
end

/-! ### W4 -/
section
theorem top_off_W4 : True := by
  w_top off
  trivial

local macro_rules | `(tactic| walk_at "call type:type") => `(tactic| ((with_reducible show wpAny _ _ (call _ [Value.bytes _ _]) _ _ _); refine call_type_of (Tx := "bytes") rfl (by decide +kernel) ?_))
local macro_rules | `(tactic| walk_at "getMethod bytes") => `(tactic| (first | with_reducible refine m_translate ?_ | with_reducible refine m_upper ?_ | with_reducible refine m_hex ?_ | with_reducible refine m_replace ?_ | with_reducible refine m_join ?_))
local macro_rules | `(tactic| walk_at "getMethod str") => `(tactic| (with_reducible refine m_encode ?_))
local macro_rules | `(tactic| walk_at "eval DictComp") => `(tactic| k_extra "my DictComp")
local macro_rules | `(tactic| walk_at "eval ListComp") => `(tactic| k_extra "my ListComp")
local macro_rules | `(tactic| walk_at "eval Name") => `(tactic| k_extra "my Name")
local macro_rules | `(tactic| walk_at "pyIter ref") => `(tactic| k_extra "my pyIter")
local macro_rules | `(tactic| walk_at "subscriptTail Name Slice ref ref") => `(tactic| k_extra "my slice")

/-- the place of a sign in an alphabet -/
def placeOf (al : List UInt8) (c : UInt8) : Int := (al.idxOf c : Int)
section
variable {prog : Program} {w : World} {A : Around} {E : Value → Shared → Prop} {s : Shared} {K : Type} [DecidableEq K] {knd : KeyKind prog w K} {d : Addr}
theorem meets_get_found {k : K} {key v : Value} (hkey : knd.is k key = true) (dflt : Value) :
    MeetsIn prog w (Builtin.«dict.get» ⟨[.ref d, key, dflt], []⟩) (fun _ R s => ∃ f, s.heap.MapOf knd d f ∧ f k = some v ∧ R (.ok (.ret v)) { s with toks := s.toks + 1 }) :=
  .of_wp fun A R s ⟨f, hm, hf, h⟩ => by
    show wpAny _ _ (dictGet d key >>= _) _ _ s
    refine wpAny_bind (wpAny_dictGet_of hkey hm ?_)
    rw [hf]
    exact wpAny_pure ⟨v, rfl, h⟩
theorem dict_get_found {pos : Pos} {x y : Sem Value} {Q : Value → Shared → Prop}
    (h : wpAny (model prog w) A x (fun key s₁ => wpAny (model prog w) A y (fun _ s₂ => ∃ k f v, knd.is k key = true ∧ s₂.heap.MapOf knd d f ∧ f k = some v ∧ Q v { s₂ with toks := s₂.toks + 1 }) E s₁) E s) :
    wpAny (model prog w) A (callWith pos (.builtin "dict.get") [.ref d] [(false, x), (false, y)] []) Q E s :=
  method2_meetsIn PySem.F.slot_dict_get PySem.F.entry_dict_get (wpAny_mono h (fun key _ h₁ => wpAny_mono h₁ (fun dflt _ h₂ => by
    obtain ⟨k, f, v, hkey, hm, hf, hq⟩ := h₂
    exact ⟨hm.typeIs, PySem.F.args_dict_get_3 _ _ _, _, meets_get_found hkey dflt, f, hm, hf, hq⟩) fun _ _ e => e) fun _ _ e => e)
end
def FKp (al : List UInt8) (v : Value) (k : Int) : Prop := ∃ (i : Nat) (t : Tok) (c : UInt8), v = .int (i : Int) t ∧ al[i]? = some c ∧ k = (c.toNat : Int)
def FVp (v y : Value) : Prop := y = v
theorem valueAt_stored (kvs : List (Int × Value)) (k : Int) (v : Value) (k' : Int) : valueAt (stored kvs k v) k' = if k' = k then some v else valueAt kvs k' := by
  unfold stored
  split
  · rename_i h
    have hc : (fun kv : Int × Value => decide (kv.1 = k')) ∘ (fun kv => if kv.1 = k then (kv.1, v) else kv) = fun kv => decide (kv.1 = k') := by
      funext kv
      by_cases e : kv.1 = k <;> simp [e]
    unfold valueAt
    rw [List.find?_map, hc]
    by_cases e : k' = k
    · subst e
      obtain ⟨kv, hm, hk⟩ := List.any_eq_true.mp h
      have hs : (kvs.find? fun kv => decide (kv.1 = k')).isSome := by
        rw [List.find?_isSome]; exact ⟨kv, hm, hk⟩
      obtain ⟨y, hy⟩ := Option.isSome_iff_exists.mp hs
      have := List.find?_some hy
      simp at this
      simp [hy, this]
    · rw [if_neg e]
      cases hf : kvs.find? fun kv => decide (kv.1 = k') with
      | none => rfl
      | some y =>
        have := List.find?_some hf
        simp at this
        have hne : y.1 ≠ k := fun q => e (this ▸ q)
        simp [hne]
  · rename_i h
    unfold valueAt
    rw [List.find?_append]
    by_cases e : k' = k
    · subst e
      have hn : kvs.find? (fun kv => decide (kv.1 = k')) = none := by
        rw [List.find?_eq_none]
        intro x hx hk
        exact h (List.any_eq_true.mpr ⟨x, hx, hk⟩)
      simp [hn]
    · rw [if_neg e]
      have : ¬ k = k' := fun q => e q.symm
      simp [this]
theorem ints_paired_aux {al : List UInt8} : ∀ {vs : List Value} {ys : List Value} {l : List UInt8}, Paired (fun v y => ∃ (c : UInt8) (t t' : Tok), v = .int (c.toNat : Int) t ∧ y = .int (placeOf al c) t') vs ys → vs.length = l.length →
    (∀ (j : Nat) (v : Value), vs[j]? = some v → ∃ c u, l[j]? = some c ∧ v = .int (c.toNat : Int) u) → IntsAre ys (l.map (placeOf al)) := by
  intro vs ys l h
  induction h generalizing l with
  | nil =>
    intro hl _
    cases l with
    | nil => exact .nil
    | cons a l => simp at hl
  | cons hv hp ih =>
    intro hl hP
    cases l with
    | nil => simp at hl
    | cons a l =>
      obtain ⟨c, t, t', e1, e2⟩ := hv
      obtain ⟨c2, u, e3, e4⟩ := hP 0 _ rfl
      simp at e3
      subst e3
      rw [e1] at e4
      injection e4 with e4 _
      have : c = a := UInt8.toNat_inj.mp (by omega)
      subst this
      rw [e2]
      exact .cons _ _ (ih (by simpa using hl) fun j v hj => by simpa using hP (j + 1) v (by simpa using hj))
theorem ints_paired {al : List UInt8} {b : Array UInt8} {vs : List Value} {ys : List Value} (h : Paired (fun v y => ∃ (c : UInt8) (t t' : Tok), v = .int (c.toNat : Int) t ∧ y = .int (placeOf al c) t') vs ys) (hl : vs.length = b.size)
    (hP : ∀ (j : Nat) (v : Value), vs[j]? = some v → ∃ c u, b[j]? = some c ∧ v = .int (c.toNat : Int) u) : IntsAre ys (b.toList.map (placeOf al)) :=
  ints_paired_aux h (by simpa using hl) fun j v hj => by
    obtain ⟨c, u, e1, e2⟩ := hP j v hj
    exact ⟨c, u, by simpa using e1, e2⟩
theorem tab_vals {al : List UInt8} (hnd : al.Nodup) {l : List Value} {kvs : List (Int × Value)} (h : StoredAll (FKp al) FVp l kvs) :
    (∀ (j : Nat) (v : Value), l[j]? = some v → ∃ t, v = Value.int (j : Int) t) → ∀ (i : Nat) (c : UInt8), al[i]? = some c → i < l.length → ∃ t, valueAt kvs (c.toNat : Int) = some (Value.int (i : Int) t) := by
  induction h with
  | nil => intro _ i c _ hi; simp at hi
  | snoc hS hK hV ih =>
    rename_i l kvs v k y
    intro hP i c hc hi
    obtain ⟨j, t, c', e1, hc', e2⟩ := hK
    obtain ⟨t2, e3⟩ := hP l.length v (by simp)
    have ej : j = l.length := by
      rw [e1] at e3
      injection e3 with e3 _
      omega
    subst ej
    have e4 : y = v := hV
    rw [valueAt_stored, e2, e4, e1]
    rw [List.length_append, List.length_singleton] at hi
    by_cases q : i = l.length
    · subst q
      rw [hc] at hc'
      injection hc' with hc'
      subst hc'
      exact ⟨t, by simp⟩
    · have hne : ¬ (c.toNat : Int) = (c'.toNat : Int) := by
        intro hh
        have h1 : c = c' := UInt8.toNat_inj.mp (by omega)
        subst h1
        exact q ((List.getElem?_inj (by have := (List.getElem?_eq_some_iff.mp hc).1; exact this) hnd).mp (hc.trans hc'.symm))
      rw [if_neg hne]
      exact ih (fun j v hj => hP j v (by rw [List.getElem?_append_left (by have := (List.getElem?_eq_some_iff.mp hj).1; exact this)]; exact hj)) i c hc (by omega)
theorem tab_at_of {al : List UInt8} (hnd : al.Nodup) {vs : List Value} {kvs : List (Int × Value)} (hlen : vs.length = al.length) (hP : ∀ (j : Nat) (v : Value), vs[j]? = some v → j < al.length ∧ ∃ t, v = .int (0 + (j : Int) * 1) t)
    (hS : StoredAll (FKp al) FVp (vs.filter fun _ => true) kvs) {c : UInt8} (hc : c ∈ al) : ∃ t, valueAt kvs (c.toNat : Int) = some (.int (placeOf al c) t) := by
  rw [List.filter_eq_self.mpr (fun _ _ => rfl)] at hS
  have h1 : al.idxOf c < al.length := List.idxOf_lt_length_of_mem hc
  refine tab_vals hnd hS (fun j v hj => ?_) (al.idxOf c) c ?_ (by omega)
  · obtain ⟨_, t, e⟩ := hP j v hj
    exact ⟨t, by rw [e]; congr 1; omega⟩
  · rw [List.getElem?_eq_getElem h1, List.getElem_idxOf h1]
theorem c_places {w : World} {d u : Nat} {fr : Option (List Env)} {gs : Option (List Code)} {s : Shared} {mg mb : Str → Option Value} {mean : ExcName → Option Value} {p : Program} {loose : List Str} {b : Array UInt8} {t t2 : Tok} {al : List UInt8} :
   (hd.heap_39 w.params).In s.heap → Top p loose mean mg mb s.heap → Room d u 3 → b.size ≤ 2000 → al.length ≤ 100 → al.Nodup → (∀ c ∈ b.toList, c ∈ al) →
   codeAny (model Challenge.rw_ki0009_01.row.prog w) (Ar d fr gs u) (.call (.ref 86) ⟨[.bytes b t, .bytes al.toArray t2], []⟩) (Ret s (fun v h => ∃ a vs, v = .ref a ∧ s.heap.get? a = none ∧ (∃ n, h.get? a = some (listOf vs.toArray n)) ∧ IntsAre vs (b.toList.map (placeOf al)))) s := by
  k_fill
  k_with_none
  intro X T hA hbs hal hnd hin
  refine' enter_defC (binds := [(Str.ofString "written", .bytes b t), (Str.ofString "alphabet", .bytes al.toArray t2)]) X T ?ho ?hcd ?hroom ?hb ?hl ?hn ?_ ?a1 ?a2 ?a3
  case ho => k_is
  case hcd => k_is
  case hroom => exact hA.lt
  case hb => first | exact BindsTo.of_eq rfl | exact binds_K (by k_in) rfl (by k_is) rfl rfl rfl
  case hl => exact rfl
  case hn => decide +kernel
  case a1 => exact rfl
  case a2 => exact rfl
  case a3 => exact rfl
  intro L h₁ tk cells hL F N Y
  k_cells Y
  (try dsimp only)
  rename_i oC1 oC2 dC1 dC2
  have dC2' : oC2.data = .cell (some (.bytes al.toArray t2)) := dC2
  walk1
  walk1
  refine' wpAny_DictComp_free (intKind _ _) (fun _ => true) (FKp al) FVp ?hclos ?hcell ?hkind ?hnames ?hx ?_ ?hs
  case hclos => exact rfl
  case hcell => decide
  case hkind => exact rfl
  case hnames => decide
  case hx => decide
  case hs => intro _; rfl
  k_steps
  rename_i hR F9 N9 hk9
  have hsm : Builtin.Range.small 0 (al.toArray.size : Int) 1 = true := by
    have : al.toArray.size = al.length := by simp
    exact small_one (by decide) (by decide) (by omega) (by omega)
  refine wpAny_pyIter_range hR hsm ?_
  have hn : Builtin.Range.rangeSize 0 (al.toArray.size : Int) 1 = (al.length : Int) := by
    rw [rangeSize_nat]
    simp
  refine ⟨_, _, _, al.length, _, _, rfl, (Walks.range rfl _ 0 1 al.length).bound, (by rw [sizeLine_eq]; omega), ?_, ?_, ⟨?_, ?_, ?_⟩, ?_⟩
  · show IsRangeIter _ _ _ _ _
    rw [hn]
    simpa using Heap.get?_push_size _ rfl
  · intro b hb
    rw [List.mem_singleton.mp hb]
    show _ < (Heap.push _ _).objs.size
    rw [Heap.size_push]
    exact Nat.lt_succ_self _
  · intro C i v s₃ m₃ E' hP hn3 hm3 hk3
    exact wpAny_pure ⟨rfl, _, _, rfl, fun _ _ e => e⟩
  · rintro C i v s₃ m₃ E' ⟨hi, tt, rfl⟩ _ hn3 hm3 hk3
    refine Subscript_ ?_
    refine wpAny_Name (wpAny_loadName_cell (c := L + 1) (v := .bytes al.toArray t2) rfl rfl rfl ⟨_, hk3 _ _ ?_ (Heap.get?_push_of_some _ (N9.get (.tail _ (.head _)))), ?_⟩ ?_) (by decide)
    · intro hm
      have h1 := Heap.lt_size (N9.get (.tail _ (.head _)))
      rw [List.mem_singleton.mp hm] at h1
      exact absurd h1 (Nat.lt_irrefl _)
    · exact dC2'
    · refine wpAny_Name (wpAny_loadName_local rfl rfl hn3 hm3 ?_) (by decide)
      refine bytes_item_K (by omega) (by omega) (by omega) rfl ?_ (by with_unfolding_all rfl) (by intro _; with_unfolding_all rfl)
      refine ⟨⟨_, intKind_is _ _ _ _, i, tt, al[i], by simp, by simp [hi], ?_⟩, _, _, rfl, fun _ _ e => e⟩
      have : (0 + (i : Int) * 1).toNat = i := by omega
      rw [this, List.getD_eq_getElem?_getD, List.getElem?_eq_getElem hi]
      rfl
  · rintro C i v s₃ m₃ E' ⟨hi, tt, rfl⟩ _ hn3 hm3 hk3
    exact wpAny_Name (wpAny_loadName_local rfl rfl hn3 hm3 ⟨rfl, _, _, rfl, fun _ _ e => e⟩) (by decide)
  · intro D h5 tk5 kvs vs hD hDict hlen hP hS hk5
    have F5 : Fr s.heap L h5 _ := ⟨F9.ns.at' fun o e => hk5 _ o (fun hm => absurd F9.ns.lt (by rw [List.mem_singleton.mp hm]; exact Nat.lt_irrefl _)) (Heap.get?_push_of_some _ e), fun b o e => hk5 b o (fun hm => absurd (Heap.lt_size (F9.keep b o e)) (by rw [List.mem_singleton.mp hm]; exact Nat.lt_irrefl _)) (Heap.get?_push_of_some _ (F9.keep b o e)), F9.above⟩
    have N5 : News s.heap L h5 _ := fun p hp => ⟨hk5 _ _ (fun hm => absurd (Heap.lt_size (N9 p hp).1) (by rw [List.mem_singleton.mp hm]; exact Nat.lt_irrefl _)) (Heap.get?_push_of_some _ (N9 p hp).1), (N9 p hp).2⟩
    have hDnot : ∀ a : Addr, ∀ o, _ = some o → D ≠ a := fun a o e q => by
      rw [q, Heap.get?_push_of_some _ e] at hD; cases hD
    have hDL : D ≠ L := by obtain ⟨oL, _, _, hL', _⟩ := F9.ns; exact hDnot L oL hL'
    have hD1 : D ≠ L + 1 + 1 := hDnot _ _ (N9.get (.head _))
    have hD2 : D ≠ L + 1 := hDnot _ _ (N9.get (.tail _ (.head _)))
    have hDs : s.heap.get? D = none := by
      cases q : s.heap.get? D with
      | none => rfl
      | some o => exact absurd rfl (hDnot D o (F9.keep D o q))
    obtain ⟨oD, es, ep, hoD, hexD, hdD, hkD, hpD, hndD⟩ := hDict
    have N6 : News s.heap L h5 [(L + 1 + 1, _), (L + 1, _), (D, oD)] := fun p hp => by
      rcases List.mem_cons.mp hp with rfl | hp
      · exact N5 _ (.head _)
      · rcases List.mem_cons.mp hp with rfl | hp
        · exact N5 _ (.tail _ (.head _))
        · rw [List.mem_singleton.mp hp]; exact ⟨hoD, hDL, hDs⟩
    clear F9 N9 N5 hk5 hR hk9 hD
    dsimp only
    walk1
    walk1
    walk1
    walk1
    rename_i o1 F6 N7 d6
    refine' wpAny_ListComp_free (fun _ => true) (fun v y => ∃ (c : UInt8) (t t' : Tok), v = .int (c.toNat : Int) t ∧ y = .int (placeOf al c) t') ?hclos ?hcell ?hkind ?hnames ?hx ?_ ?hs
    case hclos => exact rfl
    case hcell => decide
    case hkind => exact rfl
    case hnames => decide
    case hx => decide
    case hs => intro _; rfl
    walk1
    refine KBw.pyIter_bytes ?_
    have hbz : b.toList.length = b.size := by simp
    refine ⟨_, _, _, b.size, _, _, rfl, KBw.walks rfl _ b t, (by rw [sizeLine_eq]; omega), ⟨_, Heap.get?_push_size _ rfl, rfl, rfl⟩, ?_, ⟨?_, ?_⟩, ?_⟩
    · intro b' hb
      rw [List.mem_singleton.mp hb]
      show _ < (Heap.push _ _).objs.size
      rw [Heap.size_push]
      exact Nat.lt_succ_self _
    · intro C i v s₃ m₃ E' hC hP3 hn3 hm3 hk3 htk
      exact wpAny_pure ⟨rfl, _, _, rfl, fun _ _ e => e⟩
    · rintro C i v s₃ m₃ E' hC ⟨c, t3, hc3, rfl⟩ _ hn3 hm3 hk3 htk
      have up : ∀ p ∈ [(L + 1 + 1, o1), (L + 1, oC2), (D, oD)], s₃.heap.get? p.1 = some p.2 := fun p hp =>
        hk3 _ _ (fun hm => absurd (Heap.lt_size (N7 p hp).1) (by rw [List.mem_singleton.mp hm]; exact Nat.lt_irrefl _)) (Heap.get?_push_of_some _ (N7 p hp).1)
      have hM3 : s₃.heap.DictOf (intKind Challenge.rw_ki0009_01.row.prog w) D kvs := ⟨oD, es, ep, up _ (.tail _ (.tail _ (.head _))), hexD, hdD, hkD, hpD, hndD⟩
      refine MethodCall_ ?_
      refine wpAny_Name (wpAny_loadName_cell (c := L + 1 + 1) (v := .ref D) rfl rfl rfl ⟨_, up _ (.head _), d6⟩ ?_) (by decide)
      refine getMethod_builtin hM3.typeIs PySem.F.plainAttrs_dict PySem.F.slot_dict_get PySem.F.type_dict_get hM3.mapOf.noDict ?_
      refine dict_get_found (knd := intKind _ _) ?_
      refine wpAny_Name (wpAny_loadName_local rfl rfl hn3 hm3 ?_) (by decide)
      rw [if_neg Bool.false_ne_true]
      walk1
      walk1
      walk1
      obtain ⟨t8, e8⟩ := tab_at_of hnd hlen hP hS (hin c (Array.mem_toList_iff.mpr (Array.mem_of_getElem? hc3)))
      exact ⟨_, _, _, intKind_is _ _ _ _, hM3.mapOf, e8, ⟨c, t3, _, rfl, rfl⟩, _, _, rfl, fun _ _ e => e⟩
    · intro D8 h8 tk8 ys vs8 hD8 hl8 hpl8 hlen8 hP8 hF8 hk8
      have keep8 : ∀ b o, s.heap.get? b = some o → h8.get? b = some o := fun b o e => by
        have e1 := F6.keep b o e
        exact hk8 b o (fun hm => absurd (Heap.lt_size e1) (by rw [List.mem_singleton.mp hm]; exact Nat.lt_irrefl _)) (Heap.get?_push_of_some _ e1)
      refine ⟨_, h8, tk8, rfl, rfl, keep8, D8, ys.toList, rfl, ?_, (let ⟨n8, e8⟩ := hpl8; ⟨n8, by rw [e8]⟩), ?_⟩
      · cases q : s.heap.get? D8 with
        | none => rfl
        | some o =>
          rw [Heap.get?_push_of_some _ (F6.keep D8 o q)] at hD8
          cases hD8
      · rw [List.filter_eq_self.mpr (fun _ _ => rfl)] at hF8
        exact ints_paired hF8 hlen8 hP8
end

/-! ### Loops -/
section
theorem top_off_Loops : True := by
  w_top off
  trivial

local macro_rules | `(tactic| walk_at "call type:type") => `(tactic| ((with_reducible show wpAny _ _ (call _ [Value.bytes _ _]) _ _ _); refine call_type_of (Tx := "bytes") rfl (by decide +kernel) ?_))
section
variable {prog : Program} {w : World} {A : Around} {E : Value → Shared → Prop} {s : Shared} {env : Env} {h₀ : Heap} {x : PySem.Str} {body : List Stmt} {Q : Flow → Shared → Prop}
/-- a loop over any iterator, by an invariant over the number of turns -/
theorem kst_walk {σ : Type} {I : Addr} {fp wr : List Addr} {n : Nat} {Pv : Nat → Value → Prop} {St : Nat → Heap → Prop} {m₀ : PySem.Str → Option Value} (Led : σ → List (Addr × Obj)) (ps : σ → List (PySem.Str × Value)) (stored : List PySem.Str) (P : Nat → σ → Prop) (c₀ : σ)
    (W : Walks prog w A I fp wr n Pv St) (hLf : env.locals ∉ fp) (hwr : ∀ b ∈ wr, h₀.get? b = none) (hfp : ∀ q ∈ Led c₀, q.1 ∉ fp) (hst : St 0 s.heap)
    (F : Fr h₀ env.locals s.heap m₀) (N : News h₀ env.locals s.heap (Led c₀)) (hk : ∀ p ∈ ps c₀, m₀ p.1 = some p.2) (hp : P 0 c₀)
    (turn : ∀ (c : σ) (i : Nat) (v : Value) (u : PySem.Str → Option Value) h tk own, i < n → Pv i v → OwnOff own ((Led c₀).map (·.1)) → P i c →
      Fr h₀ env.locals h (fun y => if y = x then some v else kstB (fun z => if stored.contains z then u z else m₀ z) (ps c) y) → News h₀ env.locals h (Led c ++ own) →
      wpAny (model prog w) A (execs body env) (InvPostN h₀ env.locals (KstS Led ps (fun _ => True) x stored m₀ (fun pre c => P pre.length c) (List.replicate (i + 1) 0)) own ((Led c₀).map (·.1)) { s with heap := h, toks := tk } Q) E { s with heap := h, toks := tk })
    (done : ∀ (c : σ) (u : PySem.Str → Option Value) h tk, P n c → Fr h₀ env.locals h (fun y => if y = x then u y else kstB (fun z => if stored.contains z then u z else m₀ z) (ps c) y) → News h₀ env.locals h (Led c) → Q .next { s with heap := h, toks := tk }) :
    LoopAtV prog w A h₀ env x body Q E (.ref I) s := by
  refine loop_invN (fun i m nx => KstS Led ps (fun _ => True) x stored m₀ (fun pre c => P pre.length c) (List.replicate i 0) m nx) W hLf hwr (fun p hp hq => hfp p hp (W.sub _ hq)) hfp hst F N ⟨c₀, rfl, trivial, hk, fun _ _ _ _ => rfl, hp⟩ ?_ ?_
  · rintro i v m₁ nx h tk own hi hPv _ hoff ⟨c, rfl, _, h1, h2, hp'⟩ F₁ N₁
    exact turn c i v m₁ h tk own hi hPv hoff (by simpa using hp') (kst_fr h1 h2 F₁) N₁
  · rintro m₁ nx h tk ⟨c, rfl, _, h1, h2, hp'⟩ F₁ N₁
    exact done c m₁ h tk (by simpa using hp') (kst_frOut h1 h2 F₁) N₁
/-- the same, its turn's end -/
theorem kst_close {σ : Type} {Led : σ → List (Addr × Obj)} {ps : σ → List (PySem.Str × Value)} {stored : List PySem.Str} {m₀ : PySem.Str → Option Value} {P : Nat → σ → Prop} {i : Nat} (c : σ) {L : Addr} {m' : PySem.Str → Option Value} {own news' : List (Addr × Obj)} {adr : List Addr} {s₁ : Shared} {h' : Heap} {tk : Nat}
    (F : Fr h₀ L h' m') (N : News h₀ L h' news') (hn : ∀ p ∈ Led c, p ∈ news') (ho : ∀ p ∈ own, p ∈ news') (ha : (Led c).map (·.1) = adr) (hk : ∀ p ∈ ps c, m' p.1 = some p.2) (hr : ∀ z, z ≠ x → (∀ p ∈ ps c, z ≠ p.1) → stored.contains z = false → m' z = m₀ z) (hp : P (i + 1) c) :
    InvEndN h₀ L (KstS Led ps (fun _ => True) x stored m₀ (fun pre c => P pre.length c) (List.replicate (i + 1) 0)) own adr s₁ { s₁ with heap := h', toks := tk } :=
  kst_end c F N hn ho ha trivial hk hr (by simpa using hp)
theorem fresh_size {L : Addr} {m : PySem.Str → Option Value} {h : Heap} (F : Fr h₀ L h m) : h₀.get? h.objs.size = none := next_is_new F
theorem loc_lt {L : Addr} {m : PySem.Str → Option Value} {h : Heap} (F : Fr h₀ L h m) : L < h.objs.size := F.ns.lt
end
section
variable {prog : Program} {w : World} {A : Around} {E : Value → Shared → Prop} {s : Shared} {h₀ : Heap} {L : Addr} {m : PySem.Str → Option Value} {news : List (Addr × Obj)} {Q : Value → Shared → Prop}
theorem headList {l : Addr} {vs : List Value} {n : Nat} {h : Heap} (N : News h₀ L h ((l, listOf vs.toArray n) :: news)) : h.IsList l vs.toArray := ⟨_, (N _ (.head _)).1, rfl, _, rfl⟩
theorem ints_rep {t : Tok} : ∀ k : Nat, IntsAre (List.replicate k [Value.int 0 t]).flatten (List.replicate k 0)
  | 0 => .nil
  | k + 1 => by rw [List.replicate_succ, List.flatten_cons, List.replicate_succ]; exact .cons _ _ (ints_rep k)
/-- [0] * x -/
theorem mul0 {l : Addr} {t u : Tok} {n : Nat} {x : Int} (F : Fr h₀ L s.heap m) (N : News h₀ L s.heap ((l, listOf #[Value.int 0 t] n) :: news)) (h0 : 0 ≤ x) (h1 : x ≤ 100)
    (h : ∀ D ws h', Fr h₀ L h' m → News h₀ L h' ((D, listOf (List.toArray ws) 0) :: news) → IntsAre ws (List.replicate x.toNat 0) → Q (.ref D) { s with heap := h' }) : wpAny (model prog w) A (binaryOp .Mult (.ref l) (.int x u)) Q E s :=
  KMa.mul (vs := [Value.int 0 t]) F N (headList (vs := [Value.int 0 t]) N) (by omega) (by omega) (by simp; omega) rfl fun D h' F' N' _ => h D _ h' F' (fun p hp => N' p (by rcases List.mem_cons.mp hp with rfl | hp; exact .head _; exact .tail _ (.tail _ hp))) (ints_rep _)
/-- a list that the call was handed, and one that it has made, end to end -/
theorem addHanded {a b : Addr} {vs ws : List Value} {ns ms : List Int} {n : Nat} (F : Fr h₀ L s.heap m) (N : News h₀ L s.heap ((b, listOf ws.toArray n) :: news)) (ha : h₀.IsList a vs.toArray) (hi : IntsAre vs ns) (hj : IntsAre ws ms) (hz : ns.length + ms.length ≤ 100000)
    (h : ∀ D us h', Fr h₀ L h' m → News h₀ L h' ((D, listOf (List.toArray us) 0) :: news) → IntsAre us (ns ++ ms) → Q (.ref D) { s with heap := h' }) : wpAny (model prog w) A (binaryOp .Add (.ref a) (.ref b)) Q E s :=
  kmk_add_ints F N (ha.at fun o e => F.keep a o e) (headList N) hi hj (fun D us h' F' N' _ hI => h D us h' F' (fun p hp => N' p (by rcases List.mem_cons.mp hp with rfl | hp; exact .head _; exact .tail _ (.tail _ hp))) hI) (by rw [sizeLine_eq]; omega)
end
theorem headList' {h₀ h : Heap} {L l : Addr} {its : Array Value} {news : List (Addr × Obj)} (N : News h₀ L h ((l, { cls := .type "list", data := .seq its }) :: news)) : h.IsList l its := ⟨_, (N _ (.head _)).1, rfl, _, rfl⟩
theorem eqN {a b : Nat} (h : a = b) : a = b := h
end

/-! ### W5 -/
section
theorem top_off_W5 : True := by
  w_top off
  trivial

local macro_rules | `(tactic| walk_at "call type:type") => `(tactic| ((with_reducible show wpAny _ _ (call _ [Value.bytes _ _]) _ _ _); refine call_type_of (Tx := "bytes") rfl (by decide +kernel) ?_))
local macro_rules | `(tactic| walk_at "getMethod bytes") => `(tactic| (first | with_reducible refine m_translate ?_ | with_reducible refine m_upper ?_ | with_reducible refine m_hex ?_ | with_reducible refine m_replace ?_ | with_reducible refine m_join ?_))
local macro_rules | `(tactic| walk_at "getMethod str") => `(tactic| (with_reducible refine m_encode ?_))
local macro_rules | `(tactic| walk_at "eval DictComp") => `(tactic| k_extra "my DictComp")
local macro_rules | `(tactic| walk_at "eval ListComp") => `(tactic| k_extra "my ListComp")
local macro_rules | `(tactic| walk_at "eval Name") => `(tactic| k_extra "my Name")
local macro_rules | `(tactic| walk_at "pyIter ref") => `(tactic| k_extra "my pyIter")
local macro_rules | `(tactic| walk_at "subscriptTail Name Slice ref ref") => `(tactic| k_extra "my slice")

theorem small_step {n c : Nat} (hn : n ≤ 1000) (h1 : 1 ≤ c) (h2 : c ≤ 3) : Builtin.Range.small 0 (n : Int) (c : Int) = true := by
  unfold Builtin.Range.small
  rw [rangeSize_pos (by omega) (by omega)]
  simp only [Builtin.Range.rangeFitsLong, Bool.and_eq_true, Bool.or_eq_true, decide_eq_true_eq, beq_iff_eq]
  rcases (by omega : c = 1 ∨ c = 2 ∨ c = 3) with rfl | rfl | rfl
  · simp; omega
  · simp; omega
  · simp; omega
theorem range_step {n c q : Nat} (h1 : 1 ≤ c) (h2 : c ≤ 3) (h : n = q * c) : Builtin.Range.rangeSize 0 (n : Int) (c : Int) = (q : Int) := by
  rw [rangeSize_pos (by omega) (by omega)]
  rcases (by omega : c = 1 ∨ c = 2 ∨ c = 3) with rfl | rfl | rfl <;> omega

/-- the number that a row of places makes in a base -/
def numOf (base : Int) (l : List Int) : Int := l.foldl (fun a p => a * base + p) 0
/-- the numbers of a row cut up by count -/
def cutNums (base : Int) (count : Nat) (fl : List Int) (n : Nat) : List Int := (List.range n).map fun j => numOf base ((fl.drop (j * count)).take count)
structure SN where
  ep : Nat
  vs : List Value
  outs : List Int
  hi : IntsAre vs outs
structure SI where
  num : Int
  t : Tok
theorem c_twelves {w : World} {d u : Nat} {fr : Option (List Env)} {gs : Option (List Code)} {s : Shared} {mg mb : Str → Option Value} {mean : ExcName → Option Value} {p : Program} {loose : List Str} {a : Addr} {vs : List Value} {ns : List Int} {t1 t2 : Tok} {base : Int} {count : Nat} :
   (hd.heap_39 w.params).In s.heap → Top p loose mean mg mb s.heap → Room d u 3 → s.heap.IsList a vs.toArray → IntsAre vs ns → ns.length ≤ 500 → (∀ n ∈ ns, 0 ≤ n ∧ n < 100) → 1 ≤ count → count ≤ 3 → (0 ≤ base ∧ base ≤ 100) →
   codeAny (model Challenge.rw_ki0009_01.row.prog w) (Ar d fr gs u) (.call (.ref 93) ⟨[.ref a, .int base t1, .int count t2], []⟩) (Ret s (fun v h => ∃ a vs, v = .ref a ∧ s.heap.get? a = none ∧ (∃ n, h.get? a = some (listOf vs.toArray n)) ∧ IntsAre vs (cutNums base count (ns ++ List.replicate ((-(ns.length : Int)) % (count : Int)).toNat 0) ((ns.length + count - 1) / count)))) s := by
  k_fill
  k_with_none
  intro X T hA hl hi hlen hsm hc1 hc2 hb
  refine' enter_def (binds := [(Str.ofString "places", .ref a), (Str.ofString "base", .int base t1), (Str.ofString "count", .int count t2)]) X T ?ho ?hcd ?hroom ?hb ?hl ?_ ?a1 ?a2 ?a3 ?a4
  case ho => k_is
  case hcd => k_is
  case hroom => exact hA.lt
  case hb => first | exact BindsTo.of_eq rfl | exact binds_K (by k_in) rfl (by k_is) rfl rfl rfl
  case hl => exact locs rfl
  case a1 => exact rfl
  case a2 => exact rfl
  case a3 => exact rfl
  case a4 => decide
  intro L h₁ hL F N
  (try dsimp only)
  have hpad : 0 ≤ (-(ns.length : Int)).fmod (count : Int) ∧ (-(ns.length : Int)).fmod (count : Int) < (count : Int) := by
    rw [Int.fmod_eq_emod_of_nonneg _ (by omega)]
    exact ⟨Int.emod_nonneg _ (by omega), Int.emod_lt_of_pos _ (by omega)⟩
  k_steps
  rename_i Df wsf _ hI _ _ _ lN _ hlt _ _ _ _ _ _ _ _ hR F9 N9 hk9
  generalize hfl : ns ++ (List.replicate ((-(ns.length : Int)).fmod (count : Int)).toNat [(0 : Int)]).flatten = fl at *
  have hfl2 : fl = ns ++ List.replicate ((-(ns.length : Int)) % (count : Int)).toNat 0 := by
    rw [← hfl, krep_flat, Int.fmod_eq_emod_of_nonneg _ (by omega)]
  have hfln : ns.length + (List.replicate ((-(ns.length : Int)).fmod (count : Int)).toNat [(0 : Int)]).flatten.length = fl.length := by
    rw [← hfl, List.length_append]
  rw [hfln] at hR
  obtain ⟨q, hq⟩ : ∃ q, fl.length = q * count ∧ q = (ns.length + count - 1) / count := by
    have h1 : fl.length = ns.length + ((-(ns.length : Int)) % (count : Int)).toNat := by rw [hfl2, List.length_append, List.length_replicate]
    rcases (by omega : count = 1 ∨ count = 2 ∨ count = 3) with rfl | rfl | rfl
    · exact ⟨_, by omega, rfl⟩
    · exact ⟨_, by omega, rfl⟩
    · exact ⟨_, by omega, rfl⟩
  have hflen : fl.length ≤ 503 := by
    have := hpad.2
    rw [hfl2, List.length_append, List.length_replicate]
    rw [Int.fmod_eq_emod_of_nonneg _ (by omega)] at this
    omega
  have hsm2 : ∀ n ∈ fl, 0 ≤ n ∧ n < 100 := by
    intro n hn
    rw [hfl2] at hn
    rcases List.mem_append.mp hn with h | h
    · exact hsm n h
    · rw [(List.mem_replicate.mp h).2]; decide
  refine wpAny_pyIter_range hR (small_step (by omega) (by omega) (by omega)) ?_
  refine kst_walk (σ := SN) (n := q) (fun c => [(lN, listOf c.vs.toArray c.ep), (Df, listOf wsf.toArray 0)]) (fun _ => []) [Str.ofString "number", Str.ofString "place"] (fun i c => c.outs = cutNums base count fl i) ⟨0, [], [], .nil⟩
    (Walks.range rfl _ 0 count q).bound ?_ ?_ ?_ ?_ (F9.push _) ?_ (fun _ h => nomatch h) rfl ?_ ?_
  · intro hm
    have h1 := ltN (loc_lt F9)
    have := eqN (List.mem_singleton.mp hm)
    dsimp only [envOf] at this
    omega
  · intro b hb
    rw [List.mem_singleton.mp hb]
    exact fresh_size F9
  · intro p hp hm
    have h1 : p.1 < _ := Heap.lt_size (N9 p (by rcases List.mem_cons.mp hp with rfl | hp; exact .head _; rw [List.mem_singleton.mp hp]; exact .tail _ (.head _))).1
    have h2 := ltN h1
    have := eqN (List.mem_singleton.mp hm)
    dsimp only at this
    omega
  · show IsRangeIter _ _ _ _ _
    rw [range_step (by omega) (by omega) hq.1]
    simpa using Heap.get?_push_size _ rfl
  · intro p hp
    have hN := N9 p (by rcases List.mem_cons.mp hp with rfl | hp; exact .head _; rw [List.mem_singleton.mp hp]; exact .tail _ (.head _))
    exact ⟨Heap.get?_push_of_some _ hN.1, hN.2⟩
  · rintro c i v u9 h tk own hi9 ⟨_, tt, rfl⟩ hoff hP F N
    clear F9 N9
    obtain ⟨ep, vs9, outs, hi10⟩ := c
    dsimp only at *
    have hown1 : ∀ p ∈ own, p.1 ≠ lN := hoff.ne (.head _)
    have hown2 : ∀ p ∈ own, p.1 ≠ Df := hoff.ne (.tail _ (.head _))
    k_with "my slice" => (k_dflt (refine slice_list (by assumption) (by assumption) ⟨_, (N1 _ (.tail _ (.head _))).1, rfl, _, rfl⟩ (.int _ _) (.int _ _) ?_ (by with_unfolding_all rfl) (by intro _; with_unfolding_all rfl) (by rw [List.size_toArray, hI.length, sizeLine_eq]; omega)); intro h2 F2 N2)
    walk1
    walk1
    walk1
    walk1
    walk1
    rename_i F1 N1
    refine For_invVF F1 rfl rfl ?_
    iterate 12 walk1
    rename_i h1
    have hic : (i + 1) * count ≤ fl.length := by
      rw [hq.1]; exact Nat.mul_le_mul_right _ hi9
    have hic2 : i * count + count ≤ fl.length := by rw [Nat.succ_mul] at hic; exact hic
    have hwl : wsf.length = fl.length := hI.length
    have esl : slicePick wsf.toArray (some (0 + (i : Int) * (count : Int))) (some (0 + (i : Int) * (count : Int) + (count : Int))) none = ((wsf.drop (i * count)).take count).toArray := by
      have e1 : (0 + (i : Int) * (count : Int)) = ((i * count : Nat) : Int) := by push_cast; omega
      have e2 : (0 + (i : Int) * (count : Int) + (count : Int)) = ((i * count + count : Nat) : Int) := by push_cast; omega
      rw [e1, ← Int.natCast_add, slicePick_run _ _ _ (by rw [List.size_toArray]; omega) (by omega)]
      simp
    rw [esl] at N2
    have hIsl : IntsAre ((wsf.drop (i * count)).take count) ((fl.drop (i * count)).take count) := (hI.drop _).take _
    have hln : ((fl.drop (i * count)).take count).length = count := by
      rw [List.length_take, List.length_drop]; omega
    have hln2 : ((wsf.drop (i * count)).take count).toArray.size = count := by
      rw [List.size_toArray, hIsl.length, hln]
    have lt1 : ∀ p ∈ [(lN, listOf vs9.toArray ep), (Df, listOf wsf.toArray 0)] ++ own, p.1 < h1.objs.size := fun p hp => Heap.lt_size (N1 p hp).1
    have hslt : h1.objs.size + 1 < h2.objs.size := Heap.lt_size (N2 _ (.head _)).1
    have hslt' := ltN hslt
    have hslf : s.heap.get? (h1.objs.size + 1) = none := (N2 _ (.head _)).2.2
    have hLlt := ltN (loc_lt F1)
    refine wpAny_pyIter_list (headList' N2) ?_
    refine kst_walk (σ := SI) (fun _ => [(lN, listOf vs9.toArray ep), (Df, listOf wsf.toArray 0)] ++ own) (fun c => [(Str.ofString "number", .int c.num c.t)]) [] (fun k c => c.num = numOf base (((fl.drop (i * count)).take count).take k) ∧ 0 ≤ c.num ∧ c.num < 128 ^ k) ⟨0, tk⟩
      (Walks.list rfl _ _ (Nat.ne_of_lt hslt) ((wsf.drop (i * count)).take count).toArray) ?_ ?_ ?_ ?_ (F2.push _) ?_ ?_ ?_ ?_ ?_
    · intro hm
      rcases List.mem_cons.mp hm with e | hm
      · have := eqN e
        dsimp only [envOf] at this
        omega
      · have := eqN (List.mem_singleton.mp hm)
        dsimp only [envOf] at this
        omega
    · intro b hb
      rw [List.mem_singleton.mp hb]
      exact fresh_size F2
    · intro p hp hm
      have hlt9 := ltN (lt1 p hp)
      rcases List.mem_cons.mp hm with e | hm
      · have := eqN e
        omega
      · have := eqN (List.mem_singleton.mp hm)
        omega
    · exact ⟨⟨_, Heap.get?_push_size _ rfl, rfl, rfl⟩, (headList' N2).push _⟩
    · intro p hp
      have hN := N2 p (.tail _ hp)
      exact ⟨Heap.get?_push_of_some _ hN.1, hN.2⟩
    · intro p hp
      rw [List.mem_singleton.mp hp]
      rfl
    · exact ⟨rfl, Int.le_refl _, by show (0 : Int) < 128 ^ 0; decide⟩
    · intro c k v u8 h8 tk8 own8 hk8 hPv hoff8 hP8 F8 N8
      obtain ⟨num, tn⟩ := c
      obtain ⟨hP8a, hP8b, hP8c⟩ := hP8
      dsimp only at hP8a hP8b hP8c
      rw [hln2] at hk8
      obtain ⟨pl, hpl⟩ : ∃ pl, ((fl.drop (i * count)).take count)[k]? = some pl := ⟨_, List.getElem?_eq_getElem (by rw [hln]; exact hk8)⟩
      obtain ⟨tp, hv8⟩ := hIsl.get k pl hpl
      have hv9 : v = .int pl tp := by
        have h7 : ((wsf.drop (i * count)).take count)[k]? = some v := by simpa using hPv
        rw [hv8] at h7
        exact (Option.some.inj h7).symm
      subst hv9
      have hplb := hsm2 pl (List.mem_of_mem_drop (List.mem_of_mem_take (List.mem_of_getElem? hpl)))
      have hnb : num < 2097152 := by
        refine Int.lt_of_lt_of_le hP8c ?_
        have : k ≤ 3 := by omega
        rcases (by omega : k = 0 ∨ k = 1 ∨ k = 2 ∨ k = 3) with rfl | rfl | rfl | rfl <;> decide
      clear F1 N1 F2 N2 F N
      k_steps
      rename_i F7 N7
      refine' kst_end (σ := SI) ⟨?n1, ?n2⟩ F7 N7 ?g1 ?g2 ?g3 trivial ?g4 ?g5 ?g6
      case g1 => exact fun p hp => List.mem_append_left _ hp
      case g2 => exact fun p hp => List.mem_append_right _ hp
      case g3 => rfl
      case g4 =>
        intro p hp
        rw [List.mem_singleton.mp hp]
        rfl
      case g5 =>
        intro z hz h2 _
        have a1 := h2 _ (.head _)
        simp only [kstB, hz, a1, if_false, List.contains_nil, Bool.false_eq_true]
      case g6 =>
        dsimp only
        rw [List.length_replicate]
        refine ⟨?_, ?_, ?_⟩
        · show num * base + pl = _
          rw [List.take_add_one, hpl, hP8a]
          simp [numOf]
        · show 0 ≤ num * base + pl
          have := Int.mul_nonneg hP8b hb.1
          omega
        · show num * base + pl < 128 ^ (k + 1)
          have h5 : num * base ≤ (128 ^ k - 1) * 100 := Int.mul_le_mul (by omega) hb.2 hb.1 (by omega)
          rw [Int.pow_succ]
          omega
    · intro c u8 h8 tk8 hP8 F8 N8
      rw [hln2] at hP8
      obtain ⟨num, tn⟩ := c
      obtain ⟨hP8a, hP8b, hP8c⟩ := hP8
      dsimp only at hP8a
      rw [List.take_of_length_le (by omega)] at hP8a
      clear F1 N1 F2 N2 F N
      have hDl : Df ≠ lN := Nat.ne_of_lt hlt.1
      have hol : ∀ p ∈ (Df, listOf wsf.toArray 0) :: own, p.1 ≠ lN := fun p hp => by
        rcases List.mem_cons.mp hp with rfl | hp
        · exact hDl
        · exact hown1 p hp
      have hvl : vs9.length ≤ 1000 := by
        rw [hi10.length, hP, cutNums, List.length_map, List.length_range]
        have : i < fl.length + 1 := by
          have := Nat.le_mul_of_pos_right i (by omega : 0 < count)
          omega
        omega
      k_with "call builtin:list.append" => (k_dflt (refine append_L (by assumption) (by assumption) hol (by omega) ?_); intro h' F' N')
      k_steps
      refine' kst_end (σ := SN) ⟨?m1, vs9 ++ [?m2], outs ++ [num], ?m3⟩ F' N' ?h1 ?h2 ?h3 trivial ?h4 ?h5 ?h6
      case h1 =>
        intro p hp
        rcases List.mem_cons.mp hp with rfl | hp
        · exact .head _
        · rw [List.mem_singleton.mp hp]
          exact .tail _ (.head _)
      case m3 => exact IntsAre.snoc hi10
      case h2 => exact fun p hp => .tail _ (.tail _ hp)
      case h3 => rfl
      case h4 => exact fun _ h => nomatch h
      case h5 =>
        intro z hz _ h3
        simp only [List.contains_cons, List.contains_nil, Bool.or_false, Bool.or_eq_false_iff, beq_eq_false_iff_ne, ne_eq] at h3
        simp only [kstB, hz, h3.1, h3.2, if_false, List.contains_nil, Bool.false_eq_true, List.contains_cons, beq_iff_eq, Bool.or_false, Bool.or_self, decide_false, beq_eq_false_iff_ne]
        rw [if_neg (by simp [h3.1, h3.2])]
      case h6 =>
        dsimp only
        rw [List.length_replicate]
        rw [hP, cutNums, cutNums, List.range_succ, List.map_append, hP8a]
        rfl
  · intro c u9 h9 tk9 hP F N
    clear F9 N9
    obtain ⟨ep, vs9, outs, hi10⟩ := c
    dsimp only at *
    k_steps
    refine ret_of (by assumption) ⟨lN, vs9, rfl, (N _ (.head _)).2.2, ⟨_, (N _ (.head _)).1⟩, ?_⟩
    rw [← hfl2, ← hq.2, ← hP]
    exact hi10
end

/-! ### T4 -/
section
theorem top_off_T4 : True := by
  w_top off
  trivial

local macro_rules | `(tactic| walk_at "call type:type") => `(tactic| ((with_reducible show wpAny _ _ (call _ [Value.bytes _ _]) _ _ _); refine call_type_of (Tx := "bytes") rfl (by decide +kernel) ?_))
section
variable {prog : Program} {w : World} {A : Around} {E : Value → Shared → Prop} {s : Shared}
theorem no_iadd_bytes : typeLookup (.type "bytes") (dunderI "add") = pure none := by rw [typeLookup_type, builtinLookup_eq_fast]; kernel_rfl
/-- b += c of bytes -/
theorem iadd_bytes {b c : Array UInt8} {t u : Tok} {Q : Value → Shared → Prop} (hsz : b.size + c.size ≤ 1000000) (h : ∀ t' k, Q (.bytes (b ++ c) t') { s with toks := k }) : wpAny (model prog w) A (inplaceOp .Add (.bytes b t) (.bytes c u)) Q E s := by
  refine wpAny_inplaceOp_concat (typeIs_bytes s b t) (typeIs_bytes s c u) no_iadd_bytes KBy.noFill_bytes_add KBy.seq_bytes_add (call_gives FB.slot_bytes_add (typeIs_bytes s b t) FB.entry_bytes_add (FB.args_bytes_add_2 _ _) (KBy.gives_bytes_add (KBy.tooLong_not (by omega))) ?_)
  by_cases hb : b.isEmpty = true
  · rw [if_pos hb]
    have e : b = #[] := Array.isEmpty_iff.1 hb
    have h' := h u s.toks
    rw [e, Array.empty_append] at h'
    exact h'
  · rw [if_neg hb]
    by_cases hc : c.isEmpty = true
    · rw [if_pos hc]
      have e : c = #[] := Array.isEmpty_iff.1 hc
      have h' := h t s.toks
      rw [e, Array.append_empty] at h'
      exact h'
    · rw [if_neg hc]
      refine ⟨?_, h _ _⟩
      rw [sizeLine_eq]; simp; omega
/-- xs[-1] = v -/
theorem setLast {h₀ : Heap} {L l : Addr} {m : Str → Option Value} {own : List (Addr × Obj)} {vs : List Value} {x v : Value} {n : Nat} {t : Tok} {Q : Unit → Shared → Prop} (F : Fr h₀ L s.heap m) (N : News h₀ L s.heap ((l, listOf (vs ++ [x]).toArray n) :: own)) (ho : ∀ p ∈ own, p.1 ≠ l)
    (hQ : ∀ h', Fr h₀ L h' m → News h₀ L h' ((l, listOf (vs ++ [v]).toArray n) :: own) → Q () { s with heap := h' }) : wpAny (model prog w) A (setItem (.ref l) (.int (-1) t) v) Q E s := by
  have hl : s.heap.IsList l (vs ++ [x]).toArray := headList N
  have hob := (N _ (.head _)).1
  unfold setItem
  try with_reducible refine wpAny_holding ?_
  first | refine wpAny_bind (wpAny_pure ?_) | skip
  refine wpAny_bind (wpAny_sequenceKey hl.typeIs (by decide) ?_)
  refine wpAny_bind (wpAny_callSpecial?_slot (name := Str.ofString "__setitem__") hl.typeIs slot_list_setitem
    (wpAny_call_entry slot_list_setitem hl.typeIs entry_list_setitem ?_ (args_list_setitem _ _ _)))
  show wpAny _ _ (Builtin.List.listSubscript? (.int (-1) t) >>= _) _ _ s
  refine wpAny_bind (wpAny_listSubscript_int (fitsIndex_neg (by decide) (by decide)) ?_)
  have hidx : seqIndex? (-1) (vs ++ [x]).toArray.size = some vs.length := by
    rw [seqIndex_neg (by decide) (by simp; omega)]
    simp
    omega
  show wpAny _ _ ((Builtin.List.listItems (.ref l) >>= fun xs => pure ((seqIndex? (Int.negSucc 0) xs.size).bind fun i => xs[i]?.map (i, ·))) >>= _) _ _ s
  refine wpAny_bind (wpAny_bind ?_)
  show wpAny _ _ (seqItems? (.ref l) >>= _) _ _ s
  refine wpAny_bind (wpAny_seqItems hob rfl (wpAny_pure (wpAny_pure ?_)))
  have e : (seqIndex? (Int.negSucc 0) (vs ++ [x]).toArray.size).bind (fun i => (vs ++ [x]).toArray[i]?.map (i, ·)) = some (vs.length, x) := by
    show (seqIndex? (-1) (vs ++ [x]).toArray.size).bind _ = _
    rw [hidx]
    simp
  rw [e]
  show wpAny _ _ (setSeqItemAt l vs.length v >>= _) _ _ s
  have U := news_upd (pre := []) (f := Obj.mapSeq (·.setIfInBounds vs.length v)) (o' := listOf (vs ++ [v]).toArray n) F N (fun _ h => nomatch h) ho (by simp [Obj.mapSeq, W.listOf]) rfl
  refine wpAny_bind (wpAny_setSeqItemAt hob rfl ?_)
  first
    | exact wpAny_bind (wpAny_pure (wpAny_pure ⟨.none, rfl, wpAny_pure (hQ _ U.1 U.2)⟩))
    | exact wpAny_pure ⟨.none, rfl, wpAny_pure (hQ _ U.1 U.2)⟩
/-- xs[-1] -/
theorem getLast {h₀ : Heap} {L l : Addr} {own : List (Addr × Obj)} {vs : List Value} {x : Value} {n : Nat} {t : Tok} {Q : Value → Shared → Prop} (N : News h₀ L s.heap ((l, listOf (vs ++ [x]).toArray n) :: own)) (h : Q x s) : wpAny (model prog w) A (getItem (.ref l) (.int (-1) t)) Q E s :=
  wpAny_getItem_list_neg (headList N) (by decide) (by simp; omega) (by decide) (by
    have : (-1 + ((vs ++ [x]).toArray.size : Int)).toNat = vs.length := by simp; omega
    rw [this]; simp) h
end
theorem cut_aux {α : Type} (l : List α) (i j : Nat) : (l.drop (min i l.length)).take (min j l.length - min i l.length) = (l.drop i).take (j - i) := by
  by_cases h : i ≤ l.length
  · rw [Nat.min_eq_left h]
    by_cases h2 : j ≤ l.length
    · rw [Nat.min_eq_left h2]
    · rw [Nat.min_eq_right (by omega), List.take_of_length_le (by rw [List.length_drop]; omega), List.take_of_length_le (by rw [List.length_drop]; omega)]
  · have h3 : min i l.length = l.length := by omega
    rw [h3, List.drop_of_length_le (l := l) (i := i) (by omega), List.drop_of_length_le (Nat.le_refl l.length)]
    simp
theorem picked_nat (b : Array UInt8) (i j : Nat) : KBy.picked b (some (i : Int)) (some (j : Int)) = b.extract i j := by
  rw [KBc.picked_eq]
  apply Array.toList_inj.mp
  have hz : b.size = b.toList.length := by simp
  simp only [Option.elim, clipAt_nat]
  rw [hz, cut_aux]
  simp
theorem picked_to (b : Array UInt8) (j : Nat) : KBy.picked b none (some (j : Int)) = b.extract 0 j := by
  rw [KBc.picked_eq]
  apply Array.toList_inj.mp
  have hz : b.size = b.toList.length := by simp
  simp only [Option.elim, clipAt_nat]
  have := cut_aux b.toList 0 j
  rw [Nat.zero_min] at this
  rw [hz, this]
  simp
theorem picked_from (b : Array UInt8) (i : Nat) : KBy.picked b (some (i : Int)) none = b.extract i b.size := by
  rw [KBc.picked_eq]
  apply Array.toList_inj.mp
  have hz : b.size = b.toList.length := by simp
  simp only [Option.elim, clipAt_nat]
  have := cut_aux b.toList i b.toList.length
  rw [Nat.min_self] at this
  rw [hz, this]
  simp
/-- a cut of bytes -/
theorem cutB {prog : Program} {w : World} {A : Around} {E : Value → Shared → Prop} {s : Shared} {value slice : PySem.Expr} {b c : Array UInt8} {t : Tok} {h₀ : Heap} {L : Addr} {m : PySem.Str → Option Value} {news : List (Addr × Obj)} {l u : Value} {lo hi : Option Int} {Q : Value → Shared → Prop}
    (hF : Fr h₀ L s.heap m) (hN : News h₀ L s.heap news) (hl : IsPart l lo) (hu : IsPart u hi) (hz : b.size ≤ 100000) (e : KBy.picked b lo hi = c)
    (h : ∀ h' t' k, Fr h₀ L h' m → News h₀ L h' news → Q (.bytes c t') { s with heap := h', toks := k })
    (hs : subscripted slice false (.bytes b t) (.ref s.heap.objs.size) = operate [.ref s.heap.objs.size, .bytes b t] (getItem (.bytes b t) (.ref s.heap.objs.size)))
    (ht : ∀ r, letTemporaryGo value (.bytes b t) r = pure ()) :
    wpAny (model prog w) A (subscriptTail value slice (.bytes b t) (.ref s.heap.objs.size)) Q E { s with heap := s.heap.push { cls := .type "slice", data := .fields #[l, u, .none] } } :=
  KBc.slice_K hF hN rfl hl hu (by rw [KBw.ints_length]; omega) (fun h' t' k F' N' _ => by rw [e]; exact h h' t' k F' N') hs ht
end

/-! ### W6 -/
section
theorem top_off_W6 : True := by
  w_top off
  trivial

local macro_rules | `(tactic| walk_at "call type:type") => `(tactic| ((with_reducible show wpAny _ _ (call _ [Value.bytes _ _]) _ _ _); refine call_type_of (Tx := "bytes") rfl (by decide +kernel) ?_))
local macro_rules | `(tactic| walk_at "getMethod bytes") => `(tactic| (first | with_reducible refine m_translate ?_ | with_reducible refine m_upper ?_ | with_reducible refine m_hex ?_ | with_reducible refine m_replace ?_ | with_reducible refine m_join ?_))
local macro_rules | `(tactic| walk_at "getMethod str") => `(tactic| (with_reducible refine m_encode ?_))
local macro_rules | `(tactic| walk_at "eval DictComp") => `(tactic| k_extra "my DictComp")
local macro_rules | `(tactic| walk_at "eval ListComp") => `(tactic| k_extra "my ListComp")
local macro_rules | `(tactic| walk_at "eval Name") => `(tactic| k_extra "my Name")
local macro_rules | `(tactic| walk_at "pyIter ref") => `(tactic| k_extra "my pyIter")
local macro_rules | `(tactic| walk_at "subscriptTail Name Slice ref ref") => `(tactic| k_extra "my slice")

theorem cat_snoc (bs : List (Array UInt8)) (b : Array UInt8) : cat (bs ++ [b]) = cat bs ++ b := by
  apply Array.toList_inj.mp
  simp [cat]
theorem BytesAre.unsnoc {last : Array UInt8} : ∀ {ini : List (Array UInt8)} {vs : List Value}, BytesAre vs (ini ++ [last]) → ∃ vini t, vs = vini ++ [.bytes last t] ∧ BytesAre vini ini
  | [], vs, h => by
    cases h with
    | cons b t h =>
      cases h
      exact ⟨[], t, rfl, .nil⟩
  | a :: ini, vs, h => by
    cases h with
    | cons b t h =>
      obtain ⟨vini, t', e, h'⟩ := BytesAre.unsnoc h
      exact ⟨_ :: vini, t', by rw [e]; rfl, .cons _ _ h'⟩
structure SP where
  ep : Nat
  vs : List Value
  bs : List (Array UInt8)
  hv : BytesAre vs bs
theorem c_pieces {w : World} {d u : Nat} {fr : Option (List Env)} {gs : Option (List Code)} {s : Shared} {mg mb : Str → Option Value} {mean : ExcName → Option Value} {p : Program} {loose : List Str} {a : Addr} {vs : List Value} {ns : List Int} {b : Array UInt8} {t : Tok} :
   (hd.heap_39 w.params).In s.heap → Top p loose mean mg mb s.heap → Room d u 3 → s.heap.IsList a vs.toArray → IntsAre vs ns → ns.length = b.size → b.size ≤ 1000 →
   codeAny (model Challenge.rw_ki0009_01.row.prog w) (Ar d fr gs u) (.call (.ref 107) ⟨[.bytes b t, .ref a], []⟩) (Ret s (fun v h => ∃ a vs bs, v = .ref a ∧ s.heap.get? a = none ∧ (∃ n, h.get? a = some (listOf vs.toArray n)) ∧ BytesAre vs bs ∧ cat bs = b ∧ bs.length ≤ b.size + 1)) s := by
  k_fill
  k_with_none
  intro X T hA hl hi hlen hbs
  refine' enter_def (binds := [(Str.ofString "octets", .bytes b t), (Str.ofString "numbers", .ref a)]) X T ?ho ?hcd ?hroom ?hb ?hl ?_ ?a1 ?a2 ?a3 ?a4
  case ho => k_is
  case hcd => k_is
  case hroom => exact hA.lt
  case hb => first | exact BindsTo.of_eq rfl | exact binds_K (by k_in) rfl (by k_is) rfl rfl rfl
  case hl => exact locs rfl
  case a1 => exact rfl
  case a2 => exact rfl
  case a3 => exact rfl
  case a4 => decide
  intro L h₁ hL F N
  (try dsimp only)
  iterate 25 walk1
  rename_i lP _ _ _ _ _ _ _ _ _ _ hR F9 N9 hk9
  obtain ⟨t0, N9⟩ : ∃ t0, News s.heap L _ [(lP, listOf [Value.bytes #[] t0].toArray 0)] := ⟨_, N9⟩
  have hsm : Builtin.Range.small 0 (b.size : Int) 1 = true := small_one (by decide) (by decide) (by omega) (by omega)
  have hn : Builtin.Range.rangeSize 0 (b.size : Int) 1 = (b.size : Int) := by rw [rangeSize_nat]; simp
  refine wpAny_pyIter_range hR hsm ?_
  refine kst_walk (σ := SP) (n := b.size) (fun c => [(lP, listOf c.vs.toArray c.ep)]) (fun _ => []) [] (fun i c => ∃ ini last, c.bs = ini ++ [last] ∧ cat c.bs = b.extract 0 i ∧ c.bs.length ≤ i + 1) ⟨0, [.bytes #[] t0], [#[]], .cons _ _ .nil⟩
    (Walks.range rfl _ 0 1 b.size).bound ?_ ?_ ?_ ?_ (F9.push _) ?_ (fun _ h => nomatch h) ⟨[], #[], rfl, by simp [cat], by simp⟩ ?_ ?_
  · intro hm
    have h1 := ltN (loc_lt F9)
    have := eqN (List.mem_singleton.mp hm)
    dsimp only [envOf] at this
    omega
  · intro b hb
    rw [List.mem_singleton.mp hb]
    exact fresh_size F9
  · intro p hp hm
    have h1 : p.1 < _ := Heap.lt_size (N9 p (by rw [List.mem_singleton.mp hp]; exact .head _)).1
    have h2 := ltN h1
    have := eqN (List.mem_singleton.mp hm)
    dsimp only at this
    omega
  · show IsRangeIter _ _ _ _ _
    rw [hn]
    simpa using Heap.get?_push_size _ rfl
  · intro p hp
    have hN := N9 p (by rw [List.mem_singleton.mp hp]; exact .head _)
    exact ⟨Heap.get?_push_of_some _ hN.1, hN.2⟩
  · rintro c i v u9 h tk own hi9 ⟨_, tt, rfl⟩ hoff ⟨ini, last, hb1, hb2, hb3⟩ F N
    clear F9 N9
    obtain ⟨ep, vs9, bs, hv⟩ := c
    dsimp only at *
    subst hb1
    have hown1 : ∀ p ∈ own, p.1 ≠ lP := hoff.ne (.head _)
    obtain ⟨vini, tl, rfl, hvi⟩ := BytesAre.unsnoc hv
    have hll : last.size ≤ b.size := by
      have h3 := congrArg Array.size hb2
      simp [cat] at h3
      omega
    have ecat : cat (ini ++ [last ++ b.extract i (i + 1)]) = b.extract 0 (i + 1) := by
      rw [cat_snoc, ← Array.append_assoc, ← cat_snoc, hb2]
      have h1 := Array.extract_append_extract (as := b) (i := 0) (j := i) (k := i + 1)
      have h3 : min 0 i = 0 := by omega
      have h2 : max i (i + 1) = i + 1 := by omega
      rw [h3, h2] at h1
      exact h1
    have hb4 : ini.length ≤ i := by rw [List.length_append, List.length_singleton] at hb3; omega
    have ecut : KBy.picked b (some (0 + (i : Int) * 1)) (some (0 + (i : Int) * 1 + 1)) = b.extract i (i + 1) := by
      have e1 : (0 + (i : Int) * 1) = ((i : Nat) : Int) := by omega
      rw [e1]
      exact picked_nat b i (i + 1)
    k_with "subscriptTail" => (k_dflt (refine cutB (by assumption) (by assumption) (.int _ _) (.int _ _) (by omega) ecut ?_ (by with_unfolding_all rfl) (by intro _; with_unfolding_all rfl)); intro h6 t6 k6 F6 N6)
    k_with "getItem ref int" => (k_dflt (refine getLast (by assumption) ?_))
    k_with "inplaceOp Add bytes bytes" => (k_dflt (refine iadd_bytes (by rw [Array.size_extract]; omega) ?_); intro t8 k8)
    k_with "setItem ref int" => (k_dflt (refine setLast (by assumption) (by assumption) (by assumption) ?_); intro h' F' N')
    have hvl : (vini ++ [Value.bytes last tl]).length ≤ 2000 := by
      have := hv.length
      rw [this]; omega
    k_with "call builtin:list.append" => (k_dflt (refine append_L (by assumption) (by assumption) (by assumption) (by simp only [List.length_append, List.length_cons, List.length_nil] at hvl ⊢; omega) ?_); intro h' F' N')
    k_steps
    · refine' kst_end (σ := SP) ⟨?m1a, vini ++ [.bytes (last ++ b.extract i (i + 1)) _] ++ [.bytes #[] _], ini ++ [last ++ b.extract i (i + 1)] ++ [#[]], ?m3a⟩ F' N' ?h1a ?h2a ?h3a trivial ?h4a ?h5a ?h6a
      case h1a =>
        intro p hp
        rw [List.mem_singleton.mp hp]
        exact .head _
      case m3a => exact BytesAre.snoc (BytesAre.snoc hvi)
      case h2a => exact fun p hp => .tail _ hp
      case h3a => rfl
      case h4a => exact fun _ h => nomatch h
      case h5a =>
        intro z hz _ _
        simp only [kstB, hz, if_false, List.contains_nil, Bool.false_eq_true]
      case h6a =>
        dsimp only
        rw [List.length_replicate]
        exact ⟨_, _, rfl, by rw [cat_snoc, ecat]; simp, by simp; omega⟩
    · refine' kst_end (σ := SP) ⟨?m1b, vini ++ [.bytes (last ++ b.extract i (i + 1)) _], ini ++ [last ++ b.extract i (i + 1)], ?m3b⟩ F' N' ?h1b ?h2b ?h3b trivial ?h4b ?h5b ?h6b
      case h1b =>
        intro p hp
        rw [List.mem_singleton.mp hp]
        exact .head _
      case m3b => exact BytesAre.snoc hvi
      case h2b => exact fun p hp => .tail _ hp
      case h3b => rfl
      case h4b => exact fun _ h => nomatch h
      case h5b =>
        intro z hz _ _
        simp only [kstB, hz, if_false, List.contains_nil, Bool.false_eq_true]
      case h6b =>
        dsimp only
        rw [List.length_replicate]
        exact ⟨_, _, rfl, ecat, by simp; omega⟩
  · intro c u9 h9 tk9 hP F N
    clear F9 N9
    obtain ⟨ep, vs9, bs, hv⟩ := c
    obtain ⟨ini, last, hb1, hb2, hb3⟩ := hP
    dsimp only at *
    k_steps
    refine ret_of (by assumption) ⟨lP, vs9, bs, rfl, (N _ (.head _)).2.2, ⟨_, (N _ (.head _)).1⟩, hv, ?_, hb3⟩
    rw [hb2, Array.extract_size]
end

/-! ### W7 -/
section
theorem top_off_W7 : True := by
  w_top off
  trivial

local macro_rules | `(tactic| walk_at "call type:type") => `(tactic| ((with_reducible show wpAny _ _ (call _ [Value.bytes _ _]) _ _ _); refine call_type_of (Tx := "bytes") rfl (by decide +kernel) ?_))
local macro_rules | `(tactic| walk_at "getMethod bytes") => `(tactic| (first | with_reducible refine m_translate ?_ | with_reducible refine m_upper ?_ | with_reducible refine m_hex ?_ | with_reducible refine m_replace ?_ | with_reducible refine m_join ?_))
local macro_rules | `(tactic| walk_at "getMethod str") => `(tactic| (with_reducible refine m_encode ?_))
local macro_rules | `(tactic| walk_at "eval DictComp") => `(tactic| k_extra "my DictComp")
local macro_rules | `(tactic| walk_at "eval ListComp") => `(tactic| k_extra "my ListComp")
local macro_rules | `(tactic| walk_at "eval Name") => `(tactic| k_extra "my Name")
local macro_rules | `(tactic| walk_at "pyIter ref") => `(tactic| k_extra "my pyIter")
local macro_rules | `(tactic| walk_at "subscriptTail Name Slice ref ref") => `(tactic| k_extra "my slice")

/-- base 64's writing of octets -/
abbrev b64A (b : Array UInt8) : Array UInt8 := ((enc64 (b.toList.map (·.toNat))).map (·.toUInt8)).toArray
theorem cat_append (xs ys : List (Array UInt8)) : cat (xs ++ ys) = cat xs ++ cat ys := by
  apply Array.toList_inj.mp
  simp [cat]
theorem size_b64 (b : Array UInt8) : (b64A b).size ≤ 2 * b.size + 2 := by
  have := enc64_len_le (b.toList.map (·.toNat))
  have h5 : b.toList.length = b.size := by simp
  rw [List.size_toArray, List.length_map]
  rw [List.length_map] at this
  omega
theorem b64_append {a b : Array UInt8} (h : a.size % 3 = 0) : b64A (a ++ b) = b64A a ++ b64A b := by
  have h5 : (a.toList.map (·.toNat)).length % 3 = 0 := by simpa using h
  unfold b64A
  rw [Array.toList_append, List.map_append, enc64_append h5, List.map_append, List.append_toArray]
theorem cat_take_le (bs : List (Array UInt8)) (i : Nat) : (cat (bs.take i)).size ≤ (cat bs).size := by
  have h : bs = bs.take i ++ bs.drop i := (List.take_append_drop i bs).symm
  have e : cat bs = cat (bs.take i) ++ cat (bs.drop i) := by
    conv => lhs; rw [h]
    exact cat_append _ _
  rw [e, Array.size_append]
  omega
structure SH where
  wr : Array UInt8
  lf : Array UInt8
  t1 : Tok
  t2 : Tok
theorem c_handed {w : World} {d u : Nat} {fr : Option (List Env)} {gs : Option (List Code)} {s : Shared} {mg mb : Str → Option Value} {mean : ExcName → Option Value} {p : Program} {loose : List Str} {a : Addr} {vs : List Value} {bs : List (Array UInt8)} :
   (hd.heap_39 w.params).In s.heap → Top p loose mean mg mb s.heap → Room d u 5 → s.heap.IsList a vs.toArray → BytesAre vs bs → (cat bs).size ≤ 400 →
   codeAny (model Challenge.rw_ki0009_01.row.prog w) (Ar d fr gs u) (.call (.ref 114) ⟨[.ref a], []⟩) (Ret s (fun v _ => ∃ t', v = .bytes (b64A (cat bs)) t')) s := by
  k_fill
  k_with_none
  intro X T hA hl hv hsz
  refine' enter_def (binds := [(Str.ofString "pieces", .ref a)]) X T ?ho ?hcd ?hroom ?hb ?hl ?_ ?a1 ?a2 ?a3 ?a4
  case ho => k_is
  case hcd => k_is
  case hroom => exact hA.lt
  case hb => first | exact BindsTo.of_eq rfl | exact binds_K (by k_in) rfl (by k_is) rfl rfl rfl
  case hl => exact locs rfl
  case a1 => exact rfl
  case a2 => exact rfl
  case a3 => exact rfl
  case a4 => decide
  intro L h₁ hL F N
  (try dsimp only)
  iterate 20 walk1
  rename_i F1 N1
  obtain ⟨ta, tb, F1⟩ : ∃ ta tb, Fr s.heap L _ (fun y => if y = Str.ofString "left" then some (Value.bytes #[] tb) else if y = Str.ofString "written" then some (Value.bytes #[] ta) else List.lookup y [(Str.ofString "pieces", Value.ref a)].reverse) := ⟨_, _, F1⟩
  refine For_invVF F1 rfl rfl ?_
  walk1
  have hlr : s.heap.IsList a vs.toArray := hl
  obtain ⟨oa, hoa, _⟩ := id hl
  have haL : a < L := Nat.lt_of_lt_of_le (Heap.lt_size hoa) F1.above
  have haI := Nat.lt_trans haL (loc_lt F1)
  refine wpAny_pyIter_list (hl.at fun o e => F1.keep a o e) ?_
  refine kst_walk (σ := SH) (fun _ => []) (fun c => [(Str.ofString "written", .bytes c.wr c.t1), (Str.ofString "left", .bytes c.lf c.t2)]) [Str.ofString "whole"]
    (fun i c => ∃ q : Array UInt8, q.size % 3 = 0 ∧ q ++ c.lf = cat (bs.take i) ∧ c.wr = b64A q) ⟨#[], #[], ta, tb⟩
    (Walks.list rfl _ a (Nat.ne_of_lt haI) vs.toArray) ?_ ?_ (fun _ h => nomatch h) ?_ (F1.push _) (fun _ h => nomatch h) ?_ ?_ ?_ ?_
  · intro hm
    rcases List.mem_cons.mp hm with e | hm
    · exact absurd (loc_lt F1) (e ▸ Nat.lt_irrefl _)
    · exact absurd haL (by rw [← List.mem_singleton.mp hm]; exact Nat.lt_irrefl _)
  · intro b hb
    rw [List.mem_singleton.mp hb]
    exact fresh_size F1
  · exact ⟨⟨_, Heap.get?_push_size _ rfl, rfl, rfl⟩, (hl.at fun o e => F1.keep a o e).push _⟩
  · intro p hp
    rcases List.mem_cons.mp hp with rfl | hp
    · rfl
    · rw [List.mem_singleton.mp hp]
      rfl
  · exact ⟨#[], rfl, by simp [cat], rfl⟩
  · rintro c i v u9 h tk own hi9 hPv hoff ⟨q, hp1, hp2, hp3⟩ F N
    obtain ⟨wr, lf, t1, t2⟩ := c
    dsimp only at *
    have hi9' : i < bs.length := by rw [List.size_toArray, hv.length] at hi9; exact hi9
    obtain ⟨pc, hpc⟩ : ∃ pc, bs[i]? = some pc := ⟨_, List.getElem?_eq_getElem hi9'⟩
    obtain ⟨tp, hvp⟩ := hv.get i pc hpc
    have hve : v = .bytes pc tp := by
      have h7 : vs[i]? = some v := by simpa using hPv
      rw [hvp] at h7
      exact (Option.some.inj h7).symm
    subst hve
    have hct : cat (bs.take (i + 1)) = q ++ (lf ++ pc) := by
      rw [List.take_add_one, hpc]
      show cat (bs.take i ++ [pc]) = _
      rw [cat_snoc, ← hp2, Array.append_assoc]
    have hsz2 : (cat (bs.take (i + 1))).size ≤ 400 := Nat.le_trans (cat_take_le _ _) hsz
    have hs3 : q.size + (lf.size + pc.size) ≤ 400 := by
      rw [hct] at hsz2
      simpa using hsz2
    clear F1 N1
    generalize hlp : lf ++ pc = lp at *
    have hlz : lp.size = lf.size + pc.size := by rw [← hlp, Array.size_append]
    have ew : ((lp.size : Int).fdiv 3) * 3 = ((lp.size / 3 * 3 : Nat) : Int) := by
      rw [Int.fdiv_eq_ediv_of_nonneg _ (by decide)]
      omega
    have ec1 : KBy.picked lp none (some ((lp.size : Int).fdiv 3 * 3)) = lp.extract 0 (lp.size / 3 * 3) := by rw [ew]; exact picked_to _ _
    have ec2 : KBy.picked lp (some ((lp.size : Int).fdiv 3 * 3)) none = lp.extract (lp.size / 3 * 3) lp.size := by rw [ew]; exact picked_from _ _
    have hwz : wr.size ≤ 2 * q.size + 2 := by rw [hp3]; exact size_b64 q
    have hez : (b64A (lp.extract 0 (lp.size / 3 * 3))).size ≤ 2 * lp.size + 2 := by
      refine Nat.le_trans (size_b64 _) ?_
      rw [Array.size_extract]
      omega
    k_with "inplaceOp Add bytes bytes" => (k_dflt (refine iadd_bytes (by first | omega | exact Nat.le_trans (Nat.add_le_add_left hez _) (by omega)) ?_); intro t8 k8; (try rw [hlp]))
    k_with "call builtin:len" => (k_dflt (refine len_bytes (by omega) ?_))
    k_with "subscriptTail" => (k_dflt (first | refine cutB (by assumption) (by assumption) .none (.int _ _) (by omega) ec1 ?_ (by with_unfolding_all rfl) (by intro _; with_unfolding_all rfl) | refine cutB (by assumption) (by assumption) (.int _ _) .none (by omega) ec2 ?_ (by with_unfolding_all rfl) (by intro _; with_unfolding_all rfl)); intro h6 t6 k6 F6 N6)
    k_with "call ref" => (refine call_by (by assumption) (by assumption) (c_b64 (by k_in) (Top.keeps (by assumption) (Fr.keep (by assumption))) (by exact hA.deeper.mono (by decide)) (by rw [Array.size_extract]; omega)) ?_; intro v' h' t' e' F' N' k'; obtain ⟨t9, rfl⟩ := e')
    k_steps
    rename_i F7 N7
    refine' kst_end (σ := SH) ⟨wr ++ b64A (lp.extract 0 (lp.size / 3 * 3)), lp.extract (lp.size / 3 * 3) lp.size, ?m1, ?m2⟩ F7 N7 ?h1 ?h2 ?h3 trivial ?h4 ?h5 ?h6
    case h1 => exact fun _ h => nomatch h
    case h2 => exact fun p hp => hp
    case h3 => rfl
    case h4 =>
      intro p hp
      rcases List.mem_cons.mp hp with rfl | hp
      · rfl
      · rw [List.mem_singleton.mp hp]
        rfl
    case h5 =>
      intro z hz h2 h3
      have a1 := h2 _ (.head _)
      have a2 := h2 _ (.tail _ (.head _))
      simp only [List.contains_cons, List.contains_nil, Bool.or_false, beq_eq_false_iff_ne, ne_eq] at h3
      simp only [kstB, hz, a1, a2, h3, if_false, List.contains_nil, Bool.false_eq_true, List.contains_cons, beq_iff_eq, Bool.or_false]
    case h6 =>
      dsimp only
      rw [List.length_replicate]
      refine ⟨q ++ lp.extract 0 (lp.size / 3 * 3), ?_, ?_, ?_⟩
      · rw [Array.size_append, Array.size_extract]
        omega
      · rw [hct, Array.append_assoc]
        congr 1
        have h1 := Array.extract_append_extract (as := lp) (i := 0) (j := lp.size / 3 * 3) (k := lp.size)
        have h3 : min 0 (lp.size / 3 * 3) = 0 := by omega
        have h2 : max (lp.size / 3 * 3) lp.size = lp.size := by omega
        rw [h3, h2] at h1
        rw [h1]
        simp
      · rw [hp3, b64_append hp1]
  · rintro c u9 h9 tk9 ⟨q, hp1, hp2, hp3⟩ F N
    obtain ⟨wr, lf, t1, t2⟩ := c
    dsimp only at *
    rw [List.size_toArray, hv.length, List.take_length] at hp2
    have hs3 : q.size + lf.size ≤ 400 := by
      rw [← hp2] at hsz
      simpa using hsz
    have hwz : wr.size ≤ 2 * q.size + 2 := by rw [hp3]; exact size_b64 q
    clear F1 N1
    k_with "call ref" => (refine call_by (by assumption) (by assumption) (c_b64 (by k_in) (Top.keeps (by assumption) (Fr.keep (by assumption))) (by exact hA.deeper.mono (by decide)) (by omega)) ?_; intro v' h' t' e' F' N' k'; obtain ⟨t9, rfl⟩ := e')
    k_with "binaryOp Add bytes bytes" => (k_dflt (refine KBy.add_bytes (Nat.le_trans (Nat.add_le_add_left (size_b64 lf) _) (by omega)) ?_); intro t8 k8)
    k_steps
    exact ret_bytes (by assumption) (by rw [← hp2, b64_append hp1, hp3])
end

/-! ### W8 -/
section
theorem top_off_W8 : True := by
  w_top off
  trivial

local macro_rules | `(tactic| walk_at "call type:type") => `(tactic| ((with_reducible show wpAny _ _ (call _ [Value.bytes _ _]) _ _ _); refine call_type_of (Tx := "bytes") rfl (by decide +kernel) ?_))
local macro_rules | `(tactic| walk_at "getMethod bytes") => `(tactic| (first | with_reducible refine m_translate ?_ | with_reducible refine m_upper ?_ | with_reducible refine m_hex ?_ | with_reducible refine m_replace ?_ | with_reducible refine m_join ?_))
local macro_rules | `(tactic| walk_at "getMethod str") => `(tactic| (with_reducible refine m_encode ?_))
local macro_rules | `(tactic| walk_at "eval DictComp") => `(tactic| k_extra "my DictComp")
local macro_rules | `(tactic| walk_at "eval ListComp") => `(tactic| k_extra "my ListComp")
local macro_rules | `(tactic| walk_at "eval Name") => `(tactic| k_extra "my Name")
local macro_rules | `(tactic| walk_at "pyIter ref") => `(tactic| k_extra "my pyIter")
local macro_rules | `(tactic| walk_at "subscriptTail Name Slice ref ref") => `(tactic| k_extra "my slice")

/-- which of the alphabet's three runs a place lies in -/
def grp (n : Int) : Int := b2i (decide (52 ≤ n)) + b2i (decide (62 ≤ n))
/-- do the writings stand in the order of the rows -/
def keptS (na nb : List Int) : Bool := match (na.zip nb).find? (fun p => p.1 != p.2) with
  | some p => grp p.1 == grp p.2
  | none => if na.length < nb.length then decide (na.length % 4 = 0) || decide (na.length = nb.length) || decide (nb.getD na.length 0 < 52)
            else decide (nb.length % 4 = 0) || decide (nb.length = na.length) || decide (na.getD nb.length 0 < 52)
theorem kept_some {na nb : List Int} {x y : Int} (h : (na.zip nb).find? (fun p => p.1 != p.2) = some (x, y)) : keptS na nb = (grp x == grp y) := by
  unfold keptS
  rw [h]
theorem kept_none {na nb : List Int} (h : ∀ p ∈ na.zip nb, (p.1 != p.2) = false) : keptS na nb = if na.length < nb.length then decide (na.length % 4 = 0) || decide (na.length = nb.length) || decide (nb.getD na.length 0 < 52)
            else decide (nb.length % 4 = 0) || decide (nb.length = na.length) || decide (na.getD nb.length 0 < 52) := by
  have e : (na.zip nb).find? (fun p => p.1 != p.2) = none := by
    rw [List.find?_eq_none]
    intro p hp
    rw [h p hp]
    exact Bool.false_ne_true
  unfold keptS
  rw [e]
theorem c_kept {w : World} {d u : Nat} {fr : Option (List Env)} {gs : Option (List Code)} {s : Shared} {mg mb : Str → Option Value} {mean : ExcName → Option Value} {p : Program} {loose : List Str} {a b : Addr} {va vb : List Value} {na nb : List Int} :
   (hd.heap_39 w.params).In s.heap → Top p loose mean mg mb s.heap → Room d u 3 → s.heap.IsList a va.toArray → IntsAre va na → s.heap.IsList b vb.toArray → IntsAre vb nb → na.length ≤ 500 → nb.length ≤ 500 →
   codeAny (model Challenge.rw_ki0009_01.row.prog w) (Ar d fr gs u) (.call (.ref 121) ⟨[.ref a, .ref b], []⟩) (Ret s (fun v _ => v = .bool (keptS na nb))) s := by
  k_fill
  k_with_none
  intro X T hA hl hi hl2 hi2 hz hz2
  refine' enter_def (binds := [(Str.ofString "places", .ref a), (Str.ofString "others", .ref b)]) X T ?ho ?hcd ?hroom ?hb ?hl ?_ ?a1 ?a2 ?a3 ?a4
  case ho => k_is
  case hcd => k_is
  case hroom => exact hA.lt
  case hb => first | exact BindsTo.of_eq rfl | exact binds_K (by k_in) rfl (by k_is) rfl rfl rfl
  case hl => exact locs rfl
  case a1 => exact rfl
  case a2 => exact rfl
  case a3 => exact rfl
  case a4 => decide
  intro L h₁ hL F N
  (try dsimp only)
  k_steps
  · rename_i hf _ _ _ _ _ _ _ _
    exact ret_of (by assumption) (by rw [kept_some hf]; rfl)
  · rename_i hf hlt _ _ _ _ _ _ _ _ _ _ hm
    refine ret_of (by assumption) ?_
    rw [kept_none hf, if_pos (by omega)]
    rw [Int.fmod_eq_emod_of_nonneg _ (by decide)] at hm ⊢
    have h1 : na.length % 4 = 0 := by omega
    simp [h1, hm]
  · rename_i hf hlt _ _ _ _ _ _ _ _ _ _ hm he
    omega
  · rename_i hf hlt _ _ _ _ _ _ _ _ _ _ hm he _
    refine ret_of (by assumption) ?_
    rw [kept_none hf, if_pos (by omega)]
    rw [Int.fmod_eq_emod_of_nonneg _ (by decide)] at hm
    have h1 : ¬ na.length % 4 = 0 := by omega
    have h2 : ¬ na.length = nb.length := by omega
    simp [h1, h2]
  · rename_i hf hlt _ _ _ _ _ _ _ _ _ _ hm
    refine ret_of (by assumption) ?_
    rw [kept_none hf, if_neg (by omega)]
    rw [Int.fmod_eq_emod_of_nonneg _ (by decide)] at hm ⊢
    have h1 : nb.length % 4 = 0 := by omega
    simp [h1, hm]
  · rename_i hf hlt _ _ _ _ _ _ _ _ _ _ hm he
    refine ret_of (by assumption) ?_
    rw [kept_none hf, if_neg (by omega)]
    have h1 : nb.length = na.length := by omega
    simp [h1]
  · rename_i hf hlt _ _ _ _ _ _ _ _ _ _ hm he _
    refine ret_of (by assumption) ?_
    rw [kept_none hf, if_neg (by omega)]
    rw [Int.fmod_eq_emod_of_nonneg _ (by decide)] at hm
    have h1 : ¬ nb.length % 4 = 0 := by omega
    have h2 : ¬ nb.length = na.length := by omega
    simp [h1, h2]
end

/-! ### Plain2 -/
section
theorem top_off_Plain2 : True := by
  w_top off
  trivial
theorem sx_len : ∀ q : List Nat, (sx q).length = (4 * q.length + 2) / 3
  | [] => by simp [sx]
  | [a] => by simp [sx]
  | [a, b] => by simp [sx]
  | a :: b :: c :: q => by
    have := sx_len q
    simp only [sx, List.length_cons]; omega
theorem sx_lt : ∀ q : List Nat, (∀ c ∈ q, c < 256) → ∀ x ∈ sx q, x < 64
  | [], _ => by simp [sx]
  | [a], h => by
    have := h a (.head _)
    simp only [sx, List.mem_cons, List.not_mem_nil, or_false]
    rintro x (rfl | rfl) <;> omega
  | [a, b], h => by
    have := h a (.head _)
    have := h b (.tail _ (.head _))
    simp only [sx, List.mem_cons, List.not_mem_nil, or_false]
    rintro x (rfl | rfl | rfl) <;> omega
  | a :: b :: c :: q, h => by
    have h1 := h a (.head _)
    have h2 := h b (.tail _ (.head _))
    have h3 := h c (.tail _ (.tail _ (.head _)))
    have ih := sx_lt q fun x hx => h x (.tail _ (.tail _ (.tail _ hx)))
    simp only [sx, List.mem_cons]
    rintro x (rfl | rfl | rfl | rfl | hx)
    · omega
    · omega
    · omega
    · omega
    · exact ih x hx
def nib (l : List Nat) : List Nat := l.flatMap fun c => [c / 16, c % 16]
theorem nib_lt (l : List Nat) (h : ∀ c ∈ l, c < 256) : ∀ x ∈ nib l, x < 16 := by
  intro x hx
  obtain ⟨c, hc, hm⟩ := List.mem_flatMap.mp hx
  have := h c hc
  simp only [List.mem_cons, List.not_mem_nil, or_false] at hm
  rcases hm with rfl | rfl <;> omega
theorem nib_len (l : List Nat) : (nib l).length = 2 * l.length := by
  induction l with
  | nil => rfl
  | cons a l ih => simp only [nib, List.flatMap_cons, List.length_append, List.length_cons, List.length_nil] at *; omega
def H16 : List UInt8 := [48, 49, 50, 51, 52, 53, 54, 55, 56, 57, 65, 66, 67, 68, 69, 70]
def A64 : List UInt8 := [65, 66, 67, 68, 69, 70, 71, 72, 73, 74, 75, 76, 77, 78, 79, 80, 81, 82, 83, 84, 85, 86, 87, 88, 89, 90, 97, 98, 99, 100, 101, 102, 103, 104, 105, 106, 107, 108, 109, 110, 111, 112, 113, 114, 115, 116, 117, 118, 119, 120, 121, 122, 48, 49, 50, 51, 52, 53, 54, 55, 56, 57, 43, 47]
theorem a64_at {j : Nat} (h : j < 64) : A64.idxOf (sg j).toUInt8 = j := by
  have : ∀ j : Fin 64, A64.idxOf (sg j.val).toUInt8 = j.val := by decide +kernel
  exact this ⟨j, h⟩
theorem a64_mem {j : Nat} (h : j < 64) : (sg j).toUInt8 ∈ A64 := List.idxOf_lt_length_iff.mp (by rw [a64_at h]; exact h)
theorem h16_nd : H16.Nodup := by decide +kernel
theorem a64_nd : A64.Nodup := by decide +kernel
/-- the signs without the marks behind them -/
def sig (l : List Nat) : List UInt8 := ((sx l).map sg).map (·.toUInt8)
theorem sig_len (l : List Nat) : (sig l).length = (4 * l.length + 2) / 3 := by simp [sig, sx_len]
theorem enc64_sig (l : List Nat) : (enc64 l).map (·.toUInt8) = sig l ++ List.replicate (padn l.length) 61 := by
  simp [enc64, sig]
theorem sig_mem (l : List Nat) (h : ∀ c ∈ l, c < 256) : ∀ c ∈ sig l, c ∈ A64 := by
  intro c hc
  obtain ⟨x, hx, rfl⟩ := List.mem_map.mp hc
  obtain ⟨j, hj, rfl⟩ := List.mem_map.mp hx
  exact a64_mem (sx_lt l h j hj)
theorem sig_at (l : List Nat) (h : ∀ c ∈ l, c < 256) : (sig l).map (fun c => (A64.idxOf c : Int)) = (sx l).map (fun n : Nat => (n : Int)) := by
  unfold sig
  rw [List.map_map, List.map_map]
  apply List.map_congr_left
  intro j hj
  show ((A64.idxOf (sg j).toUInt8 : Nat) : Int) = _
  rw [a64_at (sx_lt l h j hj)]
theorem take_sig (l : List Nat) : ((enc64 l).map (·.toUInt8)).toArray.extract 0 ((4 * l.length + 2) / 3) = (sig l).toArray := by
  rw [enc64_sig]
  simp [← sig_len]
theorem drop_sig (l : List Nat) : ((enc64 l).map (·.toUInt8)).toArray.extract ((4 * l.length + 2) / 3) ((enc64 l).map (·.toUInt8)).toArray.size = (List.replicate (padn l.length) 61).toArray := by
  rw [enc64_sig]
  apply Array.toList_inj.mp
  simp only [Array.toList_extract, List.extract_eq_drop_take, ← sig_len]
  simp
theorem pad_is (n : Nat) : (-(((4 * (n : Int) + 2) / 3 : Int))) % 4 = padn n := by
  unfold padn
  obtain ⟨m, r, hr, rfl⟩ : ∃ m r, r < 3 ∧ n = 3 * m + r := ⟨n / 3, n % 3, by omega, by omega⟩
  have h3 : r = 0 ∨ r = 1 ∨ r = 2 := by omega
  rcases h3 with rfl | rfl | rfl
  · have e1 : (3 * m + 0) % 3 = 0 := by omega
    rw [e1]; omega
  · have e1 : (3 * m + 1) % 3 = 1 := by omega
    rw [e1]; omega
  · have e1 : (3 * m + 2) % 3 = 2 := by omega
    rw [e1]; omega
end

/-! ### W9 -/
section
theorem top_off_W9 : True := by
  w_top off
  trivial

local macro_rules | `(tactic| walk_at "call type:type") => `(tactic| ((with_reducible show wpAny _ _ (call _ [Value.bytes _ _]) _ _ _); refine call_type_of (Tx := "bytes") rfl (by decide +kernel) ?_))
local macro_rules | `(tactic| walk_at "getMethod bytes") => `(tactic| (first | with_reducible refine m_translate ?_ | with_reducible refine m_upper ?_ | with_reducible refine m_hex ?_ | with_reducible refine m_replace ?_ | with_reducible refine m_join ?_))
local macro_rules | `(tactic| walk_at "getMethod str") => `(tactic| (with_reducible refine m_encode ?_))
local macro_rules | `(tactic| walk_at "eval DictComp") => `(tactic| k_extra "my DictComp")
local macro_rules | `(tactic| walk_at "eval ListComp") => `(tactic| k_extra "my ListComp")
local macro_rules | `(tactic| walk_at "eval Name") => `(tactic| k_extra "my Name")
local macro_rules | `(tactic| walk_at "pyIter ref") => `(tactic| k_extra "my pyIter")
local macro_rules | `(tactic| walk_at "subscriptTail Name Slice ref ref") => `(tactic| k_extra "my slice")
theorem h16_at {j : Nat} (h : j < 16) : H16.idxOf (hs j).toUInt8 = j := by
  have : ∀ j : Fin 16, H16.idxOf (hs j.val).toUInt8 = j.val := by decide +kernel
  exact this ⟨j, h⟩
theorem h16_mem {j : Nat} (h : j < 16) : (hs j).toUInt8 ∈ H16 := List.idxOf_lt_length_iff.mp (by rw [h16_at h]; exact h)
theorem enc16_nib (l : List Nat) : enc16 l = (nib l).map hs := by
  induction l with
  | nil => rfl
  | cons a l ih => simp only [nib, enc16, List.flatMap_cons, List.map_append, List.map_cons, List.map_nil] at *; rw [ih]
abbrev h16A (b : Array UInt8) : Array UInt8 := ((enc16 (b.toList.map (·.toNat))).map (·.toUInt8)).toArray
theorem h16_in (l : List Nat) (h : ∀ c ∈ l, c < 256) : ∀ c ∈ ((enc16 l).map (·.toUInt8)).toArray.toList, c ∈ H16 := by
  intro c hc
  rw [enc16_nib] at hc
  obtain ⟨x, hx, rfl⟩ := List.mem_map.mp hc
  obtain ⟨j, hj, rfl⟩ := List.mem_map.mp hx
  exact h16_mem (nib_lt l h j hj)
theorem h16_places (l : List Nat) (h : ∀ c ∈ l, c < 256) : (((enc16 l).map (·.toUInt8)).toArray.toList).map (placeOf H16) = (nib l).map (fun n : Nat => (n : Int)) := by
  rw [enc16_nib]
  show (((nib l).map hs).map (·.toUInt8)).map (placeOf H16) = _
  rw [List.map_map, List.map_map]
  apply List.map_congr_left
  intro j hj
  show ((H16.idxOf (hs j).toUInt8 : Nat) : Int) = _
  rw [h16_at (nib_lt l h j hj)]
/-- a list that a call has made, beside the others -/
theorem new_list {h₀ h h' : Heap} {L a : Addr} {m : PySem.Str → Option Value} {news : List (Addr × Obj)} {o : Obj} (F : Fr h₀ L h m) (N : News h₀ L h' news) (hf : h.get? a = none) (ho : h'.get? a = some o) : News h₀ L h' ((a, o) :: news) := by
  intro p hp
  rcases List.mem_cons.mp hp with rfl | hp
  · refine ⟨ho, ?_, ?_⟩
    · rintro rfl
      obtain ⟨o', es', ep', e', _⟩ := F.ns
      rw [hf] at e'; cases e'
    · cases q : h₀.get? a with
      | none => rfl
      | some o' => rw [F.keep a o' q] at hf; cases hf
  · exact N p hp
theorem lenN (b : Array UInt8) : (b.toList.map (·.toNat)).length = b.size := by simp
theorem h16_size (b : Array UInt8) : (h16A b).size = 2 * b.size := by
  rw [List.size_toArray, List.length_map, enc16_len, lenN]
theorem sig_places (b : Array UInt8) : ((sig (b.toList.map (·.toNat))).toArray.toList).map (placeOf A64) = (sx (b.toList.map (·.toNat))).map (fun n : Nat => (n : Int)) := sig_at _ (nats_lt b)
theorem sizeF {vs : List Value} {b : Array UInt8} (h : IntsAre vs ((nib (b.toList.map (·.toNat))).map (fun n : Nat => (n : Int)))) : vs.toArray.size = 2 * b.size := by
  rw [List.size_toArray, h.length, List.length_map, nib_len, lenN]
theorem sizeP {vs : List Value} {b : Array UInt8} (h : IntsAre vs ((sx (b.toList.map (·.toNat))).map (fun n : Nat => (n : Int)))) : vs.toArray.size = (4 * b.size + 2) / 3 := by
  rw [List.size_toArray, h.length, List.length_map, sx_len, lenN]
theorem ints_app {vs ws : List Value} {ns ms : List Int} (h : IntsAre vs ns) (h2 : IntsAre ws ms) : IntsAre (vs ++ ws) (ns ++ ms) := by
  induction h with
  | nil => exact h2
  | cons m t' _ ih => exact .cons _ _ ih
theorem noMinus (b : Array UInt8) : ((nib (b.toList.map (·.toNat))).map (fun n : Nat => (n : Int)) ++ (sx (b.toList.map (·.toNat))).map (fun n : Nat => (n : Int))).any (· == -1) = false := by
  rw [List.any_eq_false]
  intro x hx
  rcases List.mem_append.mp hx with h | h
  · obtain ⟨n, _, rfl⟩ := List.mem_map.mp h
    simp
  · obtain ⟨n, _, rfl⟩ := List.mem_map.mp h
    simp
theorem pads (n : Nat) : (-(4 * (n : Int) + 2).fdiv 3).fmod 4 = (padn n : Int) := by
  rw [Int.fdiv_eq_ediv_of_nonneg _ (by decide), Int.fmod_eq_emod_of_nonneg _ (by decide)]
  exact pad_is n
theorem mul_eq {prog : Program} {w : World} {A : Around} {E : Value → Shared → Prop} {s : Shared} {n : Nat} {x : Int} {t u : Tok} {Q : Value → Shared → Prop} (e : x = (padn n : Int)) (h : ∀ t' k, Q (.bytes (List.replicate (padn n) 61).toArray t') { s with toks := k }) :
    wpAny (model prog w) A (binaryOp .Mult (.bytes #[61] t) (.int x u)) Q E s := by
  have hp : padn n < 3 := by unfold padn; omega
  subst e
  refine bytes_mul_any (b := [61]) (List.cons_ne_nil _ _) (by omega) (by omega) (by decide) fun t' k => ?_
  have e2 : (List.replicate ((padn n : Int).toNat) [(61 : UInt8)]).flatten = List.replicate (padn n) 61 := by
    rw [Int.toNat_natCast]
    generalize padn n = m
    induction m with
    | zero => rfl
    | succ m ih => rw [List.replicate_succ, List.flatten_cons, ih]; rfl
  rw [e2]
  exact h t' k
/-- what _law_written gives -/
def Written (h₀ : Heap) (b : Array UInt8) (v : Value) (h : Heap) : Prop := ∃ (a aF aP : Addr) (vF vP : List Value) (nF nP : Nat) (t1 t2 : Tok), v = .ref a ∧ h₀.get? a = none ∧ h.get? a = some { cls := .type "tuple", data := .seq #[.bytes (h16A b) t1, .bytes (b64A b) t2, .ref aF, .ref aP] } ∧
  h₀.get? aF = none ∧ h.get? aF = some (listOf vF.toArray nF) ∧ h₀.get? aP = none ∧ h.get? aP = some (listOf vP.toArray nP) ∧ IntsAre vF ((nib (b.toList.map (·.toNat))).map (fun n : Nat => (n : Int))) ∧ IntsAre vP ((sx (b.toList.map (·.toNat))).map (fun n : Nat => (n : Int)))
theorem us_two (b : Array UInt8) : (b.map fun c => if c = 43 then 45 else c).map (fun c => if c = 47 then 95 else c) = b.map us := by
  rw [Array.map_map]
  rfl
theorem c_written {w : World} {d u : Nat} {fr : Option (List Env)} {gs : Option (List Code)} {s : Shared} {mg mb : Str → Option Value} {mean : ExcName → Option Value} {p : Program} {loose : List Str} {b : Array UInt8} {t : Tok} :
   (hd.heap_39 w.params).In s.heap → Top p loose mean mg mb s.heap → Room d u 6 → b.size ≤ 100 →
   codeAny (model Challenge.rw_ki0009_01.row.prog w) (Ar d fr gs u) (.call (.ref 100) ⟨[.bytes b t], []⟩) (Ret s (Written s.heap b)) s := by
  k_fill
  k_with_none
  intro X T hA hbs
  refine' enter_def (binds := [(Str.ofString "octets", .bytes b t)]) X T ?ho ?hcd ?hroom ?hb ?hl ?_ ?a1 ?a2 ?a3 ?a4
  case ho => k_is
  case hcd => k_is
  case hroom => exact hA.lt
  case hb => first | exact BindsTo.of_eq rfl | exact binds_K (by k_in) rfl (by k_is) rfl rfl rfl
  case hl => exact locs rfl
  case a1 => exact rfl
  case a2 => exact rfl
  case a3 => exact rfl
  case a4 => decide
  intro L h₁ hL F N
  (try dsimp only)
  have hl3 := lenN b
  have ew : (4 * (b.size : Int) + 2).fdiv 3 = (((4 * b.size + 2) / 3 : Nat) : Int) := by
    rw [Int.fdiv_eq_ediv_of_nonneg _ (by decide)]; omega
  have ec1 : KBy.picked (b64A b) none (some ((4 * (b.size : Int) + 2).fdiv 3)) = (sig (b.toList.map (·.toNat))).toArray := by
    rw [ew, picked_to, ← hl3]; exact take_sig _
  have ec2 : KBy.picked (b64A b) (some ((4 * (b.size : Int) + 2).fdiv 3)) none = (List.replicate (padn b.size) 61).toArray := by
    rw [ew, picked_from, ← hl3]; exact drop_sig _
  have hsz2 : (sig (b.toList.map (·.toNat))).toArray.size ≤ 2000 := by rw [List.size_toArray, sig_len, hl3]; omega
  have hz4 : (b64A b).size ≤ 2 * b.size + 2 := size_b64 b
  k_with "call ref" => first | (refine call_by (by assumption) (by assumption) (c_b16 (by k_in) (Top.keeps (by assumption) (Fr.keep (by assumption))) (by exact hA.deeper.mono (by decide)) (by omega)) ?_; intro v' h' t' e' F' N' k'; obtain ⟨t9, rfl⟩ := e') | (refine call_by (by assumption) (by assumption) (c_b64 (by k_in) (Top.keeps (by assumption) (Fr.keep (by assumption))) (by exact hA.deeper.mono (by decide)) (by omega)) ?_; intro v' h' t' e' F' N' k'; obtain ⟨t9, rfl⟩ := e') | (refine call_by (by assumption) (by assumption) (c_url64 (by k_in) (Top.keeps (by assumption) (Fr.keep (by assumption))) (by exact hA.deeper.mono (by decide)) (by omega)) ?_; intro v' h' t' e' F' N' k'; obtain ⟨t9, rfl⟩ := e') | (refine call_by (by assumption) (by assumption) (c_std64 (by k_in) (Top.keeps (by assumption) (Fr.keep (by assumption))) (by exact hA.deeper.mono (by decide)) (by omega)) ?_; intro v' h' t' e' F' N' k'; obtain ⟨t9, rfl⟩ := e') | (k_dflt (refine call_by (by assumption) (by assumption) (c_places (al := H16) (by k_in) (Top.keeps (by assumption) (Fr.keep (by assumption))) (by exact hA.deeper.mono (by decide)) (by exact Nat.le_trans (Nat.le_of_eq (h16_size b)) (by omega)) (by decide) h16_nd (h16_in _ (nats_lt b))) ?_); intro v' h' t' e' F' N' k'; obtain ⟨aF, vF, rfl, hfF, ⟨nF, hoF⟩, hiF⟩ := e'; rw [h16_places _ (nats_lt b)] at hiF; replace N' := new_list (by assumption) N' hfF hoF; have hsF := sizeF hiF) | (k_dflt (refine call_by (by assumption) (by assumption) (c_places (al := A64) (by k_in) (Top.keeps (by assumption) (Fr.keep (by assumption))) (by exact hA.deeper.mono (by decide)) (by exact hsz2) (by decide) a64_nd (sig_mem _ (nats_lt b))) ?_); intro v' h' t' e' F' N' k'; obtain ⟨aP, vP, rfl, hfP, ⟨nP, hoP⟩, hiP⟩ := e'; rw [sig_places b] at hiP; replace N' := new_list (by assumption) N' hfP hoP; have hsP := sizeP hiP)
  k_with "call builtin:len" => (k_dflt (first | refine KM.len_K (by assumption) (by first | exact .head _ | exact .tail _ (.head _)) hsF (by omega) ?_ | refine len_bytes (by omega) ?_))
  k_with "subscriptTail" => (k_dflt (first | refine cutB (by assumption) (by assumption) .none (.int _ _) (by exact Nat.le_trans hz4 (by omega)) ec1 ?_ (by with_unfolding_all rfl) (by intro _; with_unfolding_all rfl) | refine cutB (by assumption) (by assumption) (.int _ _) .none (by exact Nat.le_trans hz4 (by omega)) ec2 ?_ (by with_unfolding_all rfl) (by intro _; with_unfolding_all rfl)); intro h6 t6 k6 F6 N6)
  k_with "compareOp In int ref" => (k_dflt (refine in_list_ints (vs := vF ++ vP) (News.isList (by assumption) (.head _)) (ints_app hiF hiP) ?_; rw [noMinus b]))
  k_with "binaryOp Mult bytes int" => (k_dflt (refine mul_eq (pads b.size) ?_); intro t7 k7)
  k_with "call builtin:bytes.replace" => (k_dflt (first | refine replace_by (by exact Nat.le_trans hz4 (by omega)) ?_ | refine replace_by (by rw [Array.size_map]; exact Nat.le_trans hz4 (by omega)) ?_); intro t7 k7; (try rw [us_two]))
  k_steps
  · exfalso; omega
  k_steps
  · rename_i hc
    rw [bne_self_eq_false] at hc
    cases hc
  · rename_i hc
    rw [bne_self_eq_false] at hc
    cases hc
  · rename_i hc
    rw [bne_self_eq_false] at hc
    cases hc
  · rename_i F9 N9 _
    refine ret_of F9 ⟨_, aF, aP, vF, vP, nF, nP, _, _, rfl, (N9 _ (.head _)).2.2, (N9 _ (.head _)).1, (N9 _ (.tail _ (.tail _ (.tail _ (.head _))))).2.2, (N9 _ (.tail _ (.tail _ (.tail _ (.head _))))).1, (N9 _ (.tail _ (.tail _ (.head _)))).2.2, (N9 _ (.tail _ (.tail _ (.head _)))).1, hiF, hiP⟩
end

/-! ### L0 -/
section
theorem top_off_L0 : True := by
  w_top off
  trivial

local macro_rules | `(tactic| walk_at "call type:type") => `(tactic| ((with_reducible show wpAny _ _ (call _ [Value.bytes _ _]) _ _ _); refine call_type_of (Tx := "bytes") rfl (by decide +kernel) ?_))
local macro_rules | `(tactic| walk_at "getMethod bytes") => `(tactic| (first | with_reducible refine m_translate ?_ | with_reducible refine m_upper ?_ | with_reducible refine m_hex ?_ | with_reducible refine m_replace ?_ | with_reducible refine m_join ?_))
local macro_rules | `(tactic| walk_at "getMethod str") => `(tactic| (with_reducible refine m_encode ?_))
local macro_rules | `(tactic| walk_at "eval DictComp") => `(tactic| k_extra "my DictComp")
local macro_rules | `(tactic| walk_at "eval ListComp") => `(tactic| k_extra "my ListComp")
local macro_rules | `(tactic| walk_at "eval Name") => `(tactic| k_extra "my Name")
local macro_rules | `(tactic| walk_at "pyIter ref") => `(tactic| k_extra "my pyIter")
local macro_rules | `(tactic| walk_at "subscriptTail Name Slice ref ref") => `(tactic| k_extra "my slice")
section
variable {prog : Program} {w : World} {A : Around} {E : Value → Shared → Prop} {s : Shared} {h₀ : Heap} {L : Addr} {m : PySem.Str → Option Value} {news : List (Addr × Obj)} {env : Env}
theorem bytes_paired {f : Array UInt8 → Array UInt8} : ∀ {vs ws : List Value} {bs : List (Array UInt8)}, BytesAre vs bs → Paired (fun v y => ∃ b t t', v = .bytes b t ∧ y = .bytes (f b) t') vs ws → BytesAre ws (bs.map f)
  | _, _, _, .nil, hP => by cases hP; exact .nil
  | _, _, _, .cons b t hb, hP => by
    cases hP with
    | cons h1 h2 =>
      obtain ⟨b', t1, t2, e1, rfl⟩ := h1
      cases e1
      exact .cons _ _ (bytes_paired hb h2)
theorem comp_glob {M : Model} {K : Frag} {p : Program} {loose : List PySem.Str} {mean : ExcName → Option Value} {mg mb m₃ : PySem.Str → Option Value} {C : Addr} {x : PySem.Str} {v : Value} {pos : Pos} {Q : Value → Shared → Prop} (F : Fr h₀ C s.heap m₃) (X : K.In h₀) (T : Top p loose mean mg mb h₀) (e : nsIn K mainGlobals x = some (some v)) (hk : env.scope.kind = .function) (hx : env.kindOf x = some .globalImplicit) (hg : env.globals = mainGlobals) (h : Q v s) (hd : (x == ("__debug__" : PySem.Str)) = false := by decide) : wpAny M A (eval (.Name x pos) env) Q E s :=
  PySem.Calls.Name_function_global hk hx (PySem.Calls.loadGlobal_global (by rw [hg]; exact T.g.keeps F.keep) (mg_of X T.g e) h) hd
/-- [f(x) for x in a list of bytes] -/
theorem comp_bytes {elt iter : PySem.Expr} {x : PySem.Str} {px pos : Pos} {scope : Scope} {cl : List (PySem.Str × Addr)} {aC : Addr} {vC : List Value} {nC : Nat} {bs : List (Array UInt8)} {Q : Value → Shared → Prop} (f : Array UInt8 → Array UInt8)
    (F : Fr h₀ L s.heap m) (N : News h₀ L s.heap news) (hm : (aC, listOf vC.toArray nC) ∈ news) (hB : BytesAre vC bs) (hz : bs.length ≤ 1000) (hh : A.handled = none)
    (hclos : closureFor scope env = pure cl) (hcell : ∀ y ∈ scope.names, y.2 ≠ .cell) (hkind : scope.kind = .function)
    (hnames : ∀ y ∈ scope.names, y.2 = .local → scope.names.lookup y.1 = some .local) (hx : scope.names.lookup x = some .local)
    (hit : ∀ Q : Value → Shared → Prop, Q (.ref aC) s → wpAny (model prog w) A (eval iter env) Q E s)
    (helt : ∀ C b t s₃ m₃ E', b ∈ bs → Fr h₀ C s₃.heap m₃ → m₃ x = some (.bytes b t) → wpAny (model prog w) A (eval elt (compEnvC scope cl C env)) (fun y s₄ => (∃ t', y = .bytes (f b) t') ∧ Keeps s₃ s₄) E' s₃)
    (h : ∀ D ws n h' k, Fr h₀ L h' m → News h₀ L h' ((D, listOf (List.toArray ws) n) :: news) → BytesAre ws (bs.map f) → Q (.ref D) { s with heap := h', toks := k })
    (hs : ∀ x, foldedSetIterable iter env x = pure x := by intro _; rfl) :
    wpAny (model prog w) A (eval (.ListComp elt [⟨.Name x px, iter, [], 0⟩] scope pos) env) Q E s := by
  have hC := (N _ hm).1
  have hlt := Heap.lt_size hC
  refine wpAny_ListComp_free (fun _ => true) (fun v y => ∃ b t t', v = .bytes b t ∧ y = .bytes (f b) t') hclos hcell hkind hnames hx (hit _ ?_) hs
  have hl : s.heap.IsList aC vC.toArray := ⟨_, hC, rfl, _, rfl⟩
  refine wpAny_pyIter_list hl ?_
  have up : ∀ b o, s.heap.get? b = some o → b ∉ [s.heap.objs.size] := fun b o e hm => absurd (Heap.lt_size e) (by rw [List.mem_singleton.mp hm]; exact Nat.lt_irrefl _)
  refine ⟨_, _, _, _, _, _, rfl, Walks.list hh _ aC (Nat.ne_of_lt hlt) vC.toArray, ?_, ?_, ?_, ⟨?_, ?_⟩, ?_⟩
  · rw [sizeLine_eq, List.size_toArray, hB.length]; omega
  · exact ⟨⟨_, Heap.get?_push_size _ rfl, rfl, rfl⟩, hl.push _⟩
  · intro b hb
    show _ < (Heap.push _ _).objs.size
    rw [Heap.size_push]
    rcases List.mem_cons.mp hb with rfl | hb
    · exact Nat.lt_succ_self _
    · rw [List.mem_singleton.mp hb]; exact Nat.lt_succ_of_lt hlt
  · intro C i v s₃ m₃ E' hC hP3 hn3 hm3 hk3 htk
    exact wpAny_pure ⟨rfl, _, _, rfl, fun _ _ e => e⟩
  · intro C i v s₃ m₃ E' hC3 hP3 _ hn3 hm3 hk3 htk
    have hi : i < bs.length := by
      have := (Array.getElem?_eq_some_iff.mp hP3).1
      rw [List.size_toArray, hB.length] at this
      exact this
    obtain ⟨t, ht⟩ := hB.get i _ (List.getElem?_eq_getElem hi)
    have e3 : v = .bytes bs[i] t := by
      have : vC[i]? = some v := by simpa using hP3
      rw [this] at ht
      exact Option.some.inj ht
    subst e3
    have F3 : Fr h₀ C s₃.heap m₃ := ⟨hn3, fun b o e => hk3 b o (up b o (F.keep b o e)) (Heap.get?_push_of_some _ (F.keep b o e)), Nat.le_trans F.above (Nat.le_trans (Nat.le_of_lt F.ns.lt) (Nat.le_trans (Nat.le_succ _) (by have h7 : (Heap.push s.heap _).objs.size ≤ C := hC3; rw [Heap.size_push] at h7; exact h7)))⟩
    exact wpAny_mono (helt C _ t s₃ m₃ E' (List.getElem_mem hi) F3 hm3) (fun y s₄ ⟨⟨t', e⟩, k⟩ => ⟨⟨_, t, t', rfl, e⟩, k⟩) fun _ _ e => e
  · intro D h8 tk8 ys vs8 hD8 hl8 hpl8 hlen8 hP8 hF8 hk8
    have keep8 : ∀ b o, s.heap.get? b = some o → h8.get? b = some o := fun b o e => hk8 b o (up b o e) (Heap.get?_push_of_some _ e)
    have hDs : s.heap.get? D = none := by
      cases q : s.heap.get? D with
      | none => rfl
      | some o => rw [Heap.get?_push_of_some _ q] at hD8; cases hD8
    obtain ⟨n8, e8⟩ := hpl8
    rw [List.filter_eq_self.mpr (fun _ _ => rfl)] at hF8
    have ev : vs8 = vC := by
      apply List.ext_getElem?
      intro j
      by_cases hj : j < vs8.length
      · have := hP8 j _ (List.getElem?_eq_getElem hj)
        rw [List.getElem?_eq_getElem hj, ← this]
        simp
      · rw [List.getElem?_eq_none (by omega), List.getElem?_eq_none (by rw [hlen8, List.size_toArray] at hj; omega)]
    subst ev
    have F8 := keepsFr F keep8
    exact h D ys.toList n8 h8 tk8 F8 (new_list F (keepsNews N keep8) hDs (by rw [e8])) (bytes_paired hB hF8)
end
theorem h16_append (a b : Array UInt8) : h16A (a ++ b) = h16A a ++ h16A b := by
  unfold h16A
  rw [Array.toList_append, List.map_append, enc16, List.flatMap_append, List.map_append, ← List.append_toArray]
  rfl
theorem cat_cons (b : Array UInt8) (bs : List (Array UInt8)) : cat (b :: bs) = b ++ cat bs := by
  apply Array.toList_inj.mp
  simp [cat]
theorem cat16 : ∀ bs : List (Array UInt8), cat (bs.map h16A) = h16A (cat bs)
  | [] => rfl
  | b :: bs => by rw [List.map_cons, cat_cons, cat_cons, h16_append, cat16 bs]
theorem cat64_size : ∀ bs : List (Array UInt8), (cat (bs.map b64A)).size ≤ 2 * (cat bs).size + 2 * bs.length
  | [] => by simp [cat]
  | b :: bs => by
    have h1 := cat64_size bs
    have h2 := size_b64 b
    rw [List.map_cons, cat_cons, cat_cons, Array.size_append, Array.size_append, List.length_cons]
    omega
end

/-! ### L2 -/
section
theorem top_off_L2 : True := by
  w_top off
  trivial

local macro_rules | `(tactic| walk_at "call type:type") => `(tactic| ((with_reducible show wpAny _ _ (call _ [Value.bytes _ _]) _ _ _); refine call_type_of (Tx := "bytes") rfl (by decide +kernel) ?_))
local macro_rules | `(tactic| walk_at "getMethod bytes") => `(tactic| (first | with_reducible refine m_translate ?_ | with_reducible refine m_upper ?_ | with_reducible refine m_hex ?_ | with_reducible refine m_replace ?_ | with_reducible refine m_join ?_))
local macro_rules | `(tactic| walk_at "getMethod str") => `(tactic| (with_reducible refine m_encode ?_))
local macro_rules | `(tactic| walk_at "eval DictComp") => `(tactic| k_extra "my DictComp")
local macro_rules | `(tactic| walk_at "eval ListComp") => `(tactic| k_extra "my ListComp")
local macro_rules | `(tactic| walk_at "eval Name") => `(tactic| k_extra "my Name")
local macro_rules | `(tactic| walk_at "pyIter ref") => `(tactic| k_extra "my pyIter")
local macro_rules | `(tactic| walk_at "subscriptTail Name Slice ref ref") => `(tactic| k_extra "my slice")
section
variable {prog : Program} {w : World} {A : Around} {E : Value → Shared → Prop} {s : Shared} {h₀ : Heap} {L : Addr} {m : PySem.Str → Option Value} {news : List (Addr × Obj)} {env : Env}
/-- the test of a value that is an index -/
def pv (pr : Nat → Bool) : Value → Bool
  | .int i _ => pr i.toNat
  | _ => false
theorem idx_filter (pr : Nat → Bool) : ∀ {vs ws : List Value} {k : Nat}, (∀ j v, vs[j]? = some v → ∃ t, v = Value.int ((k + j : Nat) : Int) t) → Paired (fun v y => y = v) (vs.filter (pv pr)) ws →
    IntsAre ws (((List.range' k vs.length).filter pr).map fun n : Nat => (n : Int))
  | [], _, k, _, hP => by cases hP; exact .nil
  | v :: vs, ws, k, hv, hP => by
    obtain ⟨t, e⟩ := hv 0 v rfl
    have ih := @idx_filter pr vs
    have hv' : ∀ j x, vs[j]? = some x → ∃ t, x = Value.int ((k + 1 + j : Nat) : Int) t := fun j x hx => by
      obtain ⟨t', e'⟩ := hv (j + 1) x (by simpa using hx)
      exact ⟨t', by rw [e']; congr 1; omega⟩
    have ep : pv pr v = pr k := by rw [e]; show pr (((k + 0 : Nat) : Int).toNat) = pr k; rw [Int.toNat_natCast, Nat.add_zero]
    rw [List.length_cons, List.range'_succ]
    by_cases hc : pr k = true
    · rw [List.filter_cons_of_pos (by rw [ep]; exact hc)] at hP
      rw [List.filter_cons_of_pos hc, List.map_cons]
      cases hP with
      | cons h1 h2 =>
        rw [h1, e]
        exact .cons _ _ (ih hv' h2)
    · rw [List.filter_cons_of_neg (by rw [ep]; exact hc)] at hP
      rw [List.filter_cons_of_neg hc]
      exact ih hv' hP
/-- off = [k for k in range(n) if ..] -/
theorem assign_off {iter : PySem.Expr} {x y : PySem.Str} {px py pe pos spos : Pos} {ifs : List PySem.Expr} {scope : Scope} {cl : List (PySem.Str × Addr)} {n : Nat} {Q : Flow → Shared → Prop} (pr : Nat → Bool)
    (F : Fr h₀ L s.heap m) (N : News h₀ L s.heap news) (hz : n ≤ 1000) (hh : A.handled = none) (hL : env.locals = L)
    (hsw : swapsWith (.ListComp (.Name x pe) [⟨.Name x px, iter, ifs, 0⟩] scope pos) (some (.Name y py)) spos.line env = pure true)
    (hclos : closureFor scope env = pure cl) (hcell : ∀ y ∈ scope.names, y.2 ≠ .cell) (hkind : scope.kind = .function)
    (hnames : ∀ y ∈ scope.names, y.2 = .local → scope.names.lookup y.1 = some .local) (hx : scope.names.lookup x = some .local)
    (hy : env.kindOf y = some .local) (hp : (env.scope.kind == .class || (env.scope.kind == .module && env.locals != env.globals)) = false)
    (hdb : (x == ("__debug__" : PySem.Str)) = false)
    (hit : ∀ Q : Value → Shared → Prop, (∀ r t u v h' k, Fr h₀ L h' m → News h₀ L h' news → IsRange h' r 0 (n : Int) 1 t u v → Q (.ref r) { s with heap := h', toks := k }) → wpAny (model prog w) A (eval iter env) Q E s)
    (htest : ∀ C i t s₃ m₃ E', i < n → Fr h₀ C s₃.heap m₃ → News h₀ C s₃.heap news → m₃ x = some (.int (i : Int) t) →
      wpAny (model prog w) A (forIn ifs true fun c r => if r = true then do let ok ← isTrue c (compEnvC scope cl C env) (eval c (compEnvC scope cl C env)); pure (ForInStep.yield ok) else pure (ForInStep.yield r)) (fun ok s₄ => ok = pr i ∧ Keeps s₃ s₄) E' s₃)
    (h : ∀ D ws c h' k, Fr h₀ L h' (fun z => if z = y then some (.ref D) else m z) → News h₀ L h' ((D, listOf (List.toArray ws) c) :: news) → IntsAre ws (((List.range n).filter pr).map fun n : Nat => (n : Int)) → Q .next { s with heap := h', toks := k })
    (hs : ∀ x, foldedSetIterable iter env x = pure x := by intro _; rfl) :
    wpAny (model prog w) A (exec (.Assign [.Name y py] (.ListComp (.Name x pe) [⟨.Name x px, iter, ifs, 0⟩] scope pos) spos) env) Q E s := by
  subst hL
  refine wpAny_Assign_ListComp_free (pv pr) (fun v y => y = v) hsw hclos hcell hkind hnames hx hy hp (hit _ fun r t u v h1 k1 F1 N1 hR => ?_) hs
  have hsm : Builtin.Range.small 0 (n : Int) 1 = true := small_one (by decide) (by decide) (by omega) (by omega)
  refine wpAny_pyIter_range hR hsm ?_
  have hn : Builtin.Range.rangeSize 0 (n : Int) 1 = (n : Int) := by rw [rangeSize_nat]; simp
  dsimp only
  have up : ∀ b o, h1.get? b = some o → b ∉ [h1.objs.size] := fun b o e hm => absurd (Heap.lt_size e) (by rw [List.mem_singleton.mp hm]; exact Nat.lt_irrefl _)
  refine ⟨_, _, _, n, _, _, _, rfl, (Walks.range hh _ 0 1 n).bound, (by rw [sizeLine_eq]; omega), ?_, ?_, ?_, (F1.push _).ns, ⟨?_, ?_⟩, ?_⟩
  · show IsRangeIter _ _ _ _ _
    rw [hn]
    simpa using Heap.get?_push_size _ rfl
  · intro b hb
    rw [List.mem_singleton.mp hb]
    show _ < (Heap.push _ _).objs.size
    rw [Heap.size_push]
    exact Nat.lt_succ_self _
  · intro hm
    exact absurd F1.ns.lt (by rw [List.mem_singleton.mp hm]; exact Nat.lt_irrefl _)
  · rintro C i v s₃ m₃ E' hC3 ⟨hi, tt, rfl⟩ hn3 hm3 hk3 htk
    have hC : h1.objs.size + 1 ≤ C := by
      have h7 : (Heap.push h1 _).objs.size ≤ C := hC3
      rw [Heap.size_push] at h7
      exact h7
    have k3 : ∀ b o, h1.get? b = some o → s₃.heap.get? b = some o := fun b o e => hk3 b o (up b o e) (Heap.get?_push_of_some _ e)
    have F3 : Fr h₀ C s₃.heap m₃ := ⟨hn3, fun b o e => k3 b o (F1.keep b o e), Nat.le_trans F1.above (Nat.le_trans (Nat.le_of_lt F1.ns.lt) (Nat.le_trans (Nat.le_succ _) hC))⟩
    have N3 : News h₀ C s₃.heap news := fun p hp => ⟨k3 _ _ (N1 p hp).1, fun e => absurd (Heap.lt_size (N1 p hp).1) (by rw [e]; exact Nat.not_lt.mpr (Nat.le_trans (Nat.le_succ _) hC)), (N1 p hp).2.2⟩
    have e0 : (0 : Int) + (i : Int) * 1 = (i : Int) := by omega
    rw [e0] at hm3 ⊢
    exact wpAny_mono (htest C i tt s₃ m₃ E' hi F3 N3 hm3) (fun ok s₄ ⟨e1, k⟩ => ⟨by rw [e1]; rfl, k⟩) fun _ _ e => e
  · rintro C i v s₃ m₃ E' hC3 ⟨hi, tt, rfl⟩ _ hn3 hm3 hk3 htk
    exact wpAny_Name (wpAny_loadName_local hkind (lookup_relabel_local hx) hn3 hm3 ⟨rfl, _, _, rfl, fun _ _ e => e⟩) hdb
  · intro D h8 tk8 ys vs8 hD8 hl8 hpl8 hlen8 hP8 hF8 hn8 hk8
    have hn8' : h8.Ns env.locals (fun z => if z = y then some (.ref D) else m z) := hn8
    have keep8 : ∀ b o, b ≠ env.locals → h1.get? b = some o → h8.get? b = some o := fun b o hb e => hk8 b o hb (up b o e) (Heap.get?_push_of_some _ e)
    have hDs : h1.get? D = none := by
      cases q : h1.get? D with
      | none => rfl
      | some o => rw [Heap.get?_push_of_some _ q] at hD8; cases hD8
    obtain ⟨n8, e8⟩ := hpl8
    have F8 : Fr h₀ env.locals h8 (fun z => if z = y then some (.ref D) else m z) := ⟨hn8', fun b o e => keep8 b o (fun q => absurd (Heap.lt_size e) (by rw [q]; exact Nat.not_lt.mpr F1.above)) (F1.keep b o e), F1.above⟩
    have N8 : News h₀ env.locals h8 news := fun p hp => ⟨keep8 _ _ (N1 p hp).2.1 (N1 p hp).1, (N1 p hp).2⟩
    refine h D ys.toList n8 h8 tk8 F8 (new_list F1 N8 hDs (by rw [e8])) ?_
    have := idx_filter pr (vs := vs8) (ws := ys.toList) (k := 0) (fun j v hj => by
      obtain ⟨_, t9, e9⟩ := hP8 j v hj
      exact ⟨t9, by rw [e9, show (0 : Int) + (j : Int) * 1 = ((0 + j : Nat) : Int) by omega]⟩) hF8
    rw [hlen8] at this
    rw [List.range_eq_range']
    exact this
end
end

/-! ### PL -/
section
theorem top_off_PL : True := by
  w_top off
  trivial

local macro_rules | `(tactic| walk_at "call type:type") => `(tactic| ((with_reducible show wpAny _ _ (call _ [Value.bytes _ _]) _ _ _); refine call_type_of (Tx := "bytes") rfl (by decide +kernel) ?_))
section
open PySem.Builtin.Bytes
/-- the order of two rows of numbers -/
def nOrd : List Nat → List Nat → Ordering
  | [], [] => .eq
  | [], _ :: _ => .lt
  | _ :: _, [] => .gt
  | x :: xs, y :: ys => if x < y then .lt else if y < x then .gt else nOrd xs ys
theorem nOrd_cc (x y : Nat) (xs ys : List Nat) : nOrd (x :: xs) (y :: ys) = if x < y then .lt else if y < x then .gt else nOrd xs ys := rfl
theorem u8_lt {x y : Nat} (hx : x < 256) (hy : y < 256) : (x.toUInt8 < y.toUInt8) ↔ x < y := by
  rw [UInt8.lt_iff_toNat_lt]
  show x % 256 < y % 256 ↔ _
  rw [Nat.mod_eq_of_lt hx, Nat.mod_eq_of_lt hy]
theorem order_nat : ∀ (p q : List Nat), (∀ n ∈ p, n < 256) → (∀ n ∈ q, n < 256) → order (p.map (·.toUInt8)) (q.map (·.toUInt8)) = nOrd p q
  | [], [], _, _ => rfl
  | [], _ :: _, _, _ => rfl
  | _ :: _, [], _, _ => rfl
  | x :: p, y :: q, hp, hq => by
    have hx := hp x (.head _)
    have hy := hq y (.head _)
    have ih := order_nat p q (fun n h => hp n (.tail _ h)) (fun n h => hq n (.tail _ h))
    rw [List.map_cons, List.map_cons, nOrd_cc]
    show (if x.toUInt8 < y.toUInt8 then _ else if y.toUInt8 < x.toUInt8 then _ else order (p.map _) (q.map _)) = _
    simp only [u8_lt hx hy, u8_lt hy hx, ih]
theorem nats_back (b : Array UInt8) : (b.toList.map (·.toNat)).map (·.toUInt8) = b.toList := by
  rw [List.map_map]
  conv => rhs; rw [← List.map_id b.toList]
  apply List.map_congr_left
  intro x _
  show x.toNat.toUInt8 = x
  exact UInt8.ofNat_toNat
theorem order_u8 (b c : Array UInt8) : order b.toList c.toList = nOrd (b.toList.map (·.toNat)) (c.toList.map (·.toNat)) := by
  rw [← order_nat _ _ (nats_lt b) (nats_lt c), nats_back, nats_back]
theorem nOrd_map {f : Nat → Nat} {n : Nat} (hf : ∀ x y, x < n → y < n → x < y → f x < f y) : ∀ (p q : List Nat), (∀ x ∈ p, x < n) → (∀ x ∈ q, x < n) → nOrd (p.map f) (q.map f) = nOrd p q
  | [], [], _, _ => rfl
  | [], _ :: _, _, _ => rfl
  | _ :: _, [], _, _ => rfl
  | x :: p, y :: q, hp, hq => by
    have hx := hp x (.head _)
    have hy := hq y (.head _)
    have ih := nOrd_map hf p q (fun n h => hp n (.tail _ h)) (fun n h => hq n (.tail _ h))
    rw [List.map_cons, List.map_cons, nOrd_cc, nOrd_cc, ih]
    rcases Nat.lt_trichotomy x y with h | h | h
    · rw [if_pos h, if_pos (hf x y hx hy h)]
    · subst h
      rw [if_neg (Nat.lt_irrefl _), if_neg (Nat.lt_irrefl _), if_neg (Nat.lt_irrefl _), if_neg (Nat.lt_irrefl _)]
    · have := hf y x hy hx h
      rw [if_neg (show ¬ f x < f y by omega), if_pos this, if_neg (show ¬ x < y by omega), if_pos h]
theorem nib_ord : ∀ (l m : List Nat), nOrd (nib l) (nib m) = nOrd l m
  | [], [] => rfl
  | [], _ :: _ => rfl
  | _ :: _, [] => rfl
  | x :: l, y :: m => by
    have ih := nib_ord l m
    show nOrd (x / 16 :: x % 16 :: nib l) (y / 16 :: y % 16 :: nib m) = _
    rw [nOrd_cc, nOrd_cc, nOrd_cc, ih]
    repeat' split
    all_goals first | rfl | (exfalso; omega)
theorem hs_mono (x y : Nat) (hx : x < 16) (hy : y < 16) (h : x < y) : hs x < hs y := by
  unfold hs
  repeat' split
  all_goals omega
theorem hs_lt {x : Nat} (h : x < 16) : hs x < 256 := by
  unfold hs
  split <;> omega
/-- base 16 keeps the order -/
theorem ord16 (b c : Array UInt8) : order (h16A b).toList (h16A c).toList = order b.toList c.toList := by
  have e : ∀ b : Array UInt8, ∀ n ∈ enc16 (b.toList.map (·.toNat)), n < 256 := by
    intro b n hn
    rw [enc16_nib] at hn
    obtain ⟨x, hx, rfl⟩ := List.mem_map.mp hn
    exact hs_lt (nib_lt _ (nats_lt b) x hx)
  show order ((enc16 (b.toList.map (·.toNat))).map (·.toUInt8)) ((enc16 (c.toList.map (·.toNat))).map (·.toUInt8)) = _
  rw [order_nat _ _ (e b) (e c), order_u8, enc16_nib, enc16_nib, nOrd_map hs_mono _ _ (nib_lt _ (nats_lt b)) (nib_lt _ (nats_lt c)), nib_ord]
/-- two numbers' order -/
def cN (i j : Nat) : Ordering := if i < j then .lt else if j < i then .gt else .eq
theorem cN_lt {i j : Nat} (h : i < j) : cN i j = .lt := if_pos h
theorem cN_gt {i j : Nat} (h : j < i) : cN i j = .gt := by
  unfold cN
  rw [if_neg (Nat.lt_asymm h), if_pos h]
theorem cN_self (i : Nat) : cN i i = .eq := by
  unfold cN
  rw [if_neg (Nat.lt_irrefl _), if_neg (Nat.lt_irrefl _)]
theorem nOrd_cN (x y : Nat) (xs ys : List Nat) : nOrd (x :: xs) (y :: ys) = (cN x y).then (nOrd xs ys) := by
  rcases Nat.lt_trichotomy x y with h | h | h
  · rw [nOrd_cc, cN_lt h, if_pos h]; rfl
  · subst h; rw [nOrd_cc, cN_self, if_neg (Nat.lt_irrefl _), if_neg (Nat.lt_irrefl _)]; rfl
  · rw [nOrd_cc, cN_gt h, if_neg (Nat.lt_asymm h), if_pos h]; rfl
theorem digits_lt {k p q p' q' : Nat} (hq : q < k) (h : p < p') : p * k + q < p' * k + q' := by
  have h1 : (p + 1) * k ≤ p' * k := Nat.mul_le_mul_right k h
  rw [Nat.succ_mul] at h1
  omega
theorem cN_two {k p q p' q' : Nat} (hq : q < k) (hq' : q' < k) : cN (p * k + q) (p' * k + q') = (cN p p').then (cN q q') := by
  rcases Nat.lt_trichotomy p p' with h | h | h
  · rw [cN_lt h, cN_lt (digits_lt hq h)]; rfl
  · subst h
    rw [cN_self]
    rcases Nat.lt_trichotomy q q' with h | h | h
    · rw [cN_lt h, cN_lt (Nat.add_lt_add_left h _)]; rfl
    · subst h; rw [cN_self, cN_self]; rfl
    · rw [cN_gt h, cN_gt (Nat.add_lt_add_left h _)]; rfl
  · rw [cN_gt h, cN_gt (digits_lt hq' h)]; rfl
theorem cN_dm (k a x : Nat) (hk : 0 < k) : cN a x = (cN (a / k) (x / k)).then (cN (a % k) (x % k)) := by
  rw [← cN_two (Nat.mod_lt a hk) (Nat.mod_lt x hk), Nat.div_add_mod', Nat.div_add_mod']
theorem cN_up (k p p' : Nat) (hk : 0 < k) : cN (p * k) (p' * k) = cN p p' := by
  have := cN_two (p := p) (p' := p') hk hk
  rw [cN_self, Nat.add_zero, Nat.add_zero] at this
  rw [this]
  cases cN p p' <;> rfl
theorem cN_upl (k p p' q : Nat) (hq : q < k) : (cN (p * k) (p' * k + q)).then .lt = (cN p p').then .lt := by
  have := cN_two (q := 0) (p := p) (p' := p') (Nat.lt_of_le_of_lt (Nat.zero_le _) hq) hq
  rw [Nat.add_zero] at this
  rw [this, Ordering.then_assoc]
  rcases Nat.eq_zero_or_pos q with h | h
  · subst h; rw [cN_self]; rfl
  · rw [cN_lt h]; rfl
theorem cN_upg (k p p' q : Nat) (hq : q < k) : (cN (p * k + q) (p' * k)).then .gt = (cN p p').then .gt := by
  have := cN_two (q' := 0) (p := p) (p' := p') hq (Nat.lt_of_le_of_lt (Nat.zero_le _) hq)
  rw [Nat.add_zero] at this
  rw [this, Ordering.then_assoc]
  rcases Nat.eq_zero_or_pos q with h | h
  · subst h; rw [cN_self]; rfl
  · rw [cN_gt h]; rfl
theorem d16 {b : Nat} (h : b < 256) : b / 16 < 16 := Nat.div_lt_of_lt_mul h
theorem d64 {b : Nat} (h : b < 256) : b / 64 < 4 := Nat.div_lt_of_lt_mul h
theorem then_eq (o : Ordering) : o.then .eq = o := by cases o <;> rfl
theorem sx_ord : ∀ (l m : List Nat), (∀ c ∈ l, c < 256) → (∀ c ∈ m, c < 256) → nOrd (sx l) (sx m) = nOrd l m
  | [], [], _, _ => rfl
  | [], [_], _, _ => rfl
  | [], [_, _], _, _ => rfl
  | [], _ :: _ :: _ :: _, _, _ => rfl
  | [_], [], _, _ => rfl
  | [_, _], [], _, _ => rfl
  | _ :: _ :: _ :: _, [], _, _ => rfl
  | [a], [x], _, _ => by
    show nOrd [a / 4, a % 4 * 16] [x / 4, x % 4 * 16] = _
    simp only [nOrd_cN]
    rw [cN_up 16 _ _ (by decide), cN_dm 4 a x (by decide), Ordering.then_assoc]
  | [a], [x, y], _, hm => by
    show nOrd [a / 4, a % 4 * 16] [x / 4, x % 4 * 16 + y / 16, y % 16 * 4] = _
    simp only [nOrd_cN]
    show Ordering.then _ (Ordering.then _ .lt) = Ordering.then _ .lt
    rw [cN_upl 16 _ _ _ (d16 (hm y (.tail _ (.head _)))), cN_dm 4 a x (by decide), Ordering.then_assoc]
  | [a], x :: y :: z :: m, _, hm => by
    show nOrd [a / 4, a % 4 * 16] (x / 4 :: (x % 4 * 16 + y / 16) :: (y % 16 * 4 + z / 64) :: z % 64 :: sx m) = _
    simp only [nOrd_cN]
    show Ordering.then _ (Ordering.then _ .lt) = Ordering.then _ .lt
    rw [cN_upl 16 _ _ _ (d16 (hm y (.tail _ (.head _)))), cN_dm 4 a x (by decide), Ordering.then_assoc]
  | [a, b], [x], hl, _ => by
    show nOrd [a / 4, a % 4 * 16 + b / 16, b % 16 * 4] [x / 4, x % 4 * 16] = _
    simp only [nOrd_cN]
    show Ordering.then _ (Ordering.then _ .gt) = Ordering.then _ .gt
    rw [cN_upg 16 _ _ _ (d16 (hl b (.tail _ (.head _)))), cN_dm 4 a x (by decide), Ordering.then_assoc]
  | a :: b :: c :: l, [x], hl, _ => by
    show nOrd (a / 4 :: (a % 4 * 16 + b / 16) :: (b % 16 * 4 + c / 64) :: c % 64 :: sx l) [x / 4, x % 4 * 16] = _
    simp only [nOrd_cN]
    show Ordering.then _ (Ordering.then _ .gt) = Ordering.then _ .gt
    rw [cN_upg 16 _ _ _ (d16 (hl b (.tail _ (.head _)))), cN_dm 4 a x (by decide), Ordering.then_assoc]
  | [a, b], [x, y], hl, hm => by
    show nOrd [a / 4, a % 4 * 16 + b / 16, b % 16 * 4] [x / 4, x % 4 * 16 + y / 16, y % 16 * 4] = _
    simp only [nOrd_cN]
    rw [cN_two (d16 (hl b (.tail _ (.head _)))) (d16 (hm y (.tail _ (.head _)))), cN_up 4 _ _ (by decide), cN_dm 4 a x (by decide), cN_dm 16 b y (by decide)]
    simp only [Ordering.then_assoc]
  | [a, b], x :: y :: z :: m, hl, hm => by
    show nOrd [a / 4, a % 4 * 16 + b / 16, b % 16 * 4] (x / 4 :: (x % 4 * 16 + y / 16) :: (y % 16 * 4 + z / 64) :: z % 64 :: sx m) = _
    simp only [nOrd_cN]
    show Ordering.then _ (Ordering.then _ (Ordering.then _ .lt)) = Ordering.then _ (Ordering.then _ .lt)
    rw [cN_upl 4 _ _ _ (d64 (hm z (.tail _ (.tail _ (.head _))))), cN_two (d16 (hl b (.tail _ (.head _)))) (d16 (hm y (.tail _ (.head _)))), cN_dm 4 a x (by decide), cN_dm 16 b y (by decide)]
    simp only [Ordering.then_assoc]
  | a :: b :: c :: l, [x, y], hl, hm => by
    show nOrd (a / 4 :: (a % 4 * 16 + b / 16) :: (b % 16 * 4 + c / 64) :: c % 64 :: sx l) [x / 4, x % 4 * 16 + y / 16, y % 16 * 4] = _
    simp only [nOrd_cN]
    show Ordering.then _ (Ordering.then _ (Ordering.then _ .gt)) = Ordering.then _ (Ordering.then _ .gt)
    rw [cN_upg 4 _ _ _ (d64 (hl c (.tail _ (.tail _ (.head _))))), cN_two (d16 (hl b (.tail _ (.head _)))) (d16 (hm y (.tail _ (.head _)))), cN_dm 4 a x (by decide), cN_dm 16 b y (by decide)]
    simp only [Ordering.then_assoc]
  | a :: b :: c :: l, x :: y :: z :: m, hl, hm => by
    have ih := sx_ord l m (fun n h => hl n (.tail _ (.tail _ (.tail _ h)))) (fun n h => hm n (.tail _ (.tail _ (.tail _ h))))
    show nOrd (a / 4 :: (a % 4 * 16 + b / 16) :: (b % 16 * 4 + c / 64) :: c % 64 :: sx l) (x / 4 :: (x % 4 * 16 + y / 16) :: (y % 16 * 4 + z / 64) :: z % 64 :: sx m) = _
    simp only [nOrd_cN]
    rw [ih, cN_two (d64 (hl c (.tail _ (.tail _ (.head _))))) (d64 (hm z (.tail _ (.tail _ (.head _))))), cN_two (d16 (hl b (.tail _ (.head _)))) (d16 (hm y (.tail _ (.head _)))), cN_dm 4 a x (by decide), cN_dm 16 b y (by decide), cN_dm 64 c z (by decide)]
    simp only [Ordering.then_assoc]
/-- which run of the alphabet -/
def gN (n : Nat) : Nat := if n < 52 then 0 else if n < 62 then 1 else 2
/-- the order kept, from a place on -/
def kp (off : Nat) : List Nat → List Nat → Bool
  | [], [] => true
  | [], y :: _ => decide (off % 4 = 0) || decide (y < 52)
  | x :: _, [] => decide (off % 4 = 0) || decide (x < 52)
  | x :: p, y :: q => if x = y then kp (off + 1) p q else decide (gN x = gN y)
theorem sg_61 {j : Nat} (h : j < 64) : (61 < sg j ↔ j < 52) ∧ (sg j < 61 ↔ ¬ j < 52) := by
  have : ∀ j : Fin 64, (61 < sg j.val ↔ j.val < 52) ∧ (sg j.val < 61 ↔ ¬ j.val < 52) := by decide +kernel
  exact this ⟨j, h⟩
theorem sg_ord {i j : Nat} (hi : i < 64) (hj : j < 64) (h : i ≠ j) : ((if sg i < sg j then Ordering.lt else if sg j < sg i then .gt else .eq) == .lt) = (decide (i < j) == decide (gN i = gN j)) ∧ (sg i < sg j ∨ sg j < sg i) := by
  have : ∀ i j : Fin 64, i ≠ j → ((if sg i.val < sg j.val then Ordering.lt else if sg j.val < sg i.val then .gt else .eq) == .lt) = (decide (i.val < j.val) == decide (gN i.val = gN j.val)) ∧ (sg i.val < sg j.val ∨ sg j.val < sg i.val) := by decide +kernel
  exact this ⟨i, hi⟩ ⟨j, hj⟩ (fun e => h (by cases e; rfl))
theorem ord_kp : ∀ (p q : List Nat) (off x y : Nat), (∀ n ∈ p, n < 64) → (∀ n ∈ q, n < 64) → (x = 0 ↔ (off + p.length) % 4 = 0) → (y = 0 ↔ (off + q.length) % 4 = 0) → (p.length = q.length → x = y) →
    (nOrd (p.map sg ++ List.replicate x 61) (q.map sg ++ List.replicate y 61) == .lt) = ((nOrd p q == .lt) == kp off p q)
  | [], [], off, x, y, _, _, hx, hy, he => by
    have := he rfl
    subst this
    have : ∀ x : Nat, nOrd (List.replicate x 61) (List.replicate x 61) = .eq := by
      intro x
      induction x with
      | zero => rfl
      | succ n ih => rw [List.replicate_succ, nOrd_cc, ih]; rfl
    show (nOrd (List.replicate x 61) (List.replicate x 61) == .lt) = _
    rw [this]
    rfl
  | [], b :: q, off, x, y, _, hq, hx, hy, _ => by
    have hb := sg_61 (hq b (.head _))
    have hx' : x = 0 ↔ off % 4 = 0 := hx
    cases x with
    | zero =>
      have : off % 4 = 0 := hx'.mp rfl
      show (Ordering.lt == .lt) = ((Ordering.lt == .lt) == (decide (off % 4 = 0) || _))
      rw [this]
      rfl
    | succ n =>
      have h4 : ¬ off % 4 = 0 := fun h => by have := hx'.mpr h; omega
      show ((if 61 < sg b then Ordering.lt else if sg b < 61 then .gt else _) == .lt) = (true == (decide (off % 4 = 0) || decide (b < 52)))
      rw [decide_eq_false h4]
      by_cases h : b < 52
      · rw [if_pos (hb.1.mpr h), decide_eq_true h]; rfl
      · rw [if_neg (fun e => h (hb.1.mp e)), if_pos (hb.2.mpr h), decide_eq_false h]; rfl
  | a :: p, [], off, x, y, hp, _, hx, hy, _ => by
    have ha := sg_61 (hp a (.head _))
    have hy' : y = 0 ↔ off % 4 = 0 := hy
    cases y with
    | zero =>
      have : off % 4 = 0 := hy'.mp rfl
      show (Ordering.gt == .lt) = ((Ordering.gt == .lt) == (decide (off % 4 = 0) || _))
      rw [this]
      rfl
    | succ n =>
      have h4 : ¬ off % 4 = 0 := fun h => by have := hy'.mpr h; omega
      show ((if sg a < 61 then Ordering.lt else if 61 < sg a then .gt else _) == .lt) = (false == (decide (off % 4 = 0) || decide (a < 52)))
      rw [decide_eq_false h4]
      by_cases h : a < 52
      · rw [if_neg (fun e => ha.2.mp e h), if_pos (ha.1.mpr h), decide_eq_true h]; rfl
      · rw [if_pos (ha.2.mpr h), decide_eq_false h]; rfl
  | a :: p, b :: q, off, x, y, hp, hq, hx, hy, he => by
    have ha := hp a (.head _)
    have hb := hq b (.head _)
    rw [List.map_cons, List.map_cons, List.cons_append, List.cons_append, nOrd_cc, nOrd_cc]
    by_cases h : a = b
    · subst h
      have ih := ord_kp p q (off + 1) x y (fun n h => hp n (.tail _ h)) (fun n h => hq n (.tail _ h)) (by rw [hx, List.length_cons]; omega) (by rw [hy, List.length_cons]; omega) (fun h => he (by rw [List.length_cons, List.length_cons, h]))
      rw [if_neg (Nat.lt_irrefl _), if_neg (Nat.lt_irrefl _), if_neg (Nat.lt_irrefl _), if_neg (Nat.lt_irrefl _), ih]
      show _ = (_ == if a = a then kp (off + 1) p q else _)
      rw [if_pos rfl]
    · obtain ⟨h1, h2⟩ := sg_ord ha hb h
      show _ = (_ == if a = b then kp (off + 1) p q else decide (gN a = gN b))
      rw [if_neg h]
      have e1 : ∀ o : Ordering, ((if sg a < sg b then Ordering.lt else if sg b < sg a then .gt else o) == .lt) = ((if sg a < sg b then Ordering.lt else if sg b < sg a then .gt else .eq) == .lt) := by
        intro o
        rcases h2 with h2 | h2
        · rw [if_pos h2, if_pos h2]
        · rw [if_neg (by omega), if_pos h2, if_neg (by omega), if_pos h2]
      rw [e1, h1]
      rcases Nat.lt_trichotomy a b with h3 | h3 | h3
      · rw [if_pos h3, decide_eq_true h3]; rfl
      · exact absurd h3 h
      · rw [if_neg (by omega), if_pos h3, decide_eq_false (by omega)]; rfl
theorem grp_gN (n : Nat) : grp (n : Int) = (gN n : Int) := by
  unfold grp gN
  by_cases h1 : n < 52
  · have e1 : decide ((52 : Int) ≤ n) = false := decide_eq_false (by omega)
    have e2 : decide ((62 : Int) ≤ n) = false := decide_eq_false (by omega)
    rw [e1, e2, if_pos h1]; rfl
  · by_cases h2 : n < 62
    · have e1 : decide ((52 : Int) ≤ n) = true := decide_eq_true (by omega)
      have e2 : decide ((62 : Int) ≤ n) = false := decide_eq_false (by omega)
      rw [e1, e2, if_neg h1, if_pos h2]; rfl
    · have e1 : decide ((52 : Int) ≤ n) = true := decide_eq_true (by omega)
      have e2 : decide ((62 : Int) ≤ n) = true := decide_eq_true (by omega)
      rw [e1, e2, if_neg h1, if_neg h2]; rfl
/-- keptS with places ahead that are alike -/
theorem kept_from : ∀ (p q : List Nat) (off : Nat) (pre : List Int), pre.length = off → keptS (pre ++ p.map (fun n : Nat => (n : Int))) (pre ++ q.map (fun n : Nat => (n : Int))) = kp off p q := by
  have hpre : ∀ (pre : List Int) (p q : List Int), ((pre ++ p).zip (pre ++ q)).find? (fun p => p.1 != p.2) = (p.zip q).find? (fun p => p.1 != p.2) := by
    intro pre p q
    induction pre with
    | nil => rfl
    | cons a pre ih =>
      show ((a, a) :: ((pre ++ p).zip (pre ++ q))).find? _ = _
      rw [List.find?_cons_of_neg (by simp), ih]
  intro p
  induction p with
  | nil =>
    intro q off pre hl
    cases q with
    | nil =>
      unfold keptS
      rw [hpre]
      simp [kp]
    | cons y q =>
      unfold keptS
      rw [hpre]
      subst hl
      simp [kp, List.getElem?_append_right]
      congr 1
      exact decide_eq_decide.mpr (by omega)
  | cons x p ih =>
    intro q off pre hl
    cases q with
    | nil =>
      unfold keptS
      rw [hpre]
      subst hl
      have e0 : ¬ (pre.length + (p.length + 1) < pre.length) := by omega
      have e1 : decide ((x : Int) < 52) = decide (x < 52) := decide_eq_decide.mpr (by omega)
      simp [kp, List.getElem?_append_right, e0, e1]
    | cons y q =>
      show _ = if x = y then kp (off + 1) p q else decide (gN x = gN y)
      by_cases h : x = y
      · subst h
        rw [if_pos rfl, ← ih q (off + 1) (pre ++ [(x : Int)]) (by simp [hl])]
        simp
      · rw [if_neg h]
        have e : keptS (pre ++ (x :: p).map (fun n : Nat => (n : Int))) (pre ++ (y :: q).map (fun n : Nat => (n : Int))) = (grp (x : Int) == grp (y : Int)) := by
          apply kept_some
          rw [hpre]
          show (((x : Int), (y : Int)) :: _).find? _ = _
          rw [List.find?_cons_of_pos (by simp; omega)]
        rw [e, grp_gN, grp_gN]
        by_cases hg : gN x = gN y
        · simp [hg]
        · simp [hg]
          omega
/-- base 64's order -/
theorem ord64 (b c : Array UInt8) : (order (b64A b).toList (b64A c).toList == .lt) = ((order b.toList c.toList == .lt) == keptS ((sx (b.toList.map (·.toNat))).map (fun n : Nat => (n : Int))) ((sx (c.toList.map (·.toNat))).map (fun n : Nat => (n : Int)))) := by
  show (order ((enc64 (b.toList.map (·.toNat))).map (·.toUInt8)) ((enc64 (c.toList.map (·.toNat))).map (·.toUInt8)) == .lt) = _
  rw [order_nat _ _ enc64_lt enc64_lt, order_u8, ← sx_ord _ _ (nats_lt b) (nats_lt c)]
  have := kept_from (sx (b.toList.map (·.toNat))) (sx (c.toList.map (·.toNat))) 0 [] rfl
  rw [List.nil_append, List.nil_append] at this
  rw [this]
  refine ord_kp _ _ 0 _ _ (sx_lt _ (nats_lt b)) (sx_lt _ (nats_lt c)) ?_ ?_ ?_
  · rw [sx_len]; unfold padn; omega
  · rw [sx_len]; unfold padn; omega
  · rw [sx_len, sx_len]
    intro h
    congr 1
    omega
end
end

/-! ### PL2 -/
section
theorem top_off_PL2 : True := by
  w_top off
  trivial

local macro_rules | `(tactic| walk_at "call type:type") => `(tactic| ((with_reducible show wpAny _ _ (call _ [Value.bytes _ _]) _ _ _); refine call_type_of (Tx := "bytes") rfl (by decide +kernel) ?_))
theorem cut_two (base : Int) (count : Nat) (x fl : List Int) (n : Nat) (hx : x.length = 2 * count) :
    cutNums base count (x ++ fl) (2 + n) = [numOf base (x.take count), numOf base ((x.drop count).take count)] ++ cutNums base count fl n := by
  unfold cutNums
  rw [List.range_add, List.map_append, List.map_map]
  congr 1
  · show [numOf base (((x ++ fl).drop (0 * count)).take count), numOf base (((x ++ fl).drop (1 * count)).take count)] = _
    rw [Nat.zero_mul, Nat.one_mul, List.drop_zero, List.take_append_of_le_length (by omega), List.drop_append_of_le_length (by omega), List.take_append_of_le_length (by rw [List.length_drop]; omega)]
  · apply List.map_congr_left
    intro j _
    show numOf base (((x ++ fl).drop ((2 + j) * count)).take count) = _
    have e : (2 + j) * count = x.length + j * count := by rw [hx, Nat.add_mul]
    rw [e, ← List.drop_drop, List.drop_left]
/-- the numbers that _law_twelves gives -/
def tw (base : Int) (count : Nat) (ns : List Int) : List Int := cutNums base count (ns ++ List.replicate ((-(ns.length : Int)) % (count : Int)).toNat 0) ((ns.length + count - 1) / count)
theorem tw_two (base : Int) (count : Nat) (x ns : List Int) (h0 : 0 < count) (hx : x.length = 2 * count) :
    tw base count (x ++ ns) = [numOf base (x.take count), numOf base ((x.drop count).take count)] ++ tw base count ns := by
  unfold tw
  have e1 : (-((x ++ ns).length : Int)) % (count : Int) = (-(ns.length : Int)) % (count : Int) := by
    rw [List.length_append, hx]
    have : (-((2 * count + ns.length : Nat) : Int)) = -(ns.length : Int) + (count : Int) * (-2) := by
      rw [Int.natCast_add, Int.natCast_mul]; omega
    rw [this, Int.add_mul_emod_self_left]
  have e2 : ((x ++ ns).length + count - 1) / count = 2 + (ns.length + count - 1) / count := by
    rw [List.length_append, hx]
    have : 2 * count + ns.length + count - 1 = (ns.length + count - 1) + 2 * count := by omega
    rw [this, Nat.add_mul_div_right _ _ h0]
    omega
  rw [e1, e2, List.append_assoc, cut_two _ _ _ _ _ hx]
theorem tw_is : ∀ l : List Nat, tw 16 3 ((nib l).map (fun n : Nat => (n : Int))) = tw 64 2 ((sx l).map (fun n : Nat => (n : Int)))
  | [] => rfl
  | [a] => by
    have h1 : (((-(2 : Int)) % 3).toNat) = 1 := by decide
    have h2 : (((-(2 : Int)) % 2).toNat) = 0 := by decide
    simp [tw, cutNums, nib, sx, List.range_succ, numOf, h1, h2, List.replicate_succ]
    omega
  | [a, b] => by
    have h1 : (((-(4 : Int)) % 3).toNat) = 2 := by decide
    have h2 : (((-(3 : Int)) % 2).toNat) = 1 := by decide
    simp [tw, cutNums, nib, sx, List.range_succ, numOf, h1, h2, List.replicate_succ]
    omega
  | a :: b :: c :: l => by
    have ih := tw_is l
    have e1 := tw_two 16 3 [((a / 16 : Nat) : Int), ((a % 16 : Nat) : Int), ((b / 16 : Nat) : Int), ((b % 16 : Nat) : Int), ((c / 16 : Nat) : Int), ((c % 16 : Nat) : Int)] ((nib l).map (fun n : Nat => (n : Int))) (by decide) rfl
    have e2 := tw_two 64 2 [((a / 4 : Nat) : Int), ((a % 4 * 16 + b / 16 : Nat) : Int), ((b % 16 * 4 + c / 64 : Nat) : Int), ((c % 64 : Nat) : Int)] ((sx l).map (fun n : Nat => (n : Int))) (by decide) rfl
    show tw 16 3 ([((a / 16 : Nat) : Int), ((a % 16 : Nat) : Int), ((b / 16 : Nat) : Int), ((b % 16 : Nat) : Int), ((c / 16 : Nat) : Int), ((c % 16 : Nat) : Int)] ++ (nib l).map (fun n : Nat => (n : Int))) = tw 64 2 ([((a / 4 : Nat) : Int), ((a % 4 * 16 + b / 16 : Nat) : Int), ((b % 16 * 4 + c / 64 : Nat) : Int), ((c % 64 : Nat) : Int)] ++ (sx l).map (fun n : Nat => (n : Int)))
    rw [e1, e2, ih]
    congr 1
    simp only [numOf, List.take_succ_cons, List.take_zero, List.drop_succ_cons, List.drop_zero, List.foldl_cons, List.foldl_nil, List.cons.injEq, and_true]
    omega
/-- the pieces that are off -/
def offs (bs : List (Array UInt8)) (k : Nat) : Bool := decide ((bs.getD k #[]).size % 3 ≠ 0) && decide (cat (bs.drop (k + 1)) ≠ #[])
theorem cat_nil_iff : ∀ {bs : List (Array UInt8)}, cat bs = #[] ↔ ∀ b ∈ bs, b = #[]
  | [] => by simp [cat]
  | b :: bs => by
    rw [cat_cons, Array.append_eq_empty_iff, cat_nil_iff]
    simp
theorem b64_nil : b64A #[] = #[] := rfl
theorem cat64_nil {bs : List (Array UInt8)} (h : cat bs = #[]) : cat (bs.map b64A) = #[] := by
  rw [cat_nil_iff] at h ⊢
  intro c hc
  obtain ⟨b, hb, rfl⟩ := List.mem_map.mp hc
  rw [h b hb, b64_nil]
theorem offs_nil {bs : List (Array UInt8)} (h : cat bs = #[]) (k : Nat) : offs bs k = false := by
  have : cat (bs.drop (k + 1)) = #[] := by
    rw [cat_nil_iff] at h ⊢
    exact fun b hb => h b (List.mem_of_mem_drop hb)
  unfold offs
  rw [this]
  simp
theorem a64_not61 : (61 : UInt8) ∉ A64 := by decide +kernel
theorem b64_at61 {b : Array UInt8} (h : b.size % 3 ≠ 0) (r : Array UInt8) : (b64A b ++ r).toList[(4 * b.size + 2) / 3]? = some 61 := by
  have e : (b64A b).toList = sig (b.toList.map (·.toNat)) ++ List.replicate (padn b.size) 61 := by
    show (enc64 (b.toList.map (·.toNat))).map (·.toUInt8) = _
    rw [enc64_sig, lenN]
  have hp : padn b.size = (padn b.size - 1) + 1 := by unfold padn; omega
  rw [Array.toList_append, e, hp, List.replicate_succ, List.append_assoc, List.getElem?_append_right (by rw [sig_len, lenN]; omega), sig_len, lenN, Nat.sub_self]
  rfl
theorem b64_at {b : Array UInt8} {k : Nat} (h : k < (4 * b.size + 2) / 3) : (b64A b).toList[k]? ≠ some 61 := by
  have e : (b64A b).toList = sig (b.toList.map (·.toNat)) ++ List.replicate (padn b.size) 61 := by
    show (enc64 (b.toList.map (·.toNat))).map (·.toUInt8) = _
    rw [enc64_sig, lenN]
  rw [e, List.getElem?_append_left (by rw [sig_len, lenN]; exact h)]
  intro he
  exact a64_not61 (sig_mem _ (nats_lt b) _ (List.mem_of_getElem? he))
/-- the pieces' writings in base 64 laid end to end -/
theorem join_off : ∀ bs : List (Array UInt8), (cat (bs.map b64A) = b64A (cat bs)) ↔ ∀ k, k < bs.length → offs bs k = false
  | [] => by
    constructor
    · intro _ k hk; simp at hk
    · intro _; rfl
  | b :: bs => by
    have ih := join_off bs
    have hsucc : ∀ k, offs (b :: bs) (k + 1) = offs bs k := fun k => rfl
    have hzero : offs (b :: bs) 0 = (decide (b.size % 3 ≠ 0) && decide (cat bs ≠ #[])) := rfl
    rw [List.map_cons, cat_cons, cat_cons]
    by_cases h3 : b.size % 3 = 0
    · rw [b64_append h3]
      have h0 : offs (b :: bs) 0 = false := by rw [hzero, decide_eq_false (by omega)]; rfl
      constructor
      · intro h k hk
        cases k with
        | zero => exact h0
        | succ k => rw [hsucc]; exact ih.mp (Array.append_inj_right h rfl) k (by simpa using hk)
      · intro h
        rw [ih.mpr fun k hk => by rw [← hsucc]; exact h (k + 1) (by simpa using hk)]
    · by_cases hc : cat bs = #[]
      · constructor
        · intro _ k hk
          cases k with
          | zero => rw [hzero, hc]; simp
          | succ k => rw [hsucc]; exact offs_nil hc k
        · intro _
          rw [cat64_nil hc, hc, Array.append_empty, Array.append_empty]
      · constructor
        · intro h
          exfalso
          have h1 := b64_at61 (r := cat (bs.map b64A)) h3
          rw [h] at h1
          refine b64_at ?_ h1
          have : 0 < (cat bs).size := by
            rcases Nat.eq_zero_or_pos (cat bs).size with h | h
            · exact absurd (Array.eq_empty_of_size_eq_zero h) hc
            · exact h
          rw [Array.size_append]
          omega
        · intro h
          have := h 0 (by simp)
          rw [hzero] at this
          simp [h3, hc] at this
theorem join_off_list (bs : List (Array UInt8)) : decide (cat (bs.map b64A) = b64A (cat bs)) = decide (((List.range bs.length).filter (offs bs)).map (fun n : Nat => (n : Int)) = []) := by
  rw [decide_eq_decide, join_off, List.map_eq_nil_iff, List.filter_eq_nil_iff]
  constructor
  · intro h k hk
    rw [h k (List.mem_range.mp hk)]
    exact Bool.false_ne_true
  · intro h k hk
    have := h k (List.mem_range.mpr hk)
    simpa using this
end

/-! ### L3 -/
section
theorem top_off_L3 : True := by
  w_top off
  trivial

local macro_rules | `(tactic| walk_at "call type:type") => `(tactic| ((with_reducible show wpAny _ _ (call _ [Value.bytes _ _]) _ _ _); refine call_type_of (Tx := "bytes") rfl (by decide +kernel) ?_))
local macro_rules | `(tactic| walk_at "getMethod bytes") => `(tactic| (first | with_reducible refine m_translate ?_ | with_reducible refine m_upper ?_ | with_reducible refine m_hex ?_ | with_reducible refine m_replace ?_ | with_reducible refine m_join ?_))
local macro_rules | `(tactic| walk_at "getMethod str") => `(tactic| (with_reducible refine m_encode ?_))
local macro_rules | `(tactic| walk_at "eval DictComp") => `(tactic| k_extra "my DictComp")
local macro_rules | `(tactic| walk_at "eval ListComp") => `(tactic| k_extra "my ListComp")
local macro_rules | `(tactic| walk_at "eval Name") => `(tactic| k_extra "my Name")
local macro_rules | `(tactic| walk_at "pyIter ref") => `(tactic| k_extra "my pyIter")
local macro_rules | `(tactic| walk_at "subscriptTail Name Slice ref ref") => `(tactic| k_extra "my slice")
section
variable {prog : Program} {w : World} {A : Around} {E : Value → Shared → Prop} {s : Shared} {h₀ : Heap} {env : Env}
/-- f(x) inside a comprehension, f by its contract -/
theorem elt_by {K : Frag} {p : Program} {loose : List PySem.Str} {mean : ExcName → Option Value} {mg mb m₃ : PySem.Str → Option Value} {C fA : Addr} {g x : PySem.Str} {pf px pos : Pos} {scope : Scope} {cl : List (PySem.Str × Addr)} {o : Obj} {fd : FuncData} {b : Array UInt8} {t : Tok} {f : Array UInt8 → Array UInt8}
    (F : Fr h₀ C s.heap m₃) (X : K.In h₀) (T : Top p loose mean mg mb h₀) (e : nsIn K mainGlobals g = some (some (.ref fA))) (ho : K.lookup fA = some o) (hd : o.data = .func fd)
    (hk : scope.kind = .function) (hg : (compEnvC scope cl C env).kindOf g = some .globalImplicit) (hgl : (compEnvC scope cl C env).globals = mainGlobals)
    (hx : scope.names.lookup x = some .local) (hdx : (x == ("__debug__" : PySem.Str)) = false) (hdg : (g == ("__debug__" : PySem.Str)) = false) (hm : m₃ x = some (.bytes b t))
    (c : codeAny (model prog w) A (.call (.ref fA) ⟨[.bytes b t], []⟩) (Ret s (fun v _ => ∃ t', v = .bytes (f b) t')) s) :
    wpAny (model prog w) A (eval (.Call (.Name g pf) [.Name x px] [] pos) (compEnvC scope cl C env)) (fun y s₄ => (∃ t', y = .bytes (f b) t') ∧ Keeps s s₄) E s := by
  refine wpAny_Call_Name_kw (comp_glob F X T e hk hg hgl ?_ hdg)
  refine callWith_function_kw (o := o) (fd := fd) ?_
  refine Calls.evalArgs_plain (Calls.spliced_cons (wpAny_Name (wpAny_loadName_local hk (lookup_relabel_local hx) F.ns hm (Calls.spliced_nil ⟨⟨F.keep _ _ (X _ _ ho), hd⟩, ?_⟩)) hdx))
  exact wpAny_call (codeAny_mono c fun _ _ ⟨v, h', t', e1, e2, k, q⟩ => by subst e1; subst e2; exact ⟨q, h', t', rfl, k⟩)
end
theorem mem_cat_size {b : Array UInt8} : ∀ {bs : List (Array UInt8)}, b ∈ bs → b.size ≤ (cat bs).size
  | c :: bs, h => by
    rw [cat_cons, Array.size_append]
    rcases List.mem_cons.mp h with rfl | h
    · omega
    · have := mem_cat_size h
      omega
end

/-! ### L4 -/
section
theorem top_off_L4 : True := by
  w_top off
  trivial

local macro_rules | `(tactic| walk_at "call type:type") => `(tactic| ((with_reducible show wpAny _ _ (call _ [Value.bytes _ _]) _ _ _); refine call_type_of (Tx := "bytes") rfl (by decide +kernel) ?_))
local macro_rules | `(tactic| walk_at "getMethod bytes") => `(tactic| (first | with_reducible refine m_translate ?_ | with_reducible refine m_upper ?_ | with_reducible refine m_hex ?_ | with_reducible refine m_replace ?_ | with_reducible refine m_join ?_))
local macro_rules | `(tactic| walk_at "getMethod str") => `(tactic| (with_reducible refine m_encode ?_))
local macro_rules | `(tactic| walk_at "eval DictComp") => `(tactic| k_extra "my DictComp")
local macro_rules | `(tactic| walk_at "eval ListComp") => `(tactic| k_extra "my ListComp")
local macro_rules | `(tactic| walk_at "eval Name") => `(tactic| k_extra "my Name")
local macro_rules | `(tactic| walk_at "pyIter ref") => `(tactic| k_extra "my pyIter")
local macro_rules | `(tactic| walk_at "subscriptTail Name Slice ref ref") => `(tactic| k_extra "my slice")
section
variable {prog : Program} {w : World} {A : Around} {E : Value → Shared → Prop} {s : Shared} {Q : Value → Shared → Prop} {b c : Array UInt8} {t u : Tok}
theorem ne_same (h : Q (.bool false) s) : wpAny (model prog w) A (compareOp .NotEq (.bytes b t) (.bytes b u)) Q E s := ne_bytes (by rw [bne_self_eq_false]; exact h)
theorem eq_join {bs : List (Array UInt8)} (hc : cat bs = c) (h : Q (.bool (decide (((List.range bs.length).filter (offs bs)).map (fun n : Nat => (n : Int)) = []))) s) : wpAny (model prog w) A (compareOp .Eq (.bytes (cat (bs.map b64A)) t) (.bytes (b64A c) u)) Q E s := by
  subst hc
  refine eq_bytes ?_
  have e : ((cat (bs.map b64A)).toList == (b64A (cat bs)).toList) = decide (cat (bs.map b64A) = b64A (cat bs)) := by
    by_cases q : cat (bs.map b64A) = b64A (cat bs)
    · rw [decide_eq_true q, q, beq_self_eq_true]
    · rw [decide_eq_false q, beq_eq_false_iff_ne]
      exact fun r => q (Array.toList_inj.mp r)
  rw [e, join_off_list]
  exact h
theorem lt16 (h : Q (.bool (Builtin.Bytes.order b.toList c.toList == .lt)) s) : wpAny (model prog w) A (compareOp .Lt (.bytes (h16A b) t) (.bytes (h16A c) u)) Q E s :=
  lt_by (by rw [ord16]; exact h)
theorem lt64 (h : Q (.bool ((Builtin.Bytes.order b.toList c.toList == .lt) == keptS ((sx (b.toList.map (·.toNat))).map (fun n : Nat => (n : Int))) ((sx (c.toList.map (·.toNat))).map (fun n : Nat => (n : Int))))) s) : wpAny (model prog w) A (compareOp .Lt (.bytes (b64A b) t) (.bytes (b64A c) u)) Q E s :=
  lt_by (by rw [ord64]; exact h)
end
end

/-! ### LA0 -/
section
theorem top_off_LA0 : True := by
  w_top off
  trivial

local macro_rules | `(tactic| walk_at "call type:type") => `(tactic| ((with_reducible show wpAny _ _ (call _ [Value.bytes _ _]) _ _ _); refine call_type_of (Tx := "bytes") rfl (by decide +kernel) ?_))
local macro_rules | `(tactic| walk_at "getMethod bytes") => `(tactic| (first | with_reducible refine m_translate ?_ | with_reducible refine m_upper ?_ | with_reducible refine m_hex ?_ | with_reducible refine m_replace ?_ | with_reducible refine m_join ?_))
local macro_rules | `(tactic| walk_at "getMethod str") => `(tactic| (with_reducible refine m_encode ?_))
local macro_rules | `(tactic| walk_at "eval DictComp") => `(tactic| k_extra "my DictComp")
local macro_rules | `(tactic| walk_at "eval ListComp") => `(tactic| k_extra "my ListComp")
local macro_rules | `(tactic| walk_at "eval Name") => `(tactic| k_extra "my Name")
local macro_rules | `(tactic| walk_at "pyIter ref") => `(tactic| k_extra "my pyIter")
local macro_rules | `(tactic| walk_at "subscriptTail Name Slice ref ref") => `(tactic| k_extra "my slice")

section
variable {M : Model} {A : Around} {E : Value → Shared → Prop} {s : Shared} {x : Sem Value} {Q : Value → Shared → Prop} {h₀ : Heap} {L : Addr} {m : PySem.Str → Option Value} {news : List (Addr × Obj)}
def IM (s : Shared) (v : Value) (s' : Shared) : Prop := ∃ c t k, v = .int c t ∧ s' = { s with toks := k }
theorem cut_int (h1 : wpAny M A x (IM s) E s) (h2 : ∀ c t k, Q (.int c t) { s with toks := k }) : wpAny M A x Q E s :=
  wpAny_mono h1 (by rintro _ _ ⟨c, t, k, rfl, rfl⟩; exact h2 c t k) fun _ _ e => e
def LM (h₀ : Heap) (L : Addr) (m : PySem.Str → Option Value) (news : List (Addr × Obj)) (s : Shared) (v : Value) (s' : Shared) : Prop := ∃ D vs ns n h' k, v = .ref D ∧ s' = { s with heap := h', toks := k } ∧ Fr h₀ L h' m ∧ News h₀ L h' ((D, listOf (List.toArray vs) n) :: news) ∧ IntsAre vs ns ∧ ns.length ≤ 39
theorem cut_list (F : Fr h₀ L s.heap m) (N : News h₀ L s.heap news) (h1 : wpAny M A x (LM h₀ L m news s) E s)
    (h2 : ∀ D vs ns n h' k, Fr h₀ L h' m → News h₀ L h' ((D, listOf (List.toArray vs) n) :: news) → IntsAre vs ns → ns.length ≤ 39 → Q (.ref D) { s with heap := h', toks := k }) : wpAny M A x Q E s :=
  wpAny_mono h1 (by rintro _ _ ⟨D, vs, ns, n, h', k, rfl, rfl, h5, h6, h7, h8⟩; exact h2 D vs ns n h' k h5 h6 h7 h8) fun _ _ e => e
end

theorem figs_len {b : Array UInt8} (h : b.size ≤ 100) : ((nib (b.toList.map (·.toNat))).map (fun n : Nat => (n : Int))).length ≤ 500 := by
  rw [List.length_map, nib_len, lenN]; omega
theorem figs_in {b : Array UInt8} : ∀ n ∈ (nib (b.toList.map (·.toNat))).map (fun n : Nat => (n : Int)), 0 ≤ n ∧ n < 100 := by
  intro n hn
  obtain ⟨x, hx, rfl⟩ := List.mem_map.mp hn
  have := nib_lt _ (nats_lt b) x hx
  omega
theorem plcs_len {b : Array UInt8} (h : b.size ≤ 100) : ((sx (b.toList.map (·.toNat))).map (fun n : Nat => (n : Int))).length ≤ 500 := by
  rw [List.length_map, sx_len, lenN]; omega
theorem plcs_in {b : Array UInt8} : ∀ n ∈ (sx (b.toList.map (·.toNat))).map (fun n : Nat => (n : Int)), 0 ≤ n ∧ n < 100 := by
  intro n hn
  obtain ⟨x, hx, rfl⟩ := List.mem_map.mp hn
  have := sx_lt _ (nats_lt b) x hx
  omega
local macro_rules | `(tactic| walk_at "exec Assign cons ListComp") => `(tactic| k_extra "my AssignComp")
local macro_rules | `(tactic| walk_at "eval ListComp") => `(tactic| k_extra "my ListComp")
local macro_rules | `(tactic| walk_at "call ref") => `(tactic| k_extra "my call")
theorem store_cut {M : Model} {A : Around} {E : Value → Shared → Prop} {s : Shared} {h₀ : Heap} {L a : Addr} {m : PySem.Str → Option Value} {cn : PySem.Str} {cs : Scope} {ccd : Value} {cl : List (PySem.Str × Addr)} {x : PySem.Str} {v : Value} {Q : Unit → Shared → Prop} {news : List (Addr × Obj)} {c : Addr} {o : Obj} {v₀ : Option Value}
    (keep : List (Addr × Obj)) (F : Fr h₀ L s.heap m) (N : News h₀ L s.heap news) (hm : (c, o) ∈ news) (hc : cl.lookup x = some c) (hd : o.data = .cell v₀) (hk : ∀ p ∈ keep, p ∈ news ∧ ∃ its n, p.2.data = .seq its n)
    (h : ∀ h' o', Fr h₀ L h' m → News h₀ L h' ((c, o') :: keep) → o'.data = .cell (some v) → Q () { s with heap := h' })
    (hf : cs.kind = .function := by rfl) (hx : (envX cn cs L a ccd cl).kindOf x = some .cell := by rfl) : wpAny M A (storeName (envX cn cs L a ccd cl) x v) Q E s := by
  refine storeX_C F (news := (c, o) :: keep) (g := fun o' => (c, o') :: keep) (fun p hp => ?_) hc (UpdF.head fun p hp e => ?_) hd h hf hx
  · rcases List.mem_cons.mp hp with rfl | hp
    · exact N _ hm
    · exact N _ (hk p hp).1
  · obtain ⟨h1, its, n, h2⟩ := hk p hp
    have e1 := (N _ h1).1
    rw [e, (N _ hm).1] at e1
    cases e1
    rw [hd] at h2
    cases h2
local macro_rules | `(tactic| walk_at "storeName") => `(tactic| k_extra "my store")
theorem caller_is : callerA = Ar 301 (some []) (some []) 4 := rfl
end

/-! ### L5 -/
section
theorem top_off_L5 : True := by
  w_top off
  trivial

local macro_rules | `(tactic| walk_at "call type:type") => `(tactic| ((with_reducible show wpAny _ _ (call _ [Value.bytes _ _]) _ _ _); refine call_type_of (Tx := "bytes") rfl (by decide +kernel) ?_))
local macro_rules | `(tactic| walk_at "getMethod bytes") => `(tactic| (first | with_reducible refine m_translate ?_ | with_reducible refine m_upper ?_ | with_reducible refine m_hex ?_ | with_reducible refine m_replace ?_ | with_reducible refine m_join ?_))
local macro_rules | `(tactic| walk_at "getMethod str") => `(tactic| (with_reducible refine m_encode ?_))
local macro_rules | `(tactic| walk_at "eval DictComp") => `(tactic| k_extra "my DictComp")
local macro_rules | `(tactic| walk_at "eval ListComp") => `(tactic| k_extra "my ListComp")
local macro_rules | `(tactic| walk_at "eval Name") => `(tactic| k_extra "my Name")
local macro_rules | `(tactic| walk_at "pyIter ref") => `(tactic| k_extra "my pyIter")
local macro_rules | `(tactic| walk_at "subscriptTail Name Slice ref ref") => `(tactic| k_extra "my slice")
theorem len_bs {prog : Program} {w : World} {A : Around} {E : Value → Shared → Prop} {s : Shared} {h₀ : Heap} {L : Addr} {news : List (Addr × Obj)} {aC : Addr} {vC : List Value} {nC : Nat} {bs : List (Array UInt8)} {Q : Value → Shared → Prop}
    (N : News h₀ L s.heap news) (hm : (aC, listOf vC.toArray nC) ∈ news) (hB : BytesAre vC bs) (hz : bs.length ≤ 1000) (h : Q (.int (bs.length : Nat) (s.toks + 1)) { s with toks := s.toks + 1 + 1 }) :
    wpAny (model prog w) A (call (.builtin "len") [.ref aC]) Q E s :=
  KM.len_K N hm (by rw [List.size_toArray, hB.length]) (by omega) h
theorem nameC {M : Model} {A : Around} {E : Value → Shared → Prop} {s : Shared} {h₀ : Heap} {C : Addr} {m₃ : PySem.Str → Option Value} {scope : Scope} {cl : List (PySem.Str × Addr)} {env : Env} {x : PySem.Str} {pos : Pos} {v : Value} {Q : Value → Shared → Prop}
    (F : Fr h₀ C s.heap m₃) (hm : m₃ x = some v) (hk : scope.kind = .function) (hx : scope.names.lookup x = some .local) (h : Q v s) (hd : (x == ("__debug__" : PySem.Str)) = false := by decide) :
    wpAny M A (eval (.Name x pos) (compEnvC scope cl C env)) Q E s :=
  wpAny_Name (wpAny_loadName_local hk (lookup_relabel_local hx) F.ns hm h) hd
theorem BytesAre.drop : ∀ {vs : List Value} {bs : List (Array UInt8)}, BytesAre vs bs → ∀ k : Nat, BytesAre (vs.drop k) (bs.drop k)
  | _, _, h, 0 => h
  | _, _, .nil, _ + 1 => .nil
  | _, _, .cons _ _ h, k + 1 => BytesAre.drop h k
theorem cat_drop_size : ∀ (bs : List (Array UInt8)) (k : Nat), (cat (bs.drop k)).size ≤ (cat bs).size
  | _, 0 => Nat.le_refl _
  | [], _ + 1 => Nat.le_refl _
  | b :: bs, k + 1 => by
    have := cat_drop_size bs k
    rw [List.drop_succ_cons, cat_cons, Array.size_append]
    omega
theorem getD_size {bs : List (Array UInt8)} {n : Nat} (i : Nat) (h : (cat bs).size ≤ n) (hn : n ≤ 1000 := by decide) : (bs.getD i #[]).size ≤ 1099511627776 := by
  rw [List.getD_eq_getElem?_getD]
  by_cases hi : i < bs.length
  · rw [List.getElem?_eq_getElem hi]
    have := mem_cat_size (List.getElem_mem hi)
    show bs[i].size ≤ _
    omega
  · rw [List.getElem?_eq_none (by omega)]
    show (0 : Nat) ≤ _
    omega
section
variable {prog : Program} {w : World} {A : Around} {E : Value → Shared → Prop} {s : Shared} {Q : Value → Shared → Prop}
/-- cut[k] -/
theorem item_bs {value slice : PySem.Expr} {l : Addr} {vs : List Value} {bs : List (Array UInt8)} {i : Nat} {u : Tok} (hl : s.heap.IsList l vs.toArray) (hB : BytesAre vs bs) (hi : i < bs.length) (hz : bs.length ≤ 1000) (h : ∀ t, Q (.bytes (bs.getD i #[]) t) s)
    (hs : subscripted slice false (.ref l) (.int (i : Int) u) = operate [.ref l, .int (i : Int) u] (getItem (.ref l) (.int (i : Int) u))) :
    wpAny (model prog w) A (subscriptTail value slice (.ref l) (.int (i : Int) u)) Q E s := by
  obtain ⟨t, ht⟩ := hB.get i _ (List.getElem?_eq_getElem hi)
  have e : bs.getD i #[] = bs[i] := by rw [List.getD_eq_getElem?_getD, List.getElem?_eq_getElem hi]; rfl
  have h' := h t
  rw [e] at h'
  exact item_litK hl (by omega) (by omega) (by rw [Int.toNat_natCast]; exact ht) h' hs
/-- b''.join of cut[k + 1:], the cut's own list -/
theorem join_from {l : Addr} {vs : List Value} {bs : List (Array UInt8)} {i : Nat} {t : Tok} (hB : BytesAre vs bs) (hz : (cat bs).size ≤ 100000)
    (h : ∀ t' k, Q (.bytes (cat (bs.drop (i + 1))) t') { s with toks := k }) (hl : s.heap.IsList l (slicePick vs.toArray (some ((i : Int) + 1)) none none)) :
    wpAny (model prog w) A (call (.builtin "bytes.join") [.bytes #[] t, .ref l]) Q E s := by
  have e : slicePick vs.toArray (some ((i : Int) + 1)) none none = (vs.drop (i + 1)).toArray := by
    have := slicePick_from' vs.toArray (i + 1)
    exact this
  rw [e] at hl
  exact join_by hl (BytesAre.drop hB (i + 1)) (Nat.le_trans (cat_drop_size bs (i + 1)) hz) h
end
theorem fmod3 {n : Nat} : ((n : Int).fmod 3 = 0) ↔ n % 3 = 0 := by
  rw [Int.fmod_eq_emod_of_nonneg _ (by decide)]
  omega
theorem off_no1 {bs : List (Array UInt8)} {i : Nat} (h : ((bs.getD i #[]).size : Int).fmod 3 = 0) : false = offs bs i := by
  unfold offs
  rw [decide_eq_false (fun q => q (fmod3.mp h)), Bool.false_and]
theorem ne_nil {b : Array UInt8} : (b.toList != #[].toList) = decide (b ≠ #[]) := by
  by_cases q : b = #[]
  · subst q; rfl
  · rw [decide_eq_true q, bne_iff_ne]
    exact fun r => q (Array.toList_inj.mp r)
theorem off_no2 {bs : List (Array UInt8)} {i : Nat} (h : ((cat (List.drop (i + 1) bs)).toList != #[].toList) = false) : false = offs bs i := by
  rw [ne_nil] at h
  unfold offs
  rw [h, Bool.and_false]
theorem off_yes {bs : List (Array UInt8)} {i : Nat} (h1 : ((bs.getD i #[]).size : Int).fmod 3 ≠ 0) (h : ((cat (List.drop (i + 1) bs)).toList != #[].toList) = true) : true = offs bs i := by
  rw [ne_nil] at h
  unfold offs
  have e : decide ((bs.getD i #[]).size % 3 ≠ 0) = true := decide_eq_true fun q => h1 (fmod3.mpr q)
  rw [h, e]
  rfl
theorem Keeps.none {s : Shared} {k : Nat} : Keeps s { s with toks := k } := ⟨_, _, rfl, fun _ _ e => e⟩
theorem Keeps.two {s : Shared} {o p : Obj} {k : Nat} : Keeps s { s with heap := (s.heap.push o).push p, toks := k } := ⟨_, _, rfl, fun _ _ e => Heap.get?_push_of_some _ (Heap.get?_push_of_some _ e)⟩
end

/-! ### LX -/
section
theorem top_off_LX : True := by
  w_top off
  trivial

local macro_rules | `(tactic| walk_at "call type:type") => `(tactic| ((with_reducible show wpAny _ _ (call _ [Value.bytes _ _]) _ _ _); refine call_type_of (Tx := "bytes") rfl (by decide +kernel) ?_))
local macro_rules | `(tactic| walk_at "getMethod bytes") => `(tactic| (first | with_reducible refine m_translate ?_ | with_reducible refine m_upper ?_ | with_reducible refine m_hex ?_ | with_reducible refine m_replace ?_ | with_reducible refine m_join ?_))
local macro_rules | `(tactic| walk_at "getMethod str") => `(tactic| (with_reducible refine m_encode ?_))
local macro_rules | `(tactic| walk_at "eval DictComp") => `(tactic| k_extra "my DictComp")
local macro_rules | `(tactic| walk_at "eval ListComp") => `(tactic| k_extra "my ListComp")
local macro_rules | `(tactic| walk_at "eval Name") => `(tactic| k_extra "my Name")
local macro_rules | `(tactic| walk_at "pyIter ref") => `(tactic| k_extra "my pyIter")
local macro_rules | `(tactic| walk_at "subscriptTail Name Slice ref ref") => `(tactic| k_extra "my slice")
local macro_rules | `(tactic| walk_at "exec Assign cons ListComp") => `(tactic| k_extra "my AssignComp")
local macro_rules | `(tactic| walk_at "eval ListComp") => `(tactic| k_extra "my ListComp")
local macro_rules | `(tactic| walk_at "call ref") => `(tactic| k_extra "my call")
local macro_rules | `(tactic| walk_at "storeName") => `(tactic| k_extra "my store")
theorem law_holds : PySem.Challenge.rw_ki0009_01.Holds := hd (by
  k_fill
  k_with_none
  k_go0
  walk1
  walk1
  refine cut_int ?h1 ?_
  case h1 =>
    k_steps
    all_goals exact ⟨_, _, _, rfl, rfl⟩
  intro choice tc kc
  dsimp only
  walk1
  walk1
  walk1
  walk1
  rename_i F1 N1
  refine cut_list F1 N1 ?h2 ?_
  case h2 =>
    k_steps
    · rename_i F2 N2 hI2 hC2 _ _
      exact ⟨_, _, _, _, _, _, rfl, rfl, F2, N2, hI2, by rw [hC2]; omega⟩
    · rename_i F2 N2 _

      exact ⟨_, _, [77, 353, 622, 30], _, _, _, rfl, rfl, F2, N2, .cons _ _ (.cons _ _ (.cons _ _ (.cons _ _ .nil))), by decide⟩
  clear F1 N1
  intro D vs ns nD h2 k2 F2 N2 hI hlen
  dsimp only
  iterate 73 walk1
  rename_i kb h3 F3 N3
  have hns : ns.length = (byteArr (List.map (fun k' => Int.fmod k' 256) ns)).size := by rw [byteArr_size, List.length_map]
  have h2s := congrArg List.length kb
  rw [KBw.ints_length, List.length_append, List.length_take, List.length_take, List.length_drop, List.length_map, List.length_map] at h2s
  generalize htwo : (KBy.picked _ none _ ++ KBy.picked _ (some _) _ : Array UInt8) = two at F3 h2s
  generalize hone : byteArr (List.map (fun k' => Int.fmod k' 256) ns) = one at F3 hns
  have h2l : two.size ≤ 100 := by omega
  have hA : Room 301 4 8 := ⟨by decide, by decide⟩
  rw [caller_is]
  clear kb htwo hone h2s
  k_with "my call" => first | (k_dflt ((refine call_by (by assumption) (by assumption) (c_written (b := one) (by k_in) (Top.keeps (by assumption) (Fr.keep (by assumption))) (by exact hA.deeper.mono (by decide)) (by omega)) ?_); intro v' h' t' e' F' N' k'; obtain ⟨a1, aF1, aP1, vF1, vP1, nF1, nP1, t11, t21, rfl, hf1, ho1, hf2, ho2, hf3, ho3, hF1, hP1⟩ := e'; replace N' := new_list (by assumption) (new_list (by assumption) (new_list (by assumption) N' hf1 ho1) hf2 ho2) hf3 ho3; clear hf1 ho1 hf2 ho2 hf3 ho3)) | (k_dflt ((refine call_by (by assumption) (by assumption) (c_written (b := two) (by k_in) (Top.keeps (by assumption) (Fr.keep (by assumption))) (by exact hA.deeper.mono (by decide)) (by omega)) ?_); intro v' h' t' e' F' N' k'; obtain ⟨a2, aF2, aP2, vF2, vP2, nF2, nP2, t12, t22, rfl, hf1, ho1, hf2, ho2, hf3, ho3, hF2, hP2⟩ := e'; replace N' := new_list (by assumption) (new_list (by assumption) (new_list (by assumption) N' hf1 ho1) hf2 ho2) hf3 ho3; clear hf1 ho1 hf2 ho2 hf3 ho3)) | (k_dflt ((refine call_by (by assumption) (by assumption) (c_twelves (count := 3) (base := 16) (by k_in) (Top.keeps (by assumption) (Fr.keep (by assumption))) (by exact hA.deeper.mono (by decide)) (News.isList (by assumption) (by k_mem)) hF1 (figs_len (by omega)) figs_in (by decide) (by decide) (by decide)) ?_); intro v' h' t' e' F' N' k'; obtain ⟨aA, vA, rfl, hf1, ⟨nA, ho1⟩, hIA⟩ := e'; replace N' := new_list (by assumption) N' hf1 ho1; clear hf1 ho1)) | (k_dflt ((refine call_by (by assumption) (by assumption) (c_twelves (count := 2) (base := 64) (by k_in) (Top.keeps (by assumption) (Fr.keep (by assumption))) (by exact hA.deeper.mono (by decide)) (News.isList (by assumption) (by k_mem)) hP1 (plcs_len (by omega)) plcs_in (by decide) (by decide) (by decide)) ?_); intro v' h' t' e' F' N' k'; obtain ⟨aB, vB, rfl, hf1, ⟨nB, ho1⟩, hIB⟩ := e'; replace N' := new_list (by assumption) N' hf1 ho1; clear hf1 ho1; (replace hIB : IntsAre vB (tw 64 2 ((sx (one.toList.map (·.toNat))).map (fun n : Nat => (n : Int)))) := hIB); (replace hIA : IntsAre vA (tw 16 3 ((nib (one.toList.map (·.toNat))).map (fun n : Nat => (n : Int)))) := hIA); (rw [tw_is] at hIA); (generalize tw 64 2 ((sx (one.toList.map (·.toNat))).map (fun n : Nat => (n : Int))) = tws at hIA hIB))) | (k_dflt ((refine call_by (by assumption) (by assumption) (c_pieces (b := one) (by k_in) (Top.keeps (by assumption) (Fr.keep (by assumption))) (by exact hA.deeper.mono (by decide)) (News.isList (by assumption) (by k_mem)) hI hns (by omega)) ?_); intro v' h' t' e' F' N' k'; obtain ⟨aC, vC, bs, rfl, hf1, ⟨nC, ho1⟩, hBC, hcat, hbl⟩ := e'; replace N' := new_list (by assumption) N' hf1 ho1; clear hf1 ho1)) | (k_dflt ((refine call_by (by assumption) (by assumption) (c_handed (by k_in) (Top.keeps (by assumption) (Fr.keep (by assumption))) (by exact hA.deeper.mono (by decide)) (News.isList (by assumption) (by k_mem)) hBC (by rw [hcat]; omega)) ?_); intro v' h' t' e' F' N' k'; obtain ⟨tH, rfl⟩ := e'; rw [hcat])) | (k_dflt ((refine call_by (by assumption) (by assumption) (c_kept (by k_in) (Top.keeps (by assumption) (Fr.keep (by assumption))) (by exact hA.deeper.mono (by decide)) (News.isList (by assumption) (by k_mem)) hP1 (News.isList (by assumption) (by k_mem)) hP2 (plcs_len (by omega)) (plcs_len (by omega))) ?_); intro v' h' t' e' F' N' k'; subst e'))
  k_with "my store" => (k_dflt (refine store_cut [(aC, listOf vC.toArray nC), (aP2, listOf vP2.toArray nP2), (a2, { cls := .type "tuple", data := .seq #[.bytes (h16A two) t12, .bytes (b64A two) t22, .ref aF2, .ref aP2] }), (aP1, listOf vP1.toArray nP1), (a1, { cls := .type "tuple", data := .seq #[.bytes (h16A one) t11, .bytes (b64A one) t21, .ref aF1, .ref aP1] })] (by assumption) (by assumption) (by k_mem) rfl (by assumption) (by intro p hp; simp only [List.mem_cons, List.not_mem_nil, or_false] at hp; rcases hp with rfl | rfl | rfl | rfl | rfl; all_goals exact ⟨by k_mem, _, _, rfl⟩) ?_ rfl rfl; intro h' o' F' N' d'))
  iterate 101 walk1
  rename_i F4 N4
  have h1h : one.size ≤ 100 := by omega
  have h1k : one.size ≤ 1000 := by omega
  have h1c : one.size ≤ 400 := by omega
  have hbsz : bs.length ≤ 1000 := by omega
  have h16k : 2 * one.size ≤ 100000 := by omega
  have h64k : 2 * one.size + 2 * bs.length ≤ 100000 := by omega
  k_with_none
  k_with "my ListComp" => (k_dflt ((show wpAny _ _ (eval (.ListComp (.Call (.Name (PySem.Str.ofString "b16encode") _) _ _ _) _ _ _) _) _ _ _); refine' comp_bytes h16A (nC := nC) (by assumption) (by assumption) ?hm hBC hbsz rfl rfl (by decide) rfl (by decide) (by decide) ?hit ?helt ?_ ?hs; (case hm => k_mem); (case hs => intro _; rfl); (case hit => intro Q9 hQ9; exact nameX_C (by assumption) rfl (by k_mem) (by assumption) hQ9); (case helt => (intro C9 b9 t9 s9 m9 E9 hb9 F9 hm9; have hs9 := mem_cat_size hb9; rw [hcat] at hs9; refine' elt_by (fA := 81) F9 (by assumption) (by assumption) (by kernel_rfl) ?ho9 ?hd9 rfl rfl rfl (by decide) (by decide) (by decide) hm9 (c_b16 (by k_in) (Top.keeps (by assumption) (Fr.keep F9)) (by exact hA.deeper.mono (by decide)) (Nat.le_trans hs9 h1k)); (case ho9 => k_is); (case hd9 => rfl))); intro D9 ws9 n9 h9 k9 F9 N9 hB9))
  k_with "call builtin:bytes.join" => (k_dflt (first | (refine join_by (News.isList (by assumption) (by k_mem)) hB9 (by rw [cat16, hcat, h16_size]; exact h16k) ?_; intro t8 k8; rw [cat16, hcat]) | (refine join_by (News.isList (by assumption) (by k_mem)) hB8 (Nat.le_trans (cat64_size bs) (by rw [hcat]; exact h64k)) ?_; intro t8 k8)))
  k_with "compareOp NotEq bytes bytes" => (with_reducible refine ne_same ?_)
  k_with "compareOp Eq bytes bytes" => (refine eq_join hcat ?_)
  k_with "compareOp Lt bytes bytes" => first | (with_reducible refine lt16 ?_) | (with_reducible refine lt64 ?_) | (refine lt_by ?_)
  k_with "my call" => first | (k_dflt ((refine call_by (by assumption) (by assumption) (c_handed (by k_in) (Top.keeps (by assumption) (Fr.keep (by assumption))) (by exact hA.deeper.mono (by decide)) (News.isList (by assumption) (by k_mem)) hBC (by rw [hcat]; exact h1c)) ?_); intro v' h' t' e' F' N' k'; obtain ⟨tH, rfl⟩ := e'; rw [hcat])) | (k_dflt ((refine call_by (by assumption) (by assumption) (c_kept (by k_in) (Top.keeps (by assumption) (Fr.keep (by assumption))) (by exact hA.deeper.mono (by decide)) (News.isList (by assumption) (by k_mem)) hP1 (News.isList (by assumption) (by k_mem)) hP2 (plcs_len h1h) (plcs_len h2l)) ?_); intro v' h' t' e' F' N' k'; subst e'))
  iterate 41 walk1
  refine' assign_off (offs bs) (n := bs.length) (by assumption) (by assumption) hbsz rfl rfl rfl rfl (by decide) rfl (by decide) (by decide) rfl rfl (by decide) ?hit ?htest ?_ ?hs
  case hs => exact fun _ => rfl
  case hit =>
    k_with_none
    intro Q7 hQ7
    k_with "call builtin:len" => (refine len_bs (by assumption) (by k_mem) hBC hbsz ?_)
    iterate 13 walk1
    exact hQ7 _ _ _ _ _ _ (by assumption) (by assumption) (by assumption)
  case htest =>
    k_with_none
    intro C7 i7 t7 s7 m7 E7 hi7 F7 N7 hm7
    have hbz := getD_size (bs := bs) (n := 1000) i7 (by rw [hcat]; exact h1k)
    k_with "my Name" => (refine nameC F7 hm7 rfl (by decide) ?_)
    k_with "subscriptTail" => (k_dflt (refine item_bs (News.isList N7 (by k_mem)) hBC hi7 hbsz ?_ (by with_unfolding_all rfl)); intro t8)
    k_with "call builtin:len" => (k_dflt (refine len_bytes hbz ?_))
    k_with "my slice" => (k_dflt (refine slice_listK (News.isList N7 (by k_mem)) (.int _ _) .none ?_ (by with_unfolding_all rfl) (by intro _; with_unfolding_all rfl) (by rw [List.size_toArray, hBC.length, sizeLine_eq]; exact Nat.le_trans hbsz (by decide))))
    k_with "call builtin:bytes.join" => (k_dflt (refine join_from hBC (by rw [hcat]; exact Nat.le_trans h1k (by decide)) ?_ (isList_pushed2 _ _ _); intro t9 k9))
    iterate 19 walk1
    walk1
    iterate 24 walk1
    · rename_i hfm _
      generalize hc : ((cat (List.drop (i7 + 1) bs)).toList != #[].toList) = cc
      cases cc
      · (show false = offs bs i7 ∧ Keeps s7 _)
        (exact ⟨off_no2 hc, Keeps.two⟩)
      · (show wpAny _ _ _ _ _ _)
        walk1
        exact ⟨off_yes hfm hc, Keeps.two⟩
    · rename_i hfm
      exact ⟨off_no1 hfm, Keeps.none⟩
  intro D7 ws7 n7 h7 k7 F7 N7 hI7
  k_with_none
  k_with "call builtin:bytes.join" => (k_dflt (first | (refine join_by (News.isList (by assumption) (by k_mem)) hB9 (by rw [cat16, hcat, h16_size]; exact h16k) ?_; intro t8 k8; rw [cat16, hcat]) | (refine join_by (News.isList (by assumption) (by k_mem)) hB8 (Nat.le_trans (cat64_size bs) (by rw [hcat]; exact h64k)) ?_; intro t8 k8)))
  k_with "compareOp NotEq bytes bytes" => (with_reducible refine ne_same ?_)
  k_with "compareOp Eq bytes bytes" => (refine eq_join hcat ?_)
  k_with "compareOp Lt bytes bytes" => first | (with_reducible refine lt16 ?_) | (with_reducible refine lt64 ?_) | (refine lt_by ?_)
  k_with "my call" => first | (k_dflt ((refine call_by (by assumption) (by assumption) (c_handed (by k_in) (Top.keeps (by assumption) (Fr.keep (by assumption))) (by exact hA.deeper.mono (by decide)) (News.isList (by assumption) (by k_mem)) hBC (by rw [hcat]; exact h1c)) ?_); intro v' h' t' e' F' N' k'; obtain ⟨tH, rfl⟩ := e'; rw [hcat])) | (k_dflt ((refine call_by (by assumption) (by assumption) (c_kept (by k_in) (Top.keeps (by assumption) (Fr.keep (by assumption))) (by exact hA.deeper.mono (by decide)) (News.isList (by assumption) (by k_mem)) hP1 (News.isList (by assumption) (by k_mem)) hP2 (plcs_len h1h) (plcs_len h2l)) ?_); intro v' h' t' e' F' N' k'; subst e'))
  iterate 9 walk1
  (refine' comp_bytes b64A (nC := nC) (by assumption) (by assumption) ?hm hBC hbsz rfl rfl (by decide) rfl (by decide) (by decide) ?hit ?helt ?_ ?hs; (case hm => k_mem); (case hs => intro _; rfl); (case hit => intro Q9 hQ9; exact nameX_C (by assumption) rfl (by k_mem) (by assumption) hQ9); (case helt => (intro C9 b9 t9 s9 m9 E9 hb9 F9 hm9; have hs9 := mem_cat_size hb9; rw [hcat] at hs9; refine' elt_by (fA := 60) F9 (by assumption) (by assumption) (by kernel_rfl) ?ho9 ?hd9 rfl rfl rfl (by decide) (by decide) (by decide) hm9 (c_b64 (by k_in) (Top.keeps (by assumption) (Fr.keep F9)) (by exact hA.deeper.mono (by decide)) (Nat.le_trans hs9 h1k)); (case ho9 => k_is); (case hd9 => rfl))); intro D8 ws8 n8 h8 k8 F8 N8 hB8)
  iterate 14 walk1
  rw [bne_self_eq_false]
  iterate 22 walk1
  rw [bne_self_eq_false]
  iterate 40 walk1
  rw [beq_self_eq_true]
  k_steps)
end

end Mine
theorem PySem.Challenge.cw_ki0009_01_holds : PySem.Challenge.rw_ki0009_01.Holds :=
  Mine.law_holds
