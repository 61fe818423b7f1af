import PyProof.Rows.All
import Wide.All
import OpenK.AllK
import Wide.FinOn
import PySem.Challenge.RW_pe0033_01
set_option Elab.async false
section
open PySem PySem.W PyProof.Rows
namespace Mine
set_option maxRecDepth 100000 in
set_option maxHeartbeats 8000000 in
open_top hd for PySem.Challenge.rw_pe0033_01
end Mine
end
section
open PySem PySem.W PySem.Calls PyProof.Rows PySem.Spec
namespace Mine
/-- a range iterator, as the model lays it -/
def rIter (x left : Int) : Obj := { cls := .type "range_iterator", dict := none, data := .fields #[rawInt x, rawInt left, rawInt 1], slots := #[] }
/-- a list iterator, as the model lays it -/
def lIter (l : Addr) (i : Nat) : Obj := { cls := .type "list_iterator", dict := none, data := .fields #[.ref l, .int i 0], slots := #[] }
/-- how a turn of a loop may end -/
def TurnEnd (h₀ : Heap) (L I : Addr) (it : Obj) (adr : List Addr) (J : (Str → Option Value) → List (Addr × Obj) → Prop) (s₀ : Shared) (Q : Flow → Shared → Prop) (f : Flow) (s' : Shared) : Prop :=
  match f with
  | .ret v => Q (.ret v) s'
  | .brk => Q .next s'
  | _ => ∃ h' tk m' news', s' = { s₀ with heap := h', toks := tk } ∧ Fr h₀ L h' m' ∧ News h₀ L h' ((I, it) :: news') ∧ news'.map (·.1) = adr ∧ J m' news'
section
variable {prog : Program} {w : World} {A : Around} {E : Value → Shared → Prop} {s : Shared} {env : Env} {h₀ : Heap}
theorem fr_same {L I : Addr} {h h' : Heap} {m : Str → Option Value} {o : Obj} {news : List (Addr × Obj)} (F : Fr h₀ L h m) (N : News h₀ L h ((I, o) :: news)) (hI : I ∉ news.map (·.1)) (hs : Heap.ExtBut I h h') :
    Fr h₀ L h' m ∧ News h₀ L h' news := by
  have hn := N (I, o) (.head _)
  have hIL : L ≠ I := Ne.symm hn.2.1
  refine ⟨⟨F.ns.at' fun o e => hs _ o hIL e, fun b o' e => hs b o' (fun q => ?_) (F.keep b o' e), F.above⟩, fun p hp => ⟨hs _ _ (fun q => hI ?_) (N p (.tail _ hp)).1, (N p (.tail _ hp)).2⟩⟩
  · subst q; have := hn.2.2; rw [e] at this; cases this
  · rw [← q]; exact List.mem_map_of_mem hp
theorem loop_range {x : Str} {px : Pos} {body orelse : List Stmt} {Q : Flow → Shared → Prop} {I : Addr} {n : Nat} {a₀ : Int} {m : Str → Option Value} {news : List (Addr × Obj)}
    (J : Nat → (Str → Option Value) → List (Addr × Obj) → Prop)
    (hh : A.handled = none) (hx : env.kindOf x = some .local) (hp : (env.scope.kind == .class || (env.scope.kind == .module && env.locals != env.globals)) = false)
    (F : Fr h₀ env.locals s.heap m) (N : News h₀ env.locals s.heap ((I, rIter a₀ n) :: news)) (hI : I ∉ news.map (·.1)) (h0 : J 0 m news)
    (turn : ∀ (i : Nat) (t : Tok) (m₁ : Str → Option Value) (news₁ : List (Addr × Obj)) (h : Heap) (tk : Nat), i < n → J i m₁ news₁ → news₁.map (·.1) = news.map (·.1) →
      Fr h₀ env.locals h (fun y => if y = x then some (.int (a₀ + i) t) else m₁ y) → News h₀ env.locals h ((I, rIter (a₀ + (i + 1 : Nat)) ((n : Int) - (i + 1 : Nat))) :: news₁) →
      wpAny (model prog w) A (execs body env) (TurnEnd h₀ env.locals I (rIter (a₀ + (i + 1 : Nat)) ((n : Int) - (i + 1 : Nat))) (news.map (·.1)) (J (i + 1)) s Q) E { s with heap := h, toks := tk })
    (done : ∀ (m₁ : Str → Option Value) (news₁ : List (Addr × Obj)) (h : Heap) (tk : Nat), J n m₁ news₁ → Fr h₀ env.locals h m₁ → News h₀ env.locals h news₁ → wpAny (model prog w) A (execs orelse env) Q E { s with heap := h, toks := tk })
    (hE : PassesOwn (model prog w) A env E) :
    codeAny (model prog w) A (.forLoop (.Name x px) (.ref I) body orelse env) (fun r s' => match r with | .ok f => Q f s' | .error e => cameBackBy (model prog w) A env E e s') s := by
  refine codeAny_forLoop (fun k s' => ∃ h' tk m' news' i, s' = { s with heap := h', toks := tk } ∧ Fr h₀ env.locals h' m' ∧ News h₀ env.locals h' ((I, rIter (a₀ + (i : Nat)) ((n : Int) - (i : Nat))) :: news') ∧
      news'.map (·.1) = news.map (·.1) ∧ J i m' news' ∧ i ≤ n ∧ k = n + 1 - i) ?_ (n + 1) ⟨s.heap, s.toks, m, news, 0, rfl, F, by simpa using N, rfl, h0, Nat.zero_le _, rfl⟩
  rintro k s' ⟨h', tk, m', news', i, rfl, F', N', ha, hJ, hi, rfl⟩
  have hI' : I ∉ news'.map (·.1) := by rw [ha]; exact hI
  have hit : IsRangeIter h' I (a₀ + (i : Nat)) ((n : Int) - (i : Nat)) 1 := (N' _ (.head _)).1
  by_cases hlt : i < n
  · refine wpAny_pyNext_range_item (s := { s with heap := h', toks := tk }) hit (by omega) fun h₁ hit₁ hs₁ => ?_
    obtain ⟨F₁, N₁⟩ := fr_same F' N' hI' hs₁.extBut
    refine wpAny_assign_Name (wpAny_storeName_local hx F₁.ns (fun h₂ hn₂ hs₂ => ?_) hp)
    have hn := N' (I, _) (.head _)
    have N₂ : News h₀ env.locals h₁ ((I, rIter (a₀ + (i + 1 : Nat)) ((n : Int) - (i + 1 : Nat))) :: news') := by
      intro p hp
      rcases List.mem_cons.mp hp with rfl | hp
      · refine ⟨?_, hn.2⟩
        have e1 : a₀ + (i : Int) + 1 = a₀ + ((i + 1 : Nat) : Int) := by omega
        have e2 : (n : Int) - (i : Int) - 1 = (n : Int) - ((i + 1 : Nat) : Int) := by omega
        have := hit₁
        rw [e1, e2] at this
        exact this
      · exact N₁ p hp
    refine wpAny_mono (wpAny_passesOwn hE (turn i _ m' news' h₂ _ hlt hJ ha (F₁.set hn₂ hs₂) (N₂.set hs₂))) (fun f s₃ h₃ => ?_) fun _ _ e => e
    cases f with
    | ret v => exact h₃
    | brk => exact h₃
    | next =>
      obtain ⟨h₄, tk₄, m₄, news₄, rfl, F₄, N₄, ha₄, hJ₄⟩ := h₃
      exact ⟨n + 1 - (i + 1), by omega, h₄, tk₄, m₄, news₄, i + 1, rfl, F₄, N₄, ha₄, hJ₄, hlt, rfl⟩
    | cont =>
      obtain ⟨h₄, tk₄, m₄, news₄, rfl, F₄, N₄, ha₄, hJ₄⟩ := h₃
      exact ⟨n + 1 - (i + 1), by omega, h₄, tk₄, m₄, news₄, i + 1, rfl, F₄, N₄, ha₄, hJ₄, hlt, rfl⟩
  · have hin : i = n := by omega
    subst hin
    refine wpAny_pyNext_range_end (s := { s with heap := h', toks := tk }) hh hit (by omega) fun h₁ hs₁ => ?_
    obtain ⟨F₁, N₁⟩ := fr_same F' N' hI' hs₁
    exact wpAny_passesOwn hE (done m' news' h₁ tk hJ F₁ N₁)
/-- what stands behind the iterated expression, for a range -/
def AtRange (prog : Program) (w : World) (A : Around) (h₀ : Heap) (env : Env) (x : Str) (body orelse : List Stmt) (Q : Flow → Shared → Prop) (E : Value → Shared → Prop) (xv : Value) (s : Shared) : Prop :=
  ∃ (r : Addr) (a₀ b₀ : Int) (t u v : Tok) (n : Nat) (m : Str → Option Value) (news : List (Addr × Obj)) (J : Nat → (Str → Option Value) → List (Addr × Obj) → Prop),
    xv = .ref r ∧ IsRange s.heap r a₀ b₀ 1 t u v ∧ Builtin.Range.small a₀ b₀ 1 = true ∧ Builtin.Range.rangeSize a₀ b₀ 1 = (n : Int) ∧
    Fr h₀ env.locals s.heap m ∧ News h₀ env.locals s.heap news ∧ J 0 m news ∧
    (∀ (I : Addr) (i : Nat) (t : Tok) (m₁ : Str → Option Value) (news₁ : List (Addr × Obj)) (h : Heap) (tk : Nat), (∀ p ∈ news, p.1 < I) → i < n → J i m₁ news₁ → news₁.map (·.1) = news.map (·.1) →
      Fr h₀ env.locals h (fun y => if y = x then some (.int (a₀ + i) t) else m₁ y) → News h₀ env.locals h ((I, rIter (a₀ + (i + 1 : Nat)) ((n : Int) - (i + 1 : Nat))) :: news₁) →
      wpAny (model prog w) A (execs body env) (TurnEnd h₀ env.locals I (rIter (a₀ + (i + 1 : Nat)) ((n : Int) - (i + 1 : Nat))) (news.map (·.1)) (J (i + 1)) s Q) E { s with heap := h, toks := tk }) ∧
    (∀ (m₁ : Str → Option Value) (news₁ : List (Addr × Obj)) (h : Heap) (tk : Nat), J n m₁ news₁ → Fr h₀ env.locals h m₁ → News h₀ env.locals h news₁ → wpAny (model prog w) A (execs orelse env) Q E { s with heap := h, toks := tk })
theorem for_range {x : Str} {px pos : Pos} {iter : Expr} {body orelse : List Stmt} {Q : Flow → Shared → Prop} {mF : Str → Option Value} (_F : Fr h₀ env.locals s.heap mF)
    (hh : A.handled = none) (hx : env.kindOf x = some .local) (hp : (env.scope.kind == .class || (env.scope.kind == .module && env.locals != env.globals)) = false)
    (h : wpAny (model prog w) A (eval iter env) (fun xv s₁ => AtRange prog w A h₀ env x body orelse Q E xv s₁) E s)
    (hE : PassesOwn (model prog w) A env E) (hs : ∀ x, foldedSetIterable iter env x = pure x := by intro _; rfl) :
    wpAny (model prog w) A (exec (.For (.Name x px) iter body orelse pos) env) Q E s := by
  refine wpAny_For (wpAny_mono h (fun xv s₁ h₁ => ?_) fun _ _ e => e) hs
  obtain ⟨r, a₀, b₀, t, u, v, n, m, news, J, rfl, hr, hsm, hn, F, N, h0, turn, done⟩ := h₁
  refine wpAny_pyIter_range hr hsm ?_
  have hlt : ∀ p ∈ news, p.1 < s₁.heap.objs.size := fun p hp => Heap.lt_size (N p hp).1
  have N' : News h₀ env.locals (s₁.heap.push { cls := .type "range_iterator", data := .fields #[rawInt a₀, rawInt (Builtin.Range.rangeSize a₀ b₀ 1), rawInt 1] }) ((s₁.heap.objs.size, rIter a₀ n) :: news) := by
    have := News.push F N { cls := .type "range_iterator", data := .fields #[rawInt a₀, rawInt (Builtin.Range.rangeSize a₀ b₀ 1), rawInt 1] }
    rw [hn] at this ⊢
    exact this
  exact loop_range (s := { s₁ with heap := s₁.heap.push _ }) J hh hx hp (F.push _) N' (fun hm => by
    obtain ⟨p, hp, e⟩ := List.mem_map.mp hm
    exact absurd (hlt p hp) (by rw [e]; exact Nat.lt_irrefl _)) h0 (fun i t m₁ news₁ h tk => turn _ i t m₁ news₁ h tk hlt) done hE
end
end Mine
end
section
open PySem PySem.W PySem.Calls PyProof.Rows PySem.Spec
namespace Mine
/-! the plain words -/
def nmList : List Str := [⟨#[79, 80, 84, 73, 77, 73, 90, 69, 68]⟩, ⟨#[78, 69, 87, 76, 79, 67, 65, 76, 83]⟩, ⟨#[86, 65, 82, 65, 82, 71, 83]⟩, ⟨#[86, 65, 82, 75, 69, 89, 87, 79, 82, 68, 83]⟩, ⟨#[78, 69, 83, 84, 69, 68]⟩, ⟨#[71, 69, 78, 69, 82, 65, 84, 79, 82]⟩, ⟨#[78, 79, 70, 82, 69, 69]⟩, ⟨#[67, 79, 82, 79, 85, 84, 73, 78, 69]⟩, ⟨#[73, 84, 69, 82, 65, 66, 76, 69, 95, 67, 79, 82, 79, 85, 84, 73, 78, 69]⟩, ⟨#[65, 83, 89, 78, 67, 95, 71, 69, 78, 69, 82, 65, 84, 79, 82]⟩]
def wordAt (i : Nat) : Str := (nmList[i]?).getD (baseText "0x" 16 (1 * 2 ^ i))
def bits (F n : Nat) : List Nat := (List.range n).filter fun j => F / 2 ^ j % 2 == 1
def joinW (l : List Nat) : Str := if l = [] then Str.ofString "0x0" else Txt.join (Str.ofString ", ") (l.map wordAt)
def pretty (f : Int) : Str := joinW (bits f.toNat 32)
def flagD : List (Int × PyData) := [(1, PyData.str ⟨#[79, 80, 84, 73, 77, 73, 90, 69, 68]⟩), (2, PyData.str ⟨#[78, 69, 87, 76, 79, 67, 65, 76, 83]⟩), (4, PyData.str ⟨#[86, 65, 82, 65, 82, 71, 83]⟩), (8, PyData.str ⟨#[86, 65, 82, 75, 69, 89, 87, 79, 82, 68, 83]⟩), (16, PyData.str ⟨#[78, 69, 83, 84, 69, 68]⟩), (32, PyData.str ⟨#[71, 69, 78, 69, 82, 65, 84, 79, 82]⟩), (64, PyData.str ⟨#[78, 79, 70, 82, 69, 69]⟩), (128, PyData.str ⟨#[67, 79, 82, 79, 85, 84, 73, 78, 69]⟩), (256, PyData.str ⟨#[73, 84, 69, 82, 65, 66, 76, 69, 95, 67, 79, 82, 79, 85, 84, 73, 78, 69]⟩), (512, PyData.str ⟨#[65, 83, 89, 78, 67, 95, 71, 69, 78, 69, 82, 65, 84, 79, 82]⟩)]
theorem wordLen : ∀ i : Nat, i < 32 → (wordAt i).length ≤ 18 := by decide +kernel
theorem hexLen : ∀ i : Nat, i < 32 → (baseText "0x" 16 (1 * 2 ^ i)).length ≤ 12 := by decide +kernel
theorem hexFits {i : Nat} (h : i < 32) : (baseText "0x" 16 (1 * 2 ^ (0 + (i : Int)).toNat)).length ≤ sizeLine := by
  have e : (0 + (i : Int)).toNat = i := by omega
  rw [e]
  have := hexLen i h
  have e2 : sizeLine = 16777216 := by rw [sizeLine_eq]
  omega
theorem flag_word : ∀ i : Nat, i < 32 → (lookup (PyData.int (1 * 2 ^ i)) (flagD.map fun p => (PyData.int p.1, p.2))).getD (.str (baseText "0x" 16 (1 * 2 ^ i))) = PyData.str (wordAt i) := by
  intro i hi
  match i, hi with
  | 0, _ | 1, _ | 2, _ | 3, _ | 4, _ | 5, _ | 6, _ | 7, _ | 8, _ | 9, _ | 10, _ | 11, _ | 12, _ | 13, _ | 14, _ | 15, _ | 16, _ | 17, _ | 18, _ | 19, _ | 20, _ | 21, _ | 22, _ | 23, _ | 24, _ | 25, _ | 26, _ | 27, _ | 28, _ | 29, _ | 30, _ | 31, _ => rfl
  | n + 32, h => exact absurd h (by omega)
section
variable {prog : Program} {w : World} {A : Around} {E : Value → Shared → Prop} {s : Shared} {h₀ : Heap}
theorem get_word {i : Nat} {tk tz : Tok} {Q : Value → Shared → Prop} (K : KTD.Keyed h₀ 15 flagD) (hk : ∀ b o, h₀.get? b = some o → s.heap.get? b = some o) (hi : i < 32)
    (h : ∀ t', Q (.str (wordAt i) t') { s with toks := s.toks + 1 }) :
    wpAny (model prog w) A (call (.builtin "dict.get") [.ref 15, .int (1 * 2 ^ (0 + (i : Int)).toNat) tk, .str (baseText "0x" 16 (1 * 2 ^ (0 + (i : Int)).toNat)) tz]) Q E s := by
  have e : (0 + (i : Int)).toNat = i := by omega
  rw [e]
  refine call_get2_intTab (K.keep hk prog w) (PyProof.V.Flat.str _ _) fun v hv => ?_
  rw [flag_word i hi] at hv
  have hv' := hv s.heap
  cases hv'
  exact h _
end
/-! the arithmetic of the bits -/
theorem bits_succ (F n : Nat) : bits F (n + 1) = if F / 2 ^ n % 2 = 1 then bits F n ++ [n] else bits F n := by
  unfold bits
  rw [List.range_succ, List.filter_append]
  by_cases h : F / 2 ^ n % 2 = 1 <;> simp [h]
theorem bits_lt {F n j : Nat} (h : j ∈ bits F n) : j < n := by
  unfold bits at h
  exact List.mem_range.mp (List.mem_filter.mp h).1
theorem bits_len (F n : Nat) : (bits F n).length ≤ n := by
  have := List.length_filter_le (fun j => F / 2 ^ j % 2 == 1) (List.range n)
  simpa [bits] using this
theorem bits_top {F n : Nat} (hF : F < 2 ^ n) : ∀ k, bits F (n + k) = bits F n
  | 0 => rfl
  | k + 1 => by
    rw [← Nat.add_assoc, bits_succ, bits_top hF k, if_neg]
    have : F / 2 ^ (n + k) = 0 := Nat.div_eq_of_lt (Nat.lt_of_lt_of_le hF (Nat.pow_le_pow_right (by decide) (Nat.le_add_right _ _)))
    omega
theorem words_weight : ∀ (l : List Nat), (∀ j ∈ l, j < 32) → ((l.map wordAt).map (·.length)).sum ≤ 18 * l.length
  | [], _ => by simp
  | j :: l, h => by
    have h1 := wordLen j (h j (.head _))
    have h2 := words_weight l fun k hk => h k (.tail _ hk)
    simp only [List.map_cons, List.sum_cons, List.length_cons]
    omega
theorem bits_weight (F n : Nat) (hn : n ≤ 32) : (((bits F n).map wordAt).map (·.length)).sum + ((bits F n).map wordAt).length ≤ 1048576 := by
  have h1 := words_weight (bits F n) fun j hj => Nat.lt_of_lt_of_le (bits_lt hj) hn
  have h2 := bits_len F n
  rw [List.length_map]
  omega
theorem toNat_div (f : Int) (h : 0 ≤ f) (i : Nat) : ((f.toNat / 2 ^ i % 2 : Nat) : Int) = f / 2 ^ i % 2 := by
  have e : ((2 ^ i : Nat) : Int) = (2 : Int) ^ i := by simp
  rw [Int.natCast_emod, Int.natCast_ediv, Int.toNat_of_nonneg h, e]; rfl
theorem half_pow (f : Int) (i : Nat) : f / 2 ^ (i + 1) = f / 2 ^ i / 2 := by
  have : (0 : Int) ≤ 2 ^ i := Int.le_of_lt (pow_pos_of (by decide) i)
  rw [Int.pow_succ, Int.ediv_ediv_of_nonneg this]
theorem flag_at (f : Int) (i : Nat) : Builtin.bitAnd (f / 2 ^ i * 2 ^ i) (1 * 2 ^ (0 + (i : Int)).toNat) = (f / 2 ^ i % 2) * 2 ^ i := by
  have e : (0 + (i : Int)).toNat = i := by omega
  have hp : (2 : Int) ^ i ≠ 0 := Int.ne_of_gt (pow_pos_of (by decide) i)
  rw [e, Int.one_mul, kbt_bit, Int.mul_ediv_cancel _ hp]
theorem flag_off {f fl : Int} {i : Nat} (h0 : 0 ≤ f) (hfl : fl = f / 2 ^ i * 2 ^ i) (hb : Builtin.bitAnd fl (1 * 2 ^ (0 + (i : Int)).toNat) = 0) :
    fl = f / 2 ^ (i + 1) * 2 ^ (i + 1) ∧ bits f.toNat (i + 1) = bits f.toNat i := by
  rw [hfl, flag_at] at hb
  have hp : (2 : Int) ^ i ≠ 0 := Int.ne_of_gt (pow_pos_of (by decide) i)
  have hz : f / 2 ^ i % 2 = 0 := (Int.mul_eq_zero.mp hb).resolve_right hp
  have hn := toNat_div f h0 i
  refine ⟨?_, by rw [bits_succ, if_neg (by omega)]⟩
  rw [hfl, half_pow, Int.pow_succ, Int.mul_comm (2 ^ i) 2, ← Int.mul_assoc]
  congr 1
  omega
theorem flag_on {f fl : Int} {i : Nat} (h0 : 0 ≤ f) (hfl : fl = f / 2 ^ i * 2 ^ i) (hb : Builtin.bitAnd fl (1 * 2 ^ (0 + (i : Int)).toNat) ≠ 0) :
    Builtin.bitXor fl (1 * 2 ^ (0 + (i : Int)).toNat) = f / 2 ^ (i + 1) * 2 ^ (i + 1) ∧ bits f.toNat (i + 1) = bits f.toNat i ++ [i] := by
  have hx := bitXor_and fl (1 * 2 ^ (0 + (i : Int)).toNat)
  rw [hfl, flag_at] at hb
  have ho : f / 2 ^ i % 2 = 1 := by
    have : f / 2 ^ i % 2 ≠ 0 := fun q => hb (by rw [q, Int.zero_mul])
    omega
  have hn := toNat_div f h0 i
  refine ⟨?_, by rw [bits_succ, if_pos (by omega)]⟩
  have e : (0 + (i : Int)).toNat = i := by omega
  rw [hx, hfl, flag_at, e, ho, half_pow, Int.pow_succ, Int.mul_comm (2 ^ i) 2, ← Int.mul_assoc]
  have hq : f / 2 ^ i = f / 2 ^ i / 2 * 2 + 1 := by omega
  generalize f / 2 ^ i / 2 = q at hq ⊢
  rw [hq, Int.add_mul, Int.mul_assoc]
  omega
theorem flag_last {f : Int} {i : Nat} (h0 : 0 ≤ f) (hi : i < 32) (hz : f / 2 ^ (i + 1) * 2 ^ (i + 1) = 0) : bits f.toNat 32 = bits f.toNat (i + 1) := by
  have hp : (0 : Int) < 2 ^ (i + 1) := pow_pos_of (by decide) (i + 1)
  have hq : f / 2 ^ (i + 1) = 0 := (Int.mul_eq_zero.mp hz).resolve_right (Int.ne_of_gt hp)
  have hlt : f < 2 ^ (i + 1) := by
    have := Int.emod_lt_of_pos f hp
    have h2 := Int.mul_ediv_add_emod f (2 ^ (i + 1))
    rw [hq, Int.mul_zero, Int.zero_add] at h2
    omega
  have hlt' : f.toNat < 2 ^ (i + 1) := by
    have e : ((2 ^ (i + 1) : Nat) : Int) = (2 : Int) ^ (i + 1) := by simp
    omega
  have e : 32 = (i + 1) + (31 - i) := by omega
  rw [e, bits_top hlt']
theorem norm2 {m : Str → Option Value} {a b : Str} {x y : Option Value} (h1 : m a = x) (h2 : m b = y) : m = fun z => if z = a then x else if z = b then y else m z := by
  funext z
  by_cases ha : z = a
  · rw [if_pos ha, ha, h1]
  · rw [if_neg ha]
    by_cases hb : z = b
    · rw [if_pos hb, hb, h2]
    · rw [if_neg hb]
theorem join_zero : Txt.join (Str.ofString ", ") [baseText "0x" 16 0] = joinW [] := by decide +kernel
theorem joinW_some {l : List Nat} (h : l ≠ []) : Txt.join (Str.ofString ", ") (l.map wordAt) = joinW l := by
  unfold joinW; rw [if_neg h]
end Mine
end
section
open PySem PySem.W PySem.Calls PyProof.Rows PySem.Spec
namespace Mine
def prettyJ (news : List (Addr × Obj)) (f : Int) (i : Nat) (m : Str → Option Value) (nw : List (Addr × Obj)) : Prop :=
  ∃ (l : Addr) (fl : Int) (tf : Tok) (items : List Value) (nn : Nat) (u : Str → Option Value), m = (fun y => if y = Str.ofString "flags" then some (.int fl tf) else if y = Str.ofString "names" then some (.ref l) else u y) ∧
    nw = (l, W.listOf items.toArray nn) :: news ∧ (∀ p ∈ news, p.1 ≠ l) ∧ fl = f / 2 ^ i * 2 ^ i ∧ StrsAre items ((bits f.toNat i).map wordAt) ∧ (f = 0 ∨ fl ≠ 0)
theorem pretty_fits {f : Int} {i : Nat} {items : List Value} (h : StrsAre items ((bits f.toNat i).map wordAt)) (hi : i ≤ 32) : items.toArray.size ≤ sizeLine := by
  have h1 := StrsAre.length h
  have h2 := bits_len f.toNat i
  rw [List.length_map] at h1
  have e2 : sizeLine = 16777216 := by rw [sizeLine_eq]
  rw [List.size_toArray]
  omega
local macro_rules | `(tactic| walk_at "call builtin:hex") => `(tactic| (refine P.hex_of_int ?_ (hexFits (by assumption))))
local macro_rules | `(tactic| walk_at "call builtin:dict.get") => `(tactic| ((with_reducible rename KTD.Keyed _ _ _ => kyX); (rename Fr _ _ _ _ => lF); with_unfolding_all refine get_word (h₀ := _) kyX lF.keep (by assumption) ?_; intro _))
local macro_rules | `(tactic| walk_at "TurnEnd") => `(tactic| ((with_reducible show TurnEnd _ _ _ _ _ _ _ _ Flow.brk _); dsimp only [TurnEnd]))
local macro_rules | `(tactic| walk_at "call builtin:list.append") => `(tactic| (k_here; (show wpAny _ _ (call (Value.builtin _) [Value.ref _, _]) _ _ _); k_dflt (refine' append_K ?k1 ?k2 ?k3 ?_ ?z; (case k1 => k_asm); (case k2 => k_asm); (case k3 => first | refine Upd.tail (by assumption) (Upd.head (by assumption)) | refine Upd.head (by assumption)); (case z => assumption); k_whole); intro h' F' N'))
set_option rowWalk.seconds 0
set_option maxRecDepth 100000 in
set_option maxHeartbeats 8000000 in
theorem pretty_ok (w : World) (mean : ExcName → Option Value) (mg mb : Str → Option Value) (news : List (Addr × Obj)) (f : Int) (t : Tok) :
    CbClaim (Challenge.rw_pe0033_01.row.prog) w (hd.heap_39 w.params) hd.view_39 (looseW hd.view_39 [Str.ofString "COMPILER_FLAG_NAMES"]) mean mg mb 22 news [] (0 ≤ f ∧ f < 4294967296) [.int f t] (fun t => .str (pretty f) t) := by
  w_on
  w_top on
  k_fill
  dsimp only [CbClaim, CbLists, CbRet]
  intros
  rename_i hret
  refine wpAny_call ?_
  k_dflt cell_enter
  k_steps
  refine wpAny_noRaise ?_
  rename Fr _ _ _ _ => F'
  rename News _ _ _ _ => N'
  refine for_range F' (by rfl) (by rfl) (by rfl) ?_ PassesOwn.never
  k_steps
  rename IsRange _ _ _ _ _ _ _ _ => R'
  rename Fr _ _ _ _ => F'
  rename News _ _ _ _ => N'
  have hf : 0 ≤ f := (by assumption : 0 ≤ f ∧ f < 4294967296).1
  have hf2 : f < 4294967296 := (by assumption : 0 ≤ f ∧ f < 4294967296).2
  refine ⟨_, 0, 32, _, _, _, 32, _, _, prettyJ news f, rfl, R', by decide, by decide, F', N', ?_, ?_, ?_⟩
  · rename ∀ p ∈ news, _ => hl1
    refine ⟨_, f, _, [], _, _, norm2 (a := Str.ofString "flags") (b := Str.ofString "names") rfl rfl, rfl, fun p hp => Nat.ne_of_lt (hl1 p hp), by simp, StrsAre.nil, ?_⟩
    by_cases h : f = 0
    · exact .inl h
    · exact .inr h
  · clear F' N' R'
    intro I i t1 m₁ news₁ h tk hlt hi hJ ha F1 N1
    obtain ⟨l, fl, tf, items, nn, u, rfl, rfl, hnl, hfl, hS, h0⟩ := hJ
    have hIl : I ≠ l := by
      have := List.cons.inj ha
      have h1 := hlt _ (.head _)
      dsimp only at h1 this
      rw [← this.1] at h1
      exact Nat.ne_of_gt h1
    have hz := pretty_fits hS (Nat.le_of_lt hi)
    (try k_fold)
    k_steps
    · -- the bit is set, more to come
      rename Builtin.bitAnd _ _ ≠ 0 => hb
      rename Builtin.bitXor _ _ ≠ 0 => hx
      rename Fr _ _ _ _ => F'
      rename News _ _ _ _ => N'
      have hO := flag_on hf hfl hb
      refine ⟨_, _, _, _, rfl, F', N', ha, _, _, _, items ++ [_], _, _, norm2 (a := Str.ofString "flags") (b := Str.ofString "names") rfl rfl, by rw [List.push_toArray], hnl, hO.1, ?_, .inr hx⟩
      rw [hO.2, List.map_append]
      exact strsAre_append hS (.cons _ _ .nil)
    · -- the last bit
      rename Builtin.bitAnd _ _ ≠ 0 => hb
      rename Builtin.bitXor _ _ = 0 => hx
      have hO := flag_on hf hfl hb
      have hS' : ∀ tt, StrsAre (items.toArray.push (.str (wordAt i) tt)).toList ((bits f.toNat (i + 1)).map wordAt) := by
        intro tt
        rw [hO.2, List.map_append, List.push_toArray]
        exact strsAre_append hS (.cons _ _ .nil)
      rename News _ _ _ _ => N'
      show wpAny _ _ (call (.builtin "str.join") [.str _ _, .ref l]) _ _ _
      refine join_listW (News.isList N' (.tail _ (.head _))) (hS' _) (by decide +kernel) (bits_weight _ _ (by omega)) ?_
      intro t' k'
      k_steps
      rename News _ _ _ _ => N'
      refine cb_retS hret ?_ (by k_asm) (cb_drop N' fun p hp => .tail _ (.tail _ hp))
      have hne : bits f.toNat (i + 1) ≠ [] := by rw [hO.2]; simp
      rw [joinW_some hne, ← flag_last hf hi (hO.1.symm.trans hx)]; rfl
    · rename Builtin.bitAnd _ _ = 0 => hb
      rename Fr _ _ _ _ => F'
      rename News _ _ _ _ => N'
      have hO := flag_off hf hfl hb
      refine ⟨_, _, _, _, rfl, F', N', ha, _, _, _, items, _, _, norm2 (a := Str.ofString "flags") (b := Str.ofString "names") rfl rfl, rfl, hnl, hO.1, ?_, h0⟩
      rw [hO.2]; exact hS
  · clear F' N' R'
    intro m₁ news₁ h tk hJ F1 N1
    obtain ⟨l, fl, tf, items, nn, u, rfl, rfl, hnl, hfl, hS, h0⟩ := hJ
    have hz := pretty_fits hS (Nat.le_refl _)
    have hfz : fl = 0 := by
      rw [hfl]
      have : f / 2 ^ 32 = 0 := Int.ediv_eq_zero_of_lt hf hf2
      rw [this, Int.zero_mul]
    have hf0 : f = 0 := h0.resolve_right fun q => q hfz
    subst hf0
    have hi0 : items = [] := by
      cases hS with
      | nil => rfl
    (try k_fold)
    k_steps
    rename News _ _ _ _ => N'
    show wpAny _ _ (call (.builtin "str.join") [.str _ _, .ref l]) _ _ _
    refine join_listW (ys := [baseText "0x" 16 0]) (News.isList N' (.head _)) (by rw [hi0, hfz]; exact .cons _ _ .nil) (by decide +kernel) (by decide +kernel) ?_
    intro t' k'
    k_steps
    rename News _ _ _ _ => N'
    refine cb_retS hret ?_ (by k_asm) (cb_drop N' fun p hp => .tail _ hp)
    exact join_zero
end Mine
end
section
open PySem PySem.W PySem.Calls PyProof.Rows PySem.Spec
namespace Mine
theorem word_low : ∀ i : Nat, i < 10 → [Str.ofString "OPTIMIZED", Str.ofString "NEWLOCALS", Str.ofString "VARARGS", Str.ofString "VARKEYWORDS", Str.ofString "NESTED", Str.ofString "GENERATOR", Str.ofString "NOFREE", Str.ofString "COROUTINE", Str.ofString "ITERABLE_COROUTINE", Str.ofString "ASYNC_GENERATOR"].getD i Str.empty = wordAt i := by decide +kernel
theorem word_high : ∀ i : Nat, i < 21 → 10 ≤ i → Str.ofString "0x" ++ Txt.item (Str.ofString "1248") ((i : Int).fmod 4) ++ Txt.mul (Str.ofString "0") ((i : Int).fdiv 4) = wordAt i := by decide +kernel
theorem word_high' {k : Int} (h : 10 ≤ k) (h2 : k < 21) : Str.ofString "0x" ++ Txt.item (Str.ofString "1248") (k.fmod 4) ++ Txt.mul (Str.ofString "0") (k.fdiv 4) = wordAt k.toNat := by
  have e : k = ((k.toNat : Nat) : Int) := by omega
  have := word_high k.toNat (by omega) (by omega)
  rw [← e] at this
  exact this
theorem word_fits {k : Int} (h : 10 ≤ k) (h2 : k < 21) : (Str.ofString "0x" ++ Txt.item (Str.ofString "1248") (k.fmod 4)).length + (Txt.mul (Str.ofString "0") (k.fdiv 4)).length ≤ sizeLine := by
  rw [← Str.length_append, word_high' h h2]
  have := wordLen k.toNat (by omega)
  have e2 : sizeLine = 16777216 := by rw [sizeLine_eq]
  omega
local macro_rules | `(tactic| walk_at "binaryOp Add str str") => `(tactic| (with_reducible refine add_str ?_ (word_fits (by omega) (by omega)); intro _ _))
set_option rowWalk.seconds 0
set_option maxRecDepth 100000 in
set_option maxHeartbeats 8000000 in
theorem word_ok (w : World) (mean : ExcName → Option Value) (mg mb : Str → Option Value) (news : List (Addr × Obj)) (k : Int) (t : Tok) :
    CbClaim (Challenge.rw_pe0033_01.row.prog) w (hd.heap_39 w.params) hd.view_39 (looseW hd.view_39 [Str.ofString "COMPILER_FLAG_NAMES"]) mean mg mb 46 news [] (0 ≤ k ∧ k < 21) [.int k t] (fun t => .str (wordAt k.toNat) t) := by
  w_on
  w_top on
  k_fill
  dsimp only [CbClaim, CbLists, CbRet]
  intros
  rename_i hret
  have hk1 : 0 ≤ k := (by assumption : 0 ≤ k ∧ k < 21).1
  have hk2 : k < 21 := (by assumption : 0 ≤ k ∧ k < 21).2
  refine wpAny_call ?_
  k_dflt cell_enter
  k_steps
  · refine cb_retS hret (word_low _ (by omega)) (by k_asm) ?_
    rename News _ _ _ _ => N'
    exact cb_drop N' fun p hp => .tail _ hp
  · refine cb_retS hret (word_high' (by omega) (by omega)) (by k_asm) ?_
    rename News _ _ _ _ => N'
    exact cb_drop N' fun p hp => .tail _ hp
end Mine
end
section
open PySem PySem.W PySem.Calls PyProof.Rows PySem.Spec
namespace Mine
section
variable {M : Model} {A : Around} {R : GenEnd} {Y : Protocol} {n : Nat} {s₀ : Shared} {c : Code} {fs : List Frame} {s : Shared} {env : Env}
  {K : Flow → Sem Fin} {H : Value → Sem Fin} {gd : Bool → Bool} {lv : List Value → List Value}
theorem seg_plain {st : Stmt} (h : wpAny M (A.over c fs) (exec st env) (fun f s' => Seg M A R Y n s₀ c (K f) fs s') (fun _ _ => False) s) :
    Seg M A R Y n s₀ c ((exec st env).wrap K H gd lv) fs s := seg_wrap (wpAny_mono h (fun _ _ x => x) fun _ _ x => x.elim)
theorem seg_If {test : Expr} {body orelse : List Stmt} {pos : Pos}
    (h : wpAny M (A.over c fs) (isTrue test env (eval test env)) (fun b s' => Seg M A R Y n s₀ c ((execs (if b = true then body else orelse) env).wrap K H gd lv) fs s') (fun _ _ => False) s) :
    Seg M A R Y n s₀ c ((exec (.If test body orelse pos) env).wrap K H gd lv) fs s := by
  rw [arm_exec_If]
  show Seg M A R Y n s₀ c (.at pos fun _ => ((isTrue test env (eval test env)) >>= fun b => if b = true then execs body env else execs orelse env).wrap K H gd lv) fs s
  refine seg_at ?_
  rw [Sem.bind_eq_wrap', Sem.wrap_wrap]
  refine seg_wrap (wpAny_mono h (fun b s' hb => ?_) fun _ _ e => e.elim)
  cases b <;> exact hb
/-- what stands below a loop's own activation -/
abbrev back (env : Env) (K : Flow → Sem Fin) (H : Value → Sem Fin) (gd : Bool → Bool) (lv : List Value → List Value) : Result → Sem Fin := fun r =>
  ((match r with | .ok f => (.pure f : Sem Flow) | .error e => .raise e).onRaise fun (x : Value) => do
        if (← field x 1) == Value.none then unsupported "frame.own-activation:exception-without-traceback"
        setFlight x env.frame).wrap K H gd lv
theorem seg_For {target iter : Expr} {body orelse : List Stmt} {pos : Pos}
    (h : wpAny M (A.over c fs) (eval iter env) (fun xv s₁ => wpAny M (A.over c fs) (pyIter xv) (fun it s₂ => ∀ p, Seg M A R Y n s₀ (.forLoop target it body orelse env) (M.den (.forLoop target it body orelse env))
      (.ret (back env K H gd lv) none (gd false) (lv []) c p [] :: fs) s₂) (fun _ _ => False) s₁) (fun _ _ => False) s)
    (hs : ∀ x, foldedSetIterable iter env x = pure x := by intro _; rfl) :
    Seg M A R Y n s₀ c ((exec (.For target iter body orelse pos) env).wrap K H gd lv) fs s := by
  rw [exec_For]
  show Seg M A R Y n s₀ c (.at pos fun _ => (eval iter env >>= fun x0 => (foldedSetIterable iter env x0 >>= fun x => (standAt iter.pos >>= fun _ => (holding [x] (pyIter x) >>= fun it => runOwn (.forLoop target it body orelse env) env)))).wrap K H gd lv) fs s
  refine seg_at ?_
  rw [Sem.bind_eq_wrap', Sem.wrap_wrap]
  refine seg_wrap (wpAny_mono h (fun xv s₁ h₁ => ?_) fun _ _ e => e.elim)
  rw [hs xv]
  show Seg M A R Y n s₀ c (.at iter.pos fun _ => (holding [xv] (pyIter xv) >>= fun it => runOwn (.forLoop target it body orelse env) env).wrap K H gd lv) fs s₁
  refine seg_at ?_
  rw [Sem.bind_eq_wrap', Sem.wrap_wrap]
  refine seg_wrap (wpAny_holding (wpAny_mono h₁ (fun it s₂ h₂ => ?_) fun _ _ e => e.elim))
  exact seg_call h₂
end
section
variable {prog : Program} {w : World} {A : Around} {R : GenEnd} {Y : Protocol} {n : Nat} {s₀ : Shared} {fs : List Frame} {s : Shared} {env : Env}
/-- what a raise does in a loop's activation -/
abbrev sink (env : Env) : Value → Sem Fin := fun e => (do noteFrame e env; theTreesLotGoes e : Sem Unit).wrap (fun _ => .raise e) .raise id id
/-- how a loop goes on behind its body -/
abbrev onward (target : Expr) (it : Value) (body orelse : List Stmt) (env : Env) : Flow → Sem Fin := fun f => match f with
  | .next | .cont => .pure (.again (.forLoop target it body orelse env))
  | .brk => .pure (.done .next)
  | .ret v => .pure (.done (.ret v))
theorem seg_forLoop {x : Str} {px : Pos} {it : Value} {body orelse : List Stmt}
    (h : wpAny (model prog w) (A.over (.forLoop (.Name x px) it body orelse env) fs) (pyNext it) (fun r s₁ => match r with
      | none => Seg (model prog w) A R Y n s₀ (.forLoop (.Name x px) it body orelse env) (.pure (.again (.block orelse env))) fs s₁
      | some v => wpAny (model prog w) (A.over (.forLoop (.Name x px) it body orelse env) fs) (assign (.Name x px) env v) (fun _ s₂ =>
          Seg (model prog w) A R Y n s₀ (.forLoop (.Name x px) it body orelse env) ((execs body env).wrap (onward (.Name x px) it body orelse env) (sink env) id id) fs s₂) (fun _ _ => False) s₁) (fun _ _ => False) s) :
    Seg (model prog w) A R Y n s₀ (.forLoop (.Name x px) it body orelse env) ((model prog w).den (.forLoop (.Name x px) it body orelse env)) fs s := by
  show Seg _ A R Y n s₀ _ ((forTurn (.Name x px) it body orelse env).onRaise (fun x => do noteFrame x env; theTreesLotGoes x)) fs s
  unfold forTurn
  rw [Sem.onRaise_eq_wrap]
  show Seg _ A R Y n s₀ _ (.at _ fun _ => (((pyNext it).onRaise (fun _ => standAt { (Expr.Name x px).pos with line := 0 })) >>= _).wrap _ _ _ _) fs s
  refine seg_at ?_
  rw [Sem.bind_eq_wrap', Sem.wrap_wrap]
  refine seg_wrap (wpAny_onRaise (wpAny_mono h (fun r s₁ h₁ => ?_) fun _ _ e => e.elim))
  cases r with
  | none => exact h₁
  | some v =>
    show Seg _ A R Y n s₀ _ ((assign (.Name x px) env v >>= fun _ => (execs body env >>= _)).wrap _ _ _ _) fs s₁
    rw [Sem.bind_eq_wrap', Sem.wrap_wrap]
    refine seg_wrap (wpAny_mono h₁ (fun _ s₂ h₂ => ?_) fun _ _ e => e.elim)
    rw [Sem.bind_eq_wrap', Sem.wrap_wrap]
    rw [Sem.wrap_congr (execs body env) _ _ (K' := onward (.Name x px) it body orelse env) (H' := sink env) (fun f => by cases f <;> rfl)
      (fun e => by show (do noteFrame e env; theTreesLotGoes e : Sem Unit).bind (fun _ => .raise e) = _; rw [Sem.bind_eq_wrap])]
    exact h₂
end
end Mine
end
section
open PySem PySem.W PySem.Calls PyProof.Rows PySem.Spec
namespace Mine
/-! the generator's own pieces, taken out of the given program -/
def fnBody : Stmt → List Stmt
  | .FunctionDef (body := b) .. => b
  | _ => []
def fnScope : Stmt → Scope
  | .FunctionDef (scope := b) .. => b
  | _ => { kind := .module, names := [], isGenerator := false, isCoroutine := false }
def stBody : Stmt → List Stmt
  | .For _ _ b _ _ => b
  | .If _ b _ _ => b
  | .While _ b _ _ => b
  | _ => []
def stHead : Stmt → Expr
  | .For t _ _ _ _ => t
  | .If t _ _ _ => t
  | .While t _ _ _ => t
  | .Expr e _ => e
  | _ => .Name (Str.ofString "") ⟨0, 0, 0, 0⟩
def none0 : Stmt := .Pass ⟨0, 0, 0, 0⟩
def gDef : Stmt := Challenge.pw_pe0033_01.main.body.getD 5 none0
def gBody : List Stmt := fnBody gDef
def gFor : Stmt := gBody.getD 1 none0
def gLoop : List Stmt := stBody gFor
def gTail : List Stmt := stBody (gLoop.getD 1 none0)
def gWhile : Stmt := gTail.getD 1 none0
def genv (Lg : Addr) : Env := envOf (Str.ofString "_grouping_intervals") (fnScope gDef) Lg 29 (.ref 28)
def gm (x l : Option Value) (D : Addr) : Str → Option Value := fun y => if y = Str.ofString "interval" then x else if y = Str.ofString "last_interval" then l else if y = Str.ofString "grouping" then some (.ref D) else none
theorem gm_x (v x l : Option Value) (D : Addr) : (fun y => if y = Str.ofString "interval" then v else gm x l D y) = gm v l D := by
  funext y
  unfold gm
  split <;> rfl
theorem gm_l (v x l : Option Value) (D : Addr) : (fun y => if y = Str.ofString "last_interval" then v else gm x l D y) = gm x v D := by
  funext y
  unfold gm
  by_cases h : y = Str.ofString "last_interval"
  · subst h
    rw [if_pos rfl, if_neg (by decide), if_pos rfl]
  · rw [if_neg h]
    split <;> rfl
abbrev PR : Program := Challenge.rw_pe0033_01.row.prog
abbrev LZ : List Str := [Str.ofString "COMPILER_FLAG_NAMES"]
set_option rowWalk.seconds 0
set_option linter.unusedVariables false
set_option maxRecDepth 100000
section
variable {w : World} {A : Around} {s : Shared} {h₀ : Heap} {Lg Dg : Addr} {mean : ExcName → Option Value} {mg mb : Str → Option Value}
set_option maxHeartbeats 4000000 in
theorem t_max {x : Int} {t : Tok} {l : Option Value} {P : Bool → Shared → Prop} (X : (hd.heap_39 w.params).In h₀) (T : Top hd.view_39 (looseW hd.view_39 [Str.ofString "COMPILER_FLAG_NAMES"]) mean mg mb h₀) (F : Fr h₀ Lg s.heap (gm (some (.int x t)) l Dg)) (h : P (x == 127) s) :
    wpAny (model PR w) A (isTrue (stHead (gLoop.getD 0 none0)) (genv Lg) (eval (stHead (gLoop.getD 0 none0)) (genv Lg))) P (fun _ _ => False) s := by
  w_on
  w_top on
  k_fill
  have N : News h₀ Lg s.heap [] := News.nil
  show wpAny _ _ (isTrue (Expr.Compare _ _ _ _) (envOf _ _ _ _ _) _) _ _ _
  k_steps
  exact h
set_option maxHeartbeats 4000000 in
theorem t_zero {x : Int} {t : Tok} {l : Option Value} {P : Bool → Shared → Prop} (X : (hd.heap_39 w.params).In h₀) (T : Top hd.view_39 (looseW hd.view_39 [Str.ofString "COMPILER_FLAG_NAMES"]) mean mg mb h₀) (F : Fr h₀ Lg s.heap (gm (some (.int x t)) l Dg)) (h : ∀ tk, P (x == 0) { s with toks := tk }) :
    wpAny (model PR w) A (isTrue (stHead (gLoop.getD 1 none0)) (genv Lg) (eval (stHead (gLoop.getD 1 none0)) (genv Lg))) P (fun _ _ => False) s := by
  w_on
  w_top on
  k_fill
  have N : News h₀ Lg s.heap [] := News.nil
  show wpAny _ _ (isTrue (Expr.Compare _ _ _ _) (envOf _ _ _ _ _) _) _ _ _
  k_steps
  exact h _
set_option maxHeartbeats 4000000 in
theorem t_none {c : Int} {t : Tok} {x : Option Value} {P : Bool → Shared → Prop} (X : (hd.heap_39 w.params).In h₀) (T : Top hd.view_39 (looseW hd.view_39 [Str.ofString "COMPILER_FLAG_NAMES"]) mean mg mb h₀) (F : Fr h₀ Lg s.heap (gm x (some (.int c t)) Dg)) (h : P false s) :
    wpAny (model PR w) A (isTrue (stHead (gTail.getD 0 none0)) (genv Lg) (eval (stHead (gTail.getD 0 none0)) (genv Lg))) P (fun _ _ => False) s := by
  w_on
  w_top on
  k_fill
  have N : News h₀ Lg s.heap [] := News.nil
  show wpAny _ _ (isTrue (Expr.Compare _ _ _ _) (envOf _ _ _ _ _) _) _ _ _
  k_steps
  exact h
set_option maxHeartbeats 4000000 in
theorem t_true {P : Bool → Shared → Prop} (h : P true s) :
    wpAny (model PR w) A (isTrue (stHead gWhile) (genv Lg) (eval (stHead gWhile) (genv Lg))) P (fun _ _ => False) s := by
  w_on
  w_top on
  show wpAny _ _ (isTrue (Expr.Constant _ _ _) (envOf _ _ _ _ _) _) _ _ _
  k_steps
  show wpAny _ _ (eval (Expr.Constant _ _ _) _) _ _ _
  exact wpAny_Constant_bool (wpAny_truthy_bool h)
set_option maxHeartbeats 4000000 in
theorem e_interval {v : Value} {l : Option Value} {px : Pos} {P : Value → Shared → Prop} (F : Fr h₀ Lg s.heap (gm (some v) l Dg)) (h : P v s) :
    wpAny (model PR w) A (eval (.Name (Str.ofString "interval") px) (genv Lg)) P (fun _ _ => False) s := ld F rfl h
set_option maxHeartbeats 4000000 in
theorem e_last {v : Value} {x : Option Value} {px : Pos} {P : Value → Shared → Prop} (F : Fr h₀ Lg s.heap (gm x (some v) Dg)) (h : P v s) :
    wpAny (model PR w) A (eval (.Name (Str.ofString "last_interval") px) (genv Lg)) P (fun _ _ => False) s := ld F rfl h
set_option maxHeartbeats 4000000 in
theorem e_grouping {l x : Option Value} {px : Pos} {P : Value → Shared → Prop} (F : Fr h₀ Lg s.heap (gm x l Dg)) (h : P (.ref Dg) s) :
    wpAny (model PR w) A (eval (.Name (Str.ofString "grouping") px) (genv Lg)) P (fun _ _ => False) s := ld F rfl h
set_option maxHeartbeats 4000000 in
theorem x_last {v : Value} {l : Option Value} {P : Flow → Shared → Prop} (F : Fr h₀ Lg s.heap (gm (some v) l Dg))
    (h : ∀ h' tk, Fr h₀ Lg h' (gm (some v) (some v) Dg) → Heap.SameBut Lg s.heap h' → P .next { s with heap := h', toks := tk }) :
    wpAny (model PR w) A (exec (gLoop.getD 3 none0) (genv Lg)) P (fun _ _ => False) s := by
  w_on
  w_top on
  k_fill
  show wpAny _ _ (exec (Stmt.Assign [Expr.Name _ _] _ _) (envOf _ _ _ _ _)) _ _ _
  refine wpAny_Assign_Name ?_
  refine ld F rfl ?_
  refine wpAny_storeName_local rfl F.ns (fun h' hn hs => ?_) rfl
  refine h h' _ (F.set ?_ hs) hs
  rw [← gm_l (some v) (some v) l Dg]
  exact hn
set_option maxHeartbeats 4000000 in
theorem x_first {x l : Option Value} {P : Flow → Shared → Prop} (F : Fr h₀ Lg s.heap (gm x l Dg))
    (h : ∀ h' tk, Fr h₀ Lg h' (gm x (some .none) Dg) → Heap.SameBut Lg s.heap h' → P .next { s with heap := h', toks := tk }) :
    wpAny (model PR w) A (exec (gBody.getD 0 none0) (genv Lg)) P (fun _ _ => False) s := by
  show wpAny _ _ (exec (Stmt.Assign [Expr.Name _ _] _ _) (envOf _ _ _ _ _)) _ _ _
  refine wpAny_Assign_Name ?_
  refine wpAny_Constant_none ?_
  refine wpAny_storeName_local rfl F.ns (fun h' hn hs => ?_) rfl
  refine h h' _ (F.set ?_ hs) hs
  rw [← gm_l (some .none) x l Dg]
  exact hn
end
end Mine
end
section
open PySem PySem.W PySem.Calls PyProof.Rows PySem.Spec
set_option maxRecDepth 100000
namespace Mine
def Since (Lg Ig : Addr) (s₀ s : Shared) : Prop := ∃ h tk, s = { s₀ with heap := h, toks := tk } ∧ ∀ b o, b ≠ Lg → b ≠ Ig → s₀.heap.get? b = some o → h.get? b = some o
theorem Since.refl {Lg Ig : Addr} (s : Shared) : Since Lg Ig s s := ⟨s.heap, s.toks, rfl, fun _ _ _ _ e => e⟩
theorem Since.on {Lg Ig : Addr} {s₀ s : Shared} (h : Since Lg Ig s₀ s) {h' : Heap} {tk : Nat} (k : ∀ b o, b ≠ Lg → b ≠ Ig → s.heap.get? b = some o → h'.get? b = some o) : Since Lg Ig s₀ { s with heap := h', toks := tk } := by
  obtain ⟨g, u, rfl, kk⟩ := h
  exact ⟨h', tk, rfl, fun b o h1 h2 e => k b o h1 h2 (kk b o h1 h2 e)⟩
def Agree (h₀ : Heap) (Lg Ig Dg : Addr) (h h' : Heap) : Prop := ∀ b o, (b = Lg ∨ b = Ig ∨ b = Dg ∨ ∃ o₀, h₀.get? b = some o₀) → h.get? b = some o → h'.get? b = some o
def GY (h₀ : Heap) (Lg Ig Dg : Addr) (N : Nat) (ys : Nat → Option Int) : Protocol := fun m s₀ v s' kap =>
  ∃ x t j, m + j + 1 = N ∧ ys j = some x ∧ v = .int x t ∧ Since Lg Ig s₀ s' ∧ (∃ o, s'.heap.get? Lg = some o) ∧ (∃ o, s'.heap.get? Ig = some o) ∧ (0 < m → ∀ s'', Agree h₀ Lg Ig Dg s'.heap s''.heap → kap (.send .none) s'')
def GR (Lg Ig : Addr) (N : Nat) (ys : Nat → Option Int) : GenEnd := fun n s₀ r s' => r = .ok (.ret .none) ∧ ys (N - n) = none ∧ Since Lg Ig s₀ s'
structure GAt (h₀ : Heap) (Lg Ig Dg : Addr) (its : List Value) (x l : Option Value) (i : Nat) (h : Heap) : Prop where
  fr : Fr h₀ Lg h (gm x l Dg)
  it : h.IsListIter Ig Dg i
  ls : h.IsList Dg its.toArray
  nI : h₀.get? Ig = none
  IL : Ig ≠ Lg
  ID : Ig ≠ Dg
  DL : Dg ≠ Lg
theorem GAt.agree {h₀ : Heap} {Lg Ig Dg : Addr} {its : List Value} {x l : Option Value} {i : Nat} {h h' : Heap} (G : GAt h₀ Lg Ig Dg its x l i h) (a : Agree h₀ Lg Ig Dg h h') : GAt h₀ Lg Ig Dg its x l i h' :=
  ⟨⟨G.fr.ns.at' fun o e => a _ o (.inl rfl) e, fun b o e => a b o (.inr (.inr (.inr ⟨o, e⟩))) (G.fr.keep b o e), G.fr.above⟩,
   (let ⟨o, e, r⟩ := G.it; ⟨o, a _ o (.inr (.inl rfl)) e, r⟩), (let ⟨o, e, r⟩ := G.ls; ⟨o, a _ o (.inr (.inr (.inl rfl))) e, r⟩), G.nI, G.IL, G.ID, G.DL⟩
/-- a store into the generator's frame -/
theorem GAt.set {h₀ : Heap} {Lg Ig Dg : Addr} {its : List Value} {x l x' l' : Option Value} {i : Nat} {h h' : Heap} (G : GAt h₀ Lg Ig Dg its x l i h) (F : Fr h₀ Lg h' (gm x' l' Dg)) (hs : Heap.SameBut Lg h h') : GAt h₀ Lg Ig Dg its x' l' i h' :=
  ⟨F, (let ⟨o, e, r⟩ := G.it; ⟨o, (hs.2 _ G.IL).trans e, r⟩), (let ⟨o, e, r⟩ := G.ls; ⟨o, (hs.2 _ G.DL).trans e, r⟩), G.nI, G.IL, G.ID, G.DL⟩
theorem GAt.hasL {h₀ : Heap} {Lg Ig Dg : Addr} {its : List Value} {x l : Option Value} {i : Nat} {h : Heap} (G : GAt h₀ Lg Ig Dg its x l i h) : ∃ o, h.get? Lg = some o := let ⟨o, _, _, e, _⟩ := G.fr.ns; ⟨o, e⟩
theorem GAt.hasI {h₀ : Heap} {Lg Ig Dg : Addr} {its : List Value} {x l : Option Value} {i : Nat} {h : Heap} (G : GAt h₀ Lg Ig Dg its x l i h) : ∃ o, h.get? Ig = some o := let ⟨o, e, _⟩ := G.it; ⟨o, e⟩
inductive Tells (ys : Nat → Option Int) : Nat → Option Int → List Int → Prop
  | nil {i l} : ys i = none → Tells ys i l []
  | stop {i l r} : ys i = none → Tells ys i l (127 :: r)
  | rep {i c r} : (∀ j, i ≤ j → ys j = some c) → Tells ys i (some c) (0 :: r)
  | item {i l x r} : x ≠ 127 → x ≠ 0 → ys i = some x → Tells ys (i + 1) (some x) r → Tells ys i l (x :: r)
section
variable {w : World} {A : Around} {h₀ : Heap} {Lg Ig Dg : Addr} {mean : ExcName → Option Value} {mg mb : Str → Option Value} {N : Nat} {ys : Nat → Option Int} {its : List Value}
theorem seg_while {c : Int} {tc : Tok} {x : Option Value} {i : Nat} {fs : List Frame} (hfs : splitAtGen fs = none) (hfg : fs.any Frame.guarded = false) :
    ∀ (n : Nat), 0 < n → n ≤ N → (∀ j, N - n ≤ j → ys j = some c) → ∀ s₀ s, Since Lg Ig s₀ s → GAt h₀ Lg Ig Dg its x (some (.int c tc)) i s.heap →
    Seg (model PR w) A (GR Lg Ig N ys) (GY h₀ Lg Ig Dg N ys) n s₀ (.whileLoop (stHead gWhile) (stBody gWhile) [] (genv Lg)) ((model PR w).den (.whileLoop (stHead gWhile) (stBody gWhile) [] (genv Lg))) fs s
  | 0, h, _, _, _, _, _, _ => absurd h (Nat.lt_irrefl 0)
  | n + 1, _, hn, hy, s₀, s, hS, G => by
    refine seg_whileLoop (wpAny_mono (t_true ?_) (fun _ _ q => q) fun _ _ e => e.elim)
    rw [if_pos rfl]
    refine seg_execs_cons ?_
    refine seg_Expr_Yield hfs rfl hfg ?_
    refine wpAny_mono (e_last G.fr ?_) (fun _ _ q => q) fun _ _ e => e.elim
    intro kap hk
    refine ⟨c, tc, N - (n + 1), by omega, hy _ (by omega), rfl, hS, G.hasL, G.hasI, fun hn' s'' ha => hk .none s'' ?_⟩
    show Seg _ _ _ _ n s'' _ (.pure (.again _)) fs s''
    refine seg_again rfl ?_
    exact seg_while hfs hfg n hn' (by omega) (fun j hj => hy j (by omega)) s'' s'' (Since.refl s'') (G.agree ha)
theorem over_handled {c : Code} {k : Result → Sem Fin} {g : Bool} {l : List Value} {c' : Code} {p : Pos} (hh : A.handled = none) : (A.over c [.ret k none g l c' p []]).handled = none := hh
/-- the loop's own code -/
abbrev gcode (Lg Ig : Addr) : Code := .forLoop (stHead gFor) (.ref Ig) gLoop [] (genv Lg)
theorem seg_item {R : GenEnd} {Y : Protocol} {n i : Nat} {s₀ s : Shared} {fs : List Frame} {x l : Option Value} {v : Value} (G : GAt h₀ Lg Ig Dg its x l i s.heap) (hS : Since Lg Ig s₀ s) (hv : its.toArray[i]? = some v)
    (h : ∀ s', Since Lg Ig s₀ s' → GAt h₀ Lg Ig Dg its (some v) l (i + 1) s'.heap → Seg (model PR w) A R Y n s₀ (gcode Lg Ig) ((execs gLoop (genv Lg)).wrap (onward (stHead gFor) (.ref Ig) gLoop [] (genv Lg)) (sink (genv Lg)) id id) fs s') :
    Seg (model PR w) A R Y n s₀ (gcode Lg Ig) ((model PR w).den (gcode Lg Ig)) fs s := by
  refine seg_forLoop ?_
  refine wpAny_pyNext_list_item G.it G.ls hv fun h₁ hit hs => ?_
  have F₁ : Fr h₀ Lg h₁ (gm x l Dg) := ⟨G.fr.ns.at' fun o e => (hs.2 _ (Ne.symm G.IL)).trans e, fun b o e => (hs.2 b fun q => by rw [q, G.nI] at e; cases e).trans (G.fr.keep b o e), G.fr.above⟩
  refine wpAny_assign_Name (wpAny_storeName_local rfl F₁.ns (fun h₂ hn hs₂ => ?_) rfl)
  have F₂ : Fr h₀ Lg h₂ (gm (some v) l Dg) := F₁.set (by rw [← gm_x (some v) x l Dg]; exact hn) hs₂
  have G₁ : GAt h₀ Lg Ig Dg its x l (i + 1) h₁ := ⟨F₁, hit, (let ⟨o, e, r⟩ := G.ls; ⟨o, (hs.2 _ (Ne.symm G.ID)).trans e, r⟩), G.nI, G.IL, G.ID, G.DL⟩
  exact h _ (hS.on fun b o h1 h2 e => (hs₂.2 b h1).trans ((hs.2 b h2).trans e)) (G₁.set F₂ hs₂)
def lastOf (l : Option Int) (t : Tok) : Value := match l with
  | none => .none
  | some c => .int c t
theorem seg_loop {K : Flow → Sem Fin} {H : Value → Sem Fin} {gd : Bool → Bool} {lv : List Value → List Value} {cF : Code} {gs : List Int}
    (X : (hd.heap_39 w.params).In h₀) (T : Top hd.view_39 (looseW hd.view_39 [Str.ofString "COMPILER_FLAG_NAMES"]) mean mg mb h₀)
    (hI : IntsAre its gs) (hh : A.handled = none) (hgd : gd false = false)
    (hnext : ∀ n s₀ s, ys (N - n) = none → Since Lg Ig s₀ s → Seg (model PR w) A (GR Lg Ig N ys) (GY h₀ Lg Ig Dg N ys) n s₀ cF (K .next) [] s)
    (hret : ∀ n s₀ s, ys (N - n) = none → Since Lg Ig s₀ s → Seg (model PR w) A (GR Lg Ig N ys) (GY h₀ Lg Ig Dg N ys) n s₀ cF (K (.ret .none)) [] s) :
    ∀ (i : Nat) (l : Option Int) (rest : List Int), Tells ys i l rest → gs.drop i = rest → ∀ n, n + i = N → 0 < n → ∀ (x : Option Value) (tl : Tok) s₀ s p, Since Lg Ig s₀ s → GAt h₀ Lg Ig Dg its x (some (lastOf l tl)) i s.heap →
    Seg (model PR w) A (GR Lg Ig N ys) (GY h₀ Lg Ig Dg N ys) n s₀ (gcode Lg Ig) ((model PR w).den (gcode Lg Ig)) [.ret (back (genv Lg) K H gd lv) none (gd false) (lv []) cF p []] s := by
  intro i l rest hT
  have hgfs : ∀ p, ([Frame.ret (back (genv Lg) K H gd lv) none (gd false) (lv []) cF p []] : List Frame).any Frame.guarded = false := fun p => by
    show ((gd false) || false) = false
    rw [hgd]; rfl
  -- one item taken
  have take : ∀ {i : Nat} {xn : Int} {r : List Int}, gs.drop i = xn :: r → ∃ t, its.toArray[i]? = some (.int xn t) := by
    intro i xn r hd
    have : gs[i]? = some xn := by
      have := congrArg (·[0]?) hd
      simpa using this
    obtain ⟨t, ht⟩ := hI.get i xn this
    exact ⟨t, by simpa using ht⟩
  induction hT with
  | nil hy =>
    rename_i i l
    intro hd n hn hpos x tl s₀ s p hS G
    have hnone : its.toArray[i]? = none := by
      have h1 : gs.length ≤ i := by
        have := congrArg List.length hd
        rw [List.length_drop] at this
        simp only [List.length_nil] at this
        omega
      have := hI.length
      simp only [List.getElem?_toArray, List.getElem?_eq_none_iff]
      omega
    refine seg_forLoop ?_
    refine wpAny_pyNext_list_end (over_handled hh) G.it G.ls hnone fun h' he => ?_
    refine seg_again rfl ?_
    show Seg _ _ _ _ n s₀ _ (leafOf (.ok .next)) _ _
    refine seg_leaf _ ?_
    refine hnext n s₀ _ (by rw [← hy]; congr 1; omega) ?_
    exact hS.on fun b o h1 h2 e => he b o h2 e
  | stop hy =>
    rename_i i l r
    intro hd n hn hpos x tl s₀ s p hS G
    obtain ⟨t, ht⟩ := take hd
    refine seg_item G hS ht fun s₁ hS₁ G₁ => ?_
    refine seg_execs_cons (seg_If (t_max X T G₁.fr ?_))
    show Seg _ _ _ _ n s₀ _ ((execs (stBody (gLoop.getD 0 none0)) (genv Lg)).wrap _ _ _ _) _ _
    refine seg_execs_cons (seg_plain (wpAny_Return_none ?_))
    show Seg _ _ _ _ n s₀ _ (leafOf (.ok (.ret .none))) _ _
    refine seg_leaf _ ?_
    exact hret n s₀ _ (by rw [← hy]; congr 1; omega) hS₁
  | rep hy =>
    rename_i i c r
    intro hd n hn hpos x tl s₀ s p hS G
    obtain ⟨t, ht⟩ := take hd
    refine seg_item G hS ht fun s₁ hS₁ G₁ => ?_
    refine seg_execs_cons (seg_If (t_max X T G₁.fr ?_))
    refine seg_execs_nil ?_
    refine seg_execs_cons (seg_If (t_zero X T G₁.fr fun tk => ?_))
    show Seg _ _ _ _ n s₀ _ ((execs gTail (genv Lg)).wrap _ _ _ _) _ _
    refine seg_execs_cons (seg_If (t_none X T G₁.fr ?_))
    refine seg_execs_nil ?_
    refine seg_execs_cons (seg_While fun p' => ?_)
    refine seg_while rfl ?_ n hpos (by omega) (fun j hj => hy j (by omega)) s₀ _ (hS₁.on fun _ _ _ _ e => e) G₁
    show (id false || (gd false || false)) = false
    rw [hgd]; rfl
  | item h1 h2 hy hT ih =>
    rename_i i l xn r
    intro hd n hn hpos x tl s₀ s p hS G
    obtain ⟨t, ht⟩ := take hd
    refine seg_item G hS ht fun s₁ hS₁ G₁ => ?_
    refine seg_execs_cons (seg_If (t_max X T G₁.fr ?_))
    rw [beq_eq_false_iff_ne.mpr h1]
    refine seg_execs_nil ?_
    refine seg_execs_cons (seg_If (t_zero X T G₁.fr fun tk => ?_))
    rw [beq_eq_false_iff_ne.mpr h2]
    refine seg_execs_nil ?_
    refine seg_execs_cons ?_
    obtain ⟨n, rfl⟩ : ∃ n', n = n' + 1 := ⟨n - 1, by omega⟩
    refine seg_Expr_Yield rfl rfl (hgfs p) ?_
    refine wpAny_mono (e_interval (s := { s₁ with toks := tk }) G₁.fr ?_) (fun _ _ q => q) fun _ _ e => e.elim
    intro kap hk
    refine ⟨xn, t, i, by omega, hy, rfl, hS₁.on fun _ _ _ _ e => e, G₁.hasL, G₁.hasI, fun hn' s'' ha => hk .none s'' ?_⟩
    have G₂ := G₁.agree ha
    show Seg _ _ _ _ n s'' _ ((execs _ (genv Lg)).wrap _ _ _ _) _ s''
    refine seg_execs_cons (seg_plain (x_last G₂.fr fun h₃ tk₃ F₃ hs₃ => ?_))
    refine seg_execs_nil ?_
    show Seg _ _ _ _ n s'' _ (.pure (.again _)) _ _
    refine seg_again rfl ?_
    refine ih ?_ n (by omega) hn' _ t s'' _ p ((Since.refl s'').on fun b o h1 h2 e => (hs₃.2 b h1).trans e) (G₂.set F₃ hs₃)
    have := congrArg List.tail hd
    simpa using this
theorem seg_fresh {gs : List Int} {s : Shared} (X : (hd.heap_39 w.params).In h₀) (T : Top hd.view_39 (looseW hd.view_39 [Str.ofString "COMPILER_FLAG_NAMES"]) mean mg mb h₀)
    (hI : IntsAre its gs) (hh : A.handled = none) (hT : Tells ys 0 none gs) (hN : 0 < N) (F : Fr h₀ Lg s.heap (gm none none Dg)) (hl : s.heap.IsList Dg its.toArray) (hDL : Dg ≠ Lg) (hIg : Ig = s.heap.objs.size) :
    Seg (model PR w) A (GR Lg Ig N ys) (GY h₀ Lg Ig Dg N ys) N s (.func gBody (genv Lg)) ((model PR w).den (.func gBody (genv Lg))) [] s := by
  have hend : ∀ n s₀ s, ys (N - n) = none → Since Lg Ig s₀ s → Seg (model PR w) A (GR Lg Ig N ys) (GY h₀ Lg Ig Dg N ys) n s₀ (.func gBody (genv Lg)) (leafOf (.ok (.ret .none))) [] s :=
    fun n s₀ s hy hS => seg_end _ ⟨rfl, hy, hS⟩
  refine seg_func ?_
  refine seg_execs_cons (seg_plain (x_first F fun h₁ tk F₁ hs₁ => ?_))
  refine seg_execs_cons (seg_For ?_)
  refine e_grouping (s := { s with heap := h₁, toks := tk }) F₁ ?_
  have hl₁ : h₁.IsList Dg its.toArray := let ⟨o, e, r⟩ := hl; ⟨o, (hs₁.2 _ hDL).trans e, r⟩
  refine wpAny_pyIter_list (s := { s with heap := h₁, toks := tk }) hl₁ ?_
  have hsz : h₁.objs.size = Ig := by rw [hIg]; exact hs₁.1
  show ∀ p, Seg _ _ _ _ N s (.forLoop _ (.ref h₁.objs.size) _ _ _) ((model PR w).den (.forLoop _ (.ref h₁.objs.size) _ _ _)) _ _
  rw [hsz]
  intro p
  have hDlt : Dg < h₁.objs.size := let ⟨_, e, _⟩ := hl₁; Heap.lt_size e
  have hLlt : Lg < h₁.objs.size := F₁.ns.lt
  refine seg_loop X T hI hh rfl (fun n s₀ s hy hS => hend n s₀ s hy hS) (fun n s₀ s hy hS => hend n s₀ s hy hS) 0 none gs hT rfl N rfl hN none 0 s _ p ?_ ?_
  · exact (Since.refl s).on fun b o h1 h2 e => Heap.get?_push_of_some _ ((hs₁.2 b h1).trans e)
  · refine ⟨F₁.push _, ?_, hl₁.push _, ?_, ?_, ?_, hDL⟩
    · rw [← hsz]
      exact ⟨_, Heap.get?_push_size _ rfl, rfl, rfl⟩
    · rw [← hsz]
      exact next_is_new F₁
    · rw [← hsz]; exact Nat.ne_of_gt hLlt
    · rw [← hsz]; exact Nat.ne_of_gt hDlt
end
end Mine
end
section
open PySem PySem.W PySem.Calls PyProof.Rows PySem.Spec
set_option maxRecDepth 100000
namespace Mine
section
variable {prog : Program} {w : World} {A : Around} {E : Value → Shared → Prop} {s : Shared}
/-- next() of a function's generator; what it leaves suspended has no cleanup -/
theorem next_gen {a : Addr} {g n : Nat} {gs : GenState} {P : Nat → Shared → Shared → Prop} {Y : Protocol} {Q : Option Value → Shared → Prop} (hh : A.handled = none) (hl : s.heap.NoLimit) (hroom : A.depth < recursionLimit)
    (hg : s.heap.IsGen a g) (hgs : s.gens[g]? = some gs) (hgo : gs.Goes (model prog w) A.in1 (fun n s₀ r s₁ => r = .ok (.ret .none) ∧ P n s₀ s₁) Y n (.send .none) (s.setGen g .running))
    (hY : ∀ v s₁ gs', gs'.bare = true → Y (n - 1) (s.setGen g .running) v s₁ (fun r' s'' => match n with | 0 => False | m + 1 => gs'.Goes (model prog w) A.in1 (fun n s₀ r s₁ => r = .ok (.ret .none) ∧ P n s₀ s₁) Y m r' s'') → Q (some v) (s₁.setGen g gs'))
    (hP : ∀ s₁, P n (s.setGen g .running) s₁ → ∀ h', (∀ b o, s₁.heap.get? b = some o → h'.get? b = some o) → Q none { s₁.setGen g .finished with heap := h' }) :
    wpAny (model prog w) A (pyNext (.ref a)) Q E s := by
  have live : gs ≠ .running ∧ gs ≠ .finished := ⟨fun q => by subst q; exact hgo.elim, fun q => by subst q; exact hgo.elim⟩
  unfold pyNext
  refine wpAny_bind (wpAny_attempt (wpAny_callSpecial?_slot (name := Str.ofString "__next__") hg.typeIs slot_gen_next (wpAny_call_entry slot_gen_next hg.typeIs entry_gen_next ?_ (args_gen_next _))))
  show wpAny _ A.in1 (Builtin.Generator.genWake (.ref a) (.send .none)) _ _ s
  unfold Builtin.Generator.genWake
  refine wpAny_bind (wpAny_holding (wpAny_genNumber hg (wpAny_bind (wpAny_genState hgs ?_))))
  cases gs with
  | running => exact absurd rfl live.1
  | finished => exact absurd rfl live.2
  | _ =>
    refine wpAny_bind (wpAny_roomToWake hl hroom ?_)
    show wpAny _ A.in1 (.resume g (.send .none) [] _) _ _ s
    refine wpAny_resumeQ hgs hgo ?_ fun v s₁ gs' hb hv => wpAny_pure ⟨v, rfl, wpAny_pure (hY v s₁ gs' hb hv)⟩
    rintro x s₁ ⟨rfl, hp⟩
    show wpAny _ A.in1 (newExc (.type "StopIteration") [] >>= _) _ _ _
    refine wpAny_bind ?_
    simp only [newExc, newTuple]
    refine wpAny_bind (wpAny_newObj_type ?_ (by size_fits))
    refine wpAny_bind (m := firstArgMember _ _) (wpAny_of_eq (a := Value.none) (by first | rfl | (simp only [firstArgMember]; rfl)) ?_)
    refine wpAny_newObj_type ?_ (by size_fits)
    simp only [raiseNew]
    refine wpAny_bind (wpAny_bind (wpAny_handled ?_))
    rw [show A.in1.handled = none from hh]
    refine wpAny_throw (wpAny_bind (wpAny_isInstance (T := "StopIteration") (b := true) ⟨_, Heap.get?_push_size _ rfl, rfl⟩ isSubtype_stop ?_))
    exact wpAny_pure (hP s₁ hp _ fun b o hb => Heap.get?_push_of_some _ (Heap.get?_push_of_some _ hb))
end
end Mine
end
section
open PySem PySem.W PySem.Calls PyProof.Rows PySem.Spec
set_option maxRecDepth 100000
namespace Mine
/-- a generator's object -/
abbrev genObj (g : Nat) (t : Tok) (nm : Str) : Obj := { cls := .type "generator", data := .fields #[.int g 0, .str nm t, .str nm (t + 1)] }
section
variable {w : World} {A : Around} {E : Value → Shared → Prop} {s : Shared} {h₀ : Heap} {L Dg : Addr} {m : Str → Option Value} {news : List (Addr × Obj)} {mean : ExcName → Option Value} {mg mb : Str → Option Value}
theorem binds_gm : (fun x => ([(Str.ofString "grouping", Value.ref Dg)] : List (Str × Value)).reverse.lookup x) = gm none none Dg := by
  funext y
  unfold gm
  show (match y == Str.ofString "grouping" with | true => some (Value.ref Dg) | false => none) = _
  by_cases h : y = Str.ofString "grouping"
  · subst h
    rw [if_neg (by decide), if_neg (by decide), if_pos rfl]; rfl
  · rw [beq_eq_false_iff_ne.mpr h, if_neg h]
    show none = _
    split
    · rfl
    · split <;> rfl
set_option maxHeartbeats 4000000 in
theorem call_gen {Q : Value → Shared → Prop} (X : (hd.heap_39 w.params).In h₀) (T : Top hd.view_39 (looseW hd.view_39 [Str.ofString "COMPILER_FLAG_NAMES"]) mean mg mb h₀) (F : Fr h₀ L s.heap m) (N : News h₀ L s.heap news) (hroom : A.depth < recursionLimit)
    (h : ∀ ga Lg h' tk oL og, Fr h₀ L h' m → News h₀ L h' ((ga, og) :: (Lg, oL) :: news) → Fr h₀ Lg h' (gm none none Dg) → (∀ p ∈ news, p.1 < Lg) → L < Lg → Lg < ga → h'.IsGen ga s.gens.size →
      Q (.ref ga) { s with heap := h', toks := tk, gens := s.gens.push (.fresh (.func gBody (genv Lg))) }) :
    wpAny (model PR w) A (call (.ref 29) [.ref Dg]) Q E s := by
  have X' := X.keeps F.keep
  have ho := X' 29 _ (by rfl)
  have hcd : s.heap.CodeRec (.ref 28) (Str.ofString "_grouping_intervals") := codeRec_of X' (by rfl)
  refine wpAny_call (codeAny_call_generator (body := gBody) hroom ho rfl rfl rfl rfl hcd ?_)
  refine wpAny_of_eq (a := [(Str.ofString "grouping", Value.ref Dg)]) rfl ?_
  refine wpAny_newFunctionEnv (by decide) (locs rfl) (fun h₁ hns hsb => ⟨?_, ?_⟩)
  · exact (T.nolimit.keeps F.keep).fresh _ hsb
  · have old : ∀ b o, s.heap.get? b = some o → h₁.get? b = some o := fun b o e => hsb.extBut b o (Nat.ne_of_lt (Heap.lt_size e)) (Heap.get?_push_of_some _ e)
    have hsz : h₁.objs.size = s.heap.objs.size + 1 := by rw [hsb.1, Heap.size_push]
    have up : ∀ b o, s.heap.get? b = some o → (h₁.push (genObj s.gens.size (s.toks + 1) (Str.ofString "_grouping_intervals"))).get? b = some o := fun b o e => Heap.get?_push_of_some _ (old b o e)
    have hnL : h₀.get? s.heap.objs.size = none := next_is_new F
    rw [binds_gm] at hns
    obtain ⟨oL, es, ep, eL, r⟩ := id hns
    have hLL : L < s.heap.objs.size := F.ns.lt
    have Fg : Fr h₀ s.heap.objs.size (h₁.push (genObj s.gens.size (s.toks + 1) (Str.ofString "_grouping_intervals"))) (gm none none Dg) :=
      Fr.push ⟨hns, fun b o e => old b o (F.keep b o e), Nat.le_of_lt (Nat.lt_of_le_of_lt F.above hLL)⟩ _
    refine h h₁.objs.size s.heap.objs.size _ _ oL (genObj s.gens.size (s.toks + 1) (Str.ofString "_grouping_intervals")) (F.keeps up) ?_ Fg (fun p hp => Heap.lt_size (N p hp).1) hLL (by rw [hsz]; exact Nat.lt_succ_self _) ⟨_, _, _, Heap.get?_push_size _ rfl, rfl, rfl, rfl⟩
    intro p hp
    rcases List.mem_cons.mp hp with rfl | hp
    · refine ⟨Heap.get?_push_size _ rfl, ?_, ?_⟩
      · rw [hsz]; exact Nat.ne_of_gt (Nat.lt_succ_of_lt hLL)
      · exact Heap.get?_none_of_le (by rw [hsz]; exact Nat.le_succ_of_le (Nat.le_of_lt (Nat.lt_of_le_of_lt F.above hLL)))
    · rcases List.mem_cons.mp hp with rfl | hp
      · exact ⟨Heap.get?_push_of_some _ eL, Nat.ne_of_gt hLL, hnL⟩
      · exact ⟨up _ _ (N p hp).1, (N p hp).2⟩
/-- one more item of the generator -/
theorem gen_next {Lg Ig ga : Addr} {g n Nn : Nat} {ys : Nat → Option Int} {gs : GenState} {Q : Option Value → Shared → Prop} (hh : A.handled = none) (hl : s.heap.NoLimit) (hroom : A.depth < recursionLimit) (hg : s.heap.IsGen ga g) (hgs : s.gens[g]? = some gs)
    (hn : 0 < n) (hnN : n ≤ Nn) (hgo : gs.Goes (model PR w) A.in1 (GR Lg Ig Nn ys) (GY h₀ Lg Ig Dg Nn ys) n (.send .none) (s.setGen g .running))
    (hsome : ∀ x t h' tk gs', ys (Nn - n) = some x → gs'.bare = true → (∀ b o, b ≠ Lg → b ≠ Ig → s.heap.get? b = some o → h'.get? b = some o) → (∃ o, h'.get? Lg = some o) → (∃ o, h'.get? Ig = some o) →
      (1 < n → ∀ s'', Agree h₀ Lg Ig Dg h' s''.heap → gs'.Goes (model PR w) A.in1 (GR Lg Ig Nn ys) (GY h₀ Lg Ig Dg Nn ys) (n - 1) (.send .none) s'') →
      Q (some (.int x t)) { s with heap := h', toks := tk, gens := s.gens.setIfInBounds g gs' })
    (hnone : ∀ h' tk, ys (Nn - n) = none → (∀ b o, b ≠ Lg → b ≠ Ig → s.heap.get? b = some o → h'.get? b = some o) → Q none { s with heap := h', toks := tk, gens := s.gens.setIfInBounds g .finished }) :
    wpAny (model PR w) A (pyNext (.ref ga)) Q E s := by
  obtain ⟨n, rfl⟩ : ∃ k, n = k + 1 := ⟨n - 1, by omega⟩
  refine next_gen (P := fun n s₀ s₁ => ys (Nn - n) = none ∧ Since Lg Ig s₀ s₁) hh hl hroom hg hgs hgo ?_ ?_
  · rintro v s₁ gs' hb ⟨x, t, j, hj, hy, rfl, ⟨h', tk, rfl, hk⟩, hL, hI, hgo'⟩
    have e : Nn - (n + 1) = j := by omega
    have := hsome x t h' tk gs' (by rw [e]; exact hy) hb hk hL hI fun h1 s'' ha => hgo' (by omega) s'' ha
    have e2 : (s.gens.setIfInBounds g .running).setIfInBounds g gs' = s.gens.setIfInBounds g gs' := by simp
    show Q (some (.int x t)) { s with heap := h', toks := tk, gens := (s.gens.setIfInBounds g .running).setIfInBounds g gs' }
    rw [e2]; exact this
  · rintro s₁ ⟨hy, h', tk, rfl, hk⟩ h'' hk'
    have e2 : (s.gens.setIfInBounds g .running).setIfInBounds g .finished = s.gens.setIfInBounds g .finished := by simp
    show Q none { s with heap := h'', toks := tk, gens := (s.gens.setIfInBounds g .running).setIfInBounds g .finished }
    rw [e2]
    exact hnone h'' tk hy fun b o h1 h2 e => hk' b o (hk b o h1 h2 e)
end
end Mine
end
section
open PySem PySem.W PySem.Calls PyProof.Rows PySem.Spec
set_option maxRecDepth 100000
namespace Mine
theorem allBare_set {gens : Array GenState} {g : Nat} {x : GenState} (h : AllBare gens) (hx : x.bare = true) : AllBare (gens.setIfInBounds g x) := by
  intro y hy
  obtain ⟨i, hi, rfl⟩ := Array.mem_iff_getElem.mp hy
  have hi' : i < gens.size := by simpa using hi
  rw [Array.getElem_setIfInBounds hi']
  split
  · exact hx
  · exact h _ (Array.getElem_mem _)
/-- how a turn over the generator may end -/
def TurnG (h₀ : Heap) (L : Addr) (own : List (Addr × Obj)) (adr : List Addr) (J : (Str → Option Value) → List (Addr × Obj) → Prop) (s₀ : Shared) (Q : Flow → Shared → Prop) (f : Flow) (s' : Shared) : Prop :=
  match f with
  | .ret v => Q (.ret v) s'
  | .brk => Q .next s'
  | _ => ∃ h' tk m' news', s' = { s₀ with heap := h', toks := tk } ∧ Fr h₀ L h' m' ∧ News h₀ L h' (own ++ news') ∧ news'.map (·.1) = adr ∧ J m' news'
section
variable {w : World} {A : Around} {E : Value → Shared → Prop} {s : Shared} {env : Env} {h₀ : Heap} {mean : ExcName → Option Value} {mg mb : Str → Option Value}
/-- where the generator stands ahead of a turn -/
def Ready (w : World) (A : Around) (h₀ : Heap) (L Lg Dg ga : Addr) (Nn : Nat) (ys : Nat → Option Int) (j : Nat) (gs : GenState) (h : Heap) (prv : List (Addr × Obj)) : Prop :=
  (j = 0 ∧ gs = .fresh (.func gBody (genv Lg)) ∧ Fr h₀ Lg h (gm none none Dg) ∧ ∃ oL, prv = [(Lg, oL)]) ∨
  (∃ Ig oL oI, prv = [(Lg, oL), (Ig, oI)] ∧ L ≠ Ig ∧ h₀.get? Ig = none ∧ Lg < Ig ∧ ga ≠ Ig ∧ h.get? Lg = some oL ∧ h.get? Ig = some oI ∧
    ∀ s'', Agree h₀ Lg Ig Dg h s''.heap → gs.Goes (model PR w) A.in1 (GR Lg Ig Nn ys) (GY h₀ Lg Ig Dg Nn ys) (Nn - j) (.send .none) s'')
theorem loop_gen {x : Str} {px : Pos} {body : List Stmt} {Q : Flow → Shared → Prop} {ga Lg Dg : Addr} {og oL : Obj} {its : List Value} {nd g : Nat} {gs : List Int} {ys : Nat → Option Int} {m : Str → Option Value} {news : List (Addr × Obj)} (Nn : Nat)
    (J : Nat → (Str → Option Value) → List (Addr × Obj) → Prop)
    (X : (hd.heap_39 w.params).In h₀) (T : Top hd.view_39 (looseW hd.view_39 [Str.ofString "COMPILER_FLAG_NAMES"]) mean mg mb h₀)
    (hh : A.handled = none) (hroom : A.depth < recursionLimit) (hx : env.kindOf x = some .local) (hp : (env.scope.kind == .class || (env.scope.kind == .module && env.locals != env.globals)) = false)
    (F : Fr h₀ env.locals s.heap m) (N : News h₀ env.locals s.heap ((Lg, oL) :: (ga, og) :: (Dg, W.listOf its.toArray nd) :: news)) (Fg : Fr h₀ Lg s.heap (gm none none Dg)) (hIs : s.heap.IsGen ga g) (hgs : s.gens[g]? = some (.fresh (.func gBody (genv Lg)))) (hb : AllBare s.gens)
    (hI : IntsAre its gs) (hT : Tells ys 0 none gs) (hD : Dg < Lg) (hDn : ∀ p ∈ news, p.1 ≠ Dg) (hnw : ∀ p ∈ news, p.1 < Lg) (hga : Lg < ga) (h0 : J 0 m news) (hfuel : ∀ j m₁ news₁, J j m₁ news₁ → j < Nn)
    (turn : ∀ (j : Nat) (y : Int) (t : Tok) (m₁ : Str → Option Value) (prv news₁ : List (Addr × Obj)) (h : Heap) (tk : Nat) (gens : Array GenState), ys j = some y → J j m₁ news₁ → news₁.map (·.1) = news.map (·.1) → AllBare gens →
      (∀ p ∈ prv, ∀ q ∈ news, q.1 ≠ p.1) → Fr h₀ env.locals h (fun z => if z = x then some (.int y t) else m₁ z) → News h₀ env.locals h (prv ++ news₁) →
      wpAny (model PR w) A (execs body env) (TurnG h₀ env.locals prv (news.map (·.1)) (J (j + 1)) { s with gens := gens } Q) E { s with heap := h, toks := tk, gens := gens })
    (done : ∀ (j : Nat) (m₁ : Str → Option Value) (news₁ : List (Addr × Obj)) (h : Heap) (tk : Nat) (gens : Array GenState), ys j = none → J j m₁ news₁ → AllBare gens → Fr h₀ env.locals h m₁ → News h₀ env.locals h news₁ → Q .next { s with heap := h, toks := tk, gens := gens })
    (hE : PassesOwn (model PR w) A env E) :
    codeAny (model PR w) A (.forLoop (.Name x px) (.ref ga) body [] env) (fun r s' => match r with | .ok f => Q f s' | .error e => cameBackBy (model PR w) A env E e s') s := by
  have hgD : Dg ≠ ga := Nat.ne_of_lt (Nat.lt_trans hD hga)
  have nLg := N _ (.head _)
  refine codeAny_forLoop (fun k s' => ∃ j h' tk gens gst m' news' prv, s' = { s with heap := h', toks := tk, gens := gens } ∧ k = Nn - j ∧ Fr h₀ env.locals h' m' ∧ News h₀ env.locals h' (prv ++ (ga, og) :: (Dg, W.listOf its.toArray nd) :: news') ∧ news'.map (·.1) = news.map (·.1) ∧ J j m' news' ∧
    gens[g]? = some gst ∧ AllBare gens ∧ h'.IsGen ga g ∧ Ready w A h₀ env.locals Lg Dg ga Nn ys j gst h' prv) ?_ Nn ⟨0, s.heap, s.toks, s.gens, _, m, news, [(Lg, oL)], rfl, rfl, F, N, rfl, h0, hgs, hb, hIs, .inl ⟨rfl, rfl, Fg, oL, rfl⟩⟩
  rintro k s' ⟨j, h', tk, gens, gst, m', news', prv, rfl, rfl, F', N', ha, hJ, hgst, hb', hIs', hR⟩
  have hj := hfuel j m' news' hJ
  have hnw' : ∀ p ∈ news', p.1 < Lg := fun p hp => by
    have : p.1 ∈ news'.map (·.1) := List.mem_map_of_mem hp
    rw [ha] at this
    obtain ⟨q, hq, e⟩ := List.mem_map.mp this
    rw [← e]; exact hnw q hq
  have nD : News h₀ env.locals h' ((ga, og) :: (Dg, W.listOf its.toArray nd) :: news') := fun p hp => N' p (List.mem_append_right _ hp)
  have hls : h'.IsList Dg its.toArray := ⟨_, (nD _ (.tail _ (.head _))).1, rfl, _, rfl⟩
  have hlim : h'.NoLimit := T.nolimit.keeps F'.keep
  -- the generator's iterator
  have start : ∃ Ig, env.locals ≠ Ig ∧ h₀.get? Ig = none ∧ Lg < Ig ∧ ga ≠ Ig ∧ gst.Goes (model PR w) A.in1 (GR Lg Ig Nn ys) (GY h₀ Lg Ig Dg Nn ys) (Nn - j) (.send .none) (({ s with heap := h', toks := tk, gens := gens } : Shared).setGen g .running) := by
    rcases hR with ⟨rfl, rfl, Fg', oL', rfl⟩ | ⟨Ig, oL', oI, rfl, h1, h2, h3, h4, h5, h6, go⟩
    · refine ⟨h'.objs.size, Nat.ne_of_lt F'.ns.lt, next_is_new F', Fg'.ns.lt, Nat.ne_of_lt (Heap.lt_size (nD _ (.head _)).1), rfl, ?_⟩
      exact seg_fresh (s := ({ s with heap := h', toks := tk, gens := gens } : Shared).setGen g .running) X T hI hh hT hj Fg' hls (Nat.ne_of_lt hD) rfl
    · exact ⟨Ig, h1, h2, h3, h4, go _ fun _ _ _ e => e⟩
  obtain ⟨Ig, hLI, hI0, hLgI, hgaI, hgo⟩ := start
  have offI : ∀ p ∈ news', p.1 ≠ Ig := fun p hp => Nat.ne_of_lt (Nat.lt_trans (hnw' p hp) hLgI)
  have keepAll : ∀ h₁ : Heap, (∀ b o, b ≠ Lg → b ≠ Ig → h'.get? b = some o → h₁.get? b = some o) → Fr h₀ env.locals h₁ m' ∧ News h₀ env.locals h₁ ((ga, og) :: (Dg, W.listOf its.toArray nd) :: news') ∧ h₁.IsGen ga g := by
    intro h₁ hk
    refine ⟨⟨F'.ns.at' fun o e => hk _ o (Ne.symm nLg.2.1) hLI e, fun b o e => hk b o (fun q => ?_) (fun q => ?_) (F'.keep b o e), F'.above⟩, fun p hp => ⟨hk _ _ ?_ ?_ (nD p hp).1, (nD p hp).2⟩, ?_⟩
    · subst q; have := nLg.2.2; rw [e] at this; cases this
    · subst q; rw [e] at hI0; cases hI0
    · rcases List.mem_cons.mp hp with rfl | hp
      · exact Nat.ne_of_gt hga
      · rcases List.mem_cons.mp hp with rfl | hp
        · exact Nat.ne_of_lt hD
        · exact Nat.ne_of_lt (hnw' p hp)
    · rcases List.mem_cons.mp hp with rfl | hp
      · exact hgaI
      · rcases List.mem_cons.mp hp with rfl | hp
        · exact Nat.ne_of_lt (Nat.lt_trans hD hLgI)
        · exact offI p hp
    · obtain ⟨o, nm, qn, e, r⟩ := hIs'
      exact ⟨o, nm, qn, hk _ _ (Nat.ne_of_gt hga) hgaI e, r⟩
  refine gen_next (s := { s with heap := h', toks := tk, gens := gens }) hh hlim hroom hIs' hgst (by omega) (by omega) hgo ?_ ?_
  · intro y t h₁ tk₁ gs' hy hbare hk hL hI' hgo'
    obtain ⟨F₁, N₁, hIs₁⟩ := keepAll h₁ hk
    obtain ⟨oL₁, eL₁⟩ := hL
    obtain ⟨oI₁, eI₁⟩ := hI'
    have hj' : Nn - (Nn - j) = j := by omega
    rw [hj'] at hy
    have N₁' : News h₀ env.locals h₁ ([(Lg, oL₁), (Ig, oI₁), (ga, og), (Dg, W.listOf its.toArray nd)] ++ news') := by
      intro p hp
      rcases List.mem_cons.mp hp with rfl | hp
      · exact ⟨eL₁, nLg.2⟩
      · rcases List.mem_cons.mp hp with rfl | hp
        · exact ⟨eI₁, Ne.symm hLI, hI0⟩
        · exact N₁ p hp
    refine wpAny_assign_Name (wpAny_storeName_local hx F₁.ns (fun h₂ hn₂ hs₂ => ?_) hp)
    have F₂ := F₁.set hn₂ hs₂
    have N₂ := N₁'.set hs₂
    have hbare' := allBare_set (g := g) hb' hbare
    refine wpAny_mono (wpAny_passesOwn hE (turn j y t m' _ news' h₂ _ _ hy hJ ha hbare' ?_ F₂ N₂)) (fun f s₃ h₃ => ?_) fun _ _ e => e
    · intro p hp q hq
      have hq' := hnw q hq
      simp only [List.mem_cons, List.not_mem_nil, or_false] at hp
      rcases hp with rfl | rfl | rfl | rfl
      · exact Nat.ne_of_lt hq'
      · exact Nat.ne_of_lt (Nat.lt_trans hq' hLgI)
      · exact Nat.ne_of_lt (Nat.lt_trans hq' hga)
      · exact hDn q hq
    have onward : (∃ h'' tk'' m'' news'', s₃ = { s with heap := h'', toks := tk'', gens := gens.setIfInBounds g gs' } ∧ Fr h₀ env.locals h'' m'' ∧ News h₀ env.locals h'' ([(Lg, oL₁), (Ig, oI₁), (ga, og), (Dg, W.listOf its.toArray nd)] ++ news'') ∧ news''.map (·.1) = news.map (·.1) ∧ J (j + 1) m'' news'') → ∃ k', k' < Nn - j ∧ ∃ j h' tk gens gst m' news' prv, s₃ = { s with heap := h', toks := tk, gens := gens } ∧ k' = Nn - j ∧ Fr h₀ env.locals h' m' ∧ News h₀ env.locals h' (prv ++ (ga, og) :: (Dg, W.listOf its.toArray nd) :: news') ∧ news'.map (·.1) = news.map (·.1) ∧ J j m' news' ∧
        gens[g]? = some gst ∧ AllBare gens ∧ h'.IsGen ga g ∧ Ready w A h₀ env.locals Lg Dg ga Nn ys j gst h' prv := by
      rintro ⟨h'', tk'', m'', news'', rfl, F'', N'', ha'', hJ''⟩
      have hj2 := hfuel _ _ _ hJ''
      have hgl : g < gens.size := by
        rcases Nat.lt_or_ge g gens.size with q | q
        · exact q
        · rw [Array.getElem?_eq_none q] at hgst; cases hgst
      refine ⟨Nn - (j + 1), by omega, j + 1, h'', tk'', _, gs', m'', news'', [(Lg, oL₁), (Ig, oI₁)], rfl, rfl, F'', N'', ha'', hJ'', by simp [hgl], hbare', ?_, .inr ⟨Ig, oL₁, oI₁, rfl, hLI, hI0, hLgI, hgaI, (N'' _ (.head _)).1, (N'' _ (.tail _ (.head _))).1, fun s'' hag => ?_⟩⟩
      · obtain ⟨o, nm, qn, e, r⟩ := hIs₁
        have e1 : o = og := by
          have := (N₁ _ (.head _)).1
          rw [e] at this; exact Option.some.inj this
        subst e1
        exact ⟨o, nm, qn, (N'' _ (.tail _ (.tail _ (.head _)))).1, r⟩
      · have := hgo' (by omega) s'' fun b o hbb e => ?_
        · have e3 : Nn - j - 1 = Nn - (j + 1) := by omega
          rw [e3] at this; exact this
        · refine hag b o hbb ?_
          rcases hbb with rfl | rfl | rfl | ⟨o₀, e₀⟩
          · rw [eL₁] at e; cases e; exact (N'' _ (.head _)).1
          · rw [eI₁] at e; cases e; exact (N'' _ (.tail _ (.head _))).1
          · have e4 := (N₁ _ (.tail _ (.head _))).1
            rw [e] at e4; cases e4; exact (N'' _ (.tail _ (.tail _ (.tail _ (.head _))))).1
          · have e5 := F₁.keep b o₀ e₀
            rw [e] at e5; cases e5; exact F''.keep b o e₀
    cases f with
    | ret v => exact h₃
    | brk => exact h₃
    | next => exact onward h₃
    | cont => exact onward h₃
  · intro h₁ tk₁ hy hk
    obtain ⟨F₁, N₁, _⟩ := keepAll h₁ hk
    have hj' : Nn - (Nn - j) = j := by omega
    rw [hj'] at hy
    refine wpAny_execs_nil ?_
    exact done j m' news' h₁ tk₁ _ hy hJ (allBare_set hb' rfl) F₁ fun p hp => N₁ p (.tail _ (.tail _ hp))
end
end Mine
end
section
open PySem PySem.W PySem.Calls PyProof.Rows PySem.Spec
namespace Mine
def rDef : Stmt := Challenge.pw_pe0033_01.main.body.getD 8 none0
def rFor : Stmt := (fnBody rDef).getD 1 none0
def rBody : List Stmt := stBody rFor
def renv (L : Addr) : Env := envOfC (Str.ofString "_law_run") (fnScope rDef) L 39 (.ref 38)
def lastM (ms : List Int) : Int := ms.getD (ms.length - 1) 0
def marksRun (ys : Nat → Option Int) : Nat → Nat → List Int → List Int
  | 0, _, ms => ms
  | k + 1, j, ms => match ys j with
    | none => ms
    | some y => if 20 < lastM ms + y then ms else marksRun ys k (j + 1) (ms ++ [lastM ms + y])
def runJ (rest : List (Addr × Obj)) (ys : Nat → Option Int) (fin : List Int) (j : Nat) (m : Str → Option Value) (nw : List (Addr × Obj)) : Prop :=
  ∃ (Mk : Addr) (vs : List Value) (nM : Nat) (ms : List Int) (u : Str → Option Value), m = (fun y => if y = Str.ofString "marks" then some (.ref Mk) else u y) ∧ nw = (Mk, W.listOf vs.toArray nM) :: rest ∧ (∀ p ∈ rest, p.1 ≠ Mk) ∧ IntsAre vs ms ∧
    ms.length = j + 1 ∧ (∀ x ∈ ms, 0 ≤ x ∧ x ≤ 20) ∧ (j : Int) ≤ lastM ms ∧ lastM ms ≤ 20 ∧ marksRun ys (30 - j) j ms = fin
theorem norm1 {m : Str → Option Value} {a : Str} {x : Option Value} (h1 : m a = x) : m = fun z => if z = a then x else m z := by
  funext z
  by_cases ha : z = a
  · rw [if_pos ha, ha, h1]
  · rw [if_neg ha]
theorem news_in {h₀ h : Heap} {L : Addr} {x : Addr × Obj} {prv rest : List (Addr × Obj)} (N : News h₀ L h (x :: (prv ++ rest))) : News h₀ L h (prv ++ x :: rest) := fun p hp => N p (by
  rcases List.mem_append.mp hp with q | q
  · exact .tail _ (List.mem_append_left _ q)
  · rcases List.mem_cons.mp q with rfl | q
    · exact .head _
    · exact .tail _ (List.mem_append_right _ q))
theorem lastM_at (ms : List Int) : ms.getD (-1 + (ms.length : Int)).toNat 0 = lastM ms := by
  unfold lastM
  have : (-1 + (ms.length : Int)).toNat = ms.length - 1 := by omega
  rw [this]
theorem lastM_snoc (ms : List Int) (x : Int) : lastM (ms ++ [x]) = x := by
  unfold lastM
  simp
theorem marksRun_stop {ys : Nat → Option Int} {k j : Nat} {ms : List Int} {y : Int} (hk : 0 < k) (hy : ys j = some y) (h : 20 < lastM ms + y) : marksRun ys k j ms = ms := by
  obtain ⟨k, rfl⟩ : ∃ k', k = k' + 1 := ⟨k - 1, by omega⟩
  unfold marksRun; rw [hy]; exact if_pos h
theorem marksRun_end {ys : Nat → Option Int} {k j : Nat} {ms : List Int} (hy : ys j = none) : marksRun ys k j ms = ms := by
  cases k with
  | zero => rfl
  | succ k => unfold marksRun; rw [hy]
theorem marksRun_on {ys : Nat → Option Int} {k j : Nat} {ms : List Int} {y : Int} (hk : 0 < k) (hy : ys j = some y) (h : ¬ 20 < lastM ms + y) : marksRun ys k j ms = marksRun ys (k - 1) (j + 1) (ms ++ [lastM ms + y]) := by
  obtain ⟨k, rfl⟩ : ∃ k', k = k' + 1 := ⟨k - 1, by omega⟩
  conv => lhs; unfold marksRun
  rw [hy]; exact if_neg h
section
variable {w : World} {A : Around} {s : Shared} {h₀ : Heap} {L : Addr} {mean : ExcName → Option Value} {mg mb : Str → Option Value}
local macro_rules | `(tactic| walk_at "call builtin:list.append") => `(tactic| (k_here; (show wpAny _ _ (call (Value.builtin _) [Value.ref _, _]) _ _ _); k_dflt (refine' append_K ?k1 ?k2 ?k3 ?_ ?z; (case k1 => k_asm); (case k2 => k_asm); (case k3 => exact Upd.head (by assumption)); (case z => assumption); k_whole); intro h' F' N'))
set_option rowWalk.seconds 0
set_option maxRecDepth 100000 in
set_option maxHeartbeats 8000000 in
theorem run_turn {rest prv : List (Addr × Obj)} {ys : Nat → Option Int} {fin : List Int} {adr : List Addr} {Q : Flow → Shared → Prop} {j : Nat} {y : Int} {t : Tok} {m₁ : Str → Option Value} {news₁ : List (Addr × Obj)} {h : Heap} {tk : Nat}
    (X : (hd.heap_39 w.params).In h₀) (T : Top hd.view_39 (looseW hd.view_39 [Str.ofString "COMPILER_FLAG_NAMES"]) mean mg mb h₀)
    (hy : ys j = some y) (hyb : 1 ≤ y ∧ y ≤ 4) (hJ : runJ rest ys fin j m₁ news₁) (ha : news₁.map (·.1) = adr) (hoff : ∀ p ∈ prv, ∀ q ∈ news₁, q.1 ≠ p.1)
    (F : Fr h₀ L h (fun z => if z = Str.ofString "size" then some (.int y t) else m₁ z)) (N : News h₀ L h (prv ++ news₁))
    (after : ∀ (Mk : Addr) (vs : List Value) (nM : Nat) (u : Str → Option Value) (h' : Heap) (tk' : Nat), IntsAre vs fin → (∀ x ∈ fin, 0 ≤ x ∧ x ≤ 20) → fin.length ≤ 21 → (∀ p ∈ rest, p.1 ≠ Mk) → Fr h₀ L h' (fun y => if y = Str.ofString "marks" then some (.ref Mk) else u y) → News h₀ L h' ((Mk, W.listOf vs.toArray nM) :: rest) → Q .next { s with heap := h', toks := tk' }) :
    wpAny (model PR w) A (execs rBody (renv L)) (TurnG h₀ L prv adr (runJ rest ys fin (j + 1)) s Q) (fun _ _ => False) { s with heap := h, toks := tk } := by
  obtain ⟨Mk, vs, nM, ms, u, rfl, rfl, hrest, hI, hlen, hbd, hj1, hj2, hfin⟩ := hJ
  have hz : vs.toArray.size ≤ sizeLine := by
    have := hI.length
    have e2 : sizeLine = 16777216 := by rw [sizeLine_eq]
    rw [List.size_toArray]; omega
  have hoff' : ∀ p ∈ prv ++ rest, p.1 ≠ Mk := fun p hp => (List.mem_append.mp hp).elim (fun q => Ne.symm (hoff p q _ (.head _))) (hrest p)
  have N2 : News h₀ L h ((Mk, W.listOf vs.toArray nM) :: (prv ++ rest)) := fun p hp => N p (by
    rcases List.mem_cons.mp hp with rfl | hp
    · exact List.mem_append_right _ (.head _)
    · exact (List.mem_append.mp hp).elim (fun q => List.mem_append_left _ q) fun q => List.mem_append_right _ (.tail _ q))
  clear N
  w_on
  w_top on
  k_fill
  show wpAny _ _ (execs (Stmt.If _ _ _ _ :: _) (envOfC _ _ _ _ _)) _ _ _
  (try k_fold)
  k_steps
  · rename (20 : Int) < _ => hgt
    rw [lastM_at] at hgt
    show Q .next _
    have hf : ms = fin := by rw [← hfin]; exact (marksRun_stop (by omega) hy hgt).symm
    subst hf
    rw [norm1 (a := Str.ofString "marks") (m := fun z => if z = Str.ofString "size" then some (Value.int y t) else (fun y => if y = Str.ofString "marks" then some (Value.ref Mk) else u y) z) rfl] at F
    exact after Mk vs nM _ h _ hI hbd (by omega) hrest F (fun p hp => N2 p (by
      rcases List.mem_cons.mp hp with rfl | hp
      · exact .head _
      · exact .tail _ (List.mem_append_right _ hp)))
  · rename ¬ (20 : Int) < _ => hle
    rename Fr _ _ _ _ => F'
    rename News _ _ _ _ => N'
    rw [lastM_at] at hle N'
    rw [List.push_toArray] at N'
    refine ⟨_, _, _, _, rfl, F', news_in N', by rw [← ha]; rfl, Mk, vs ++ [_], nM + 1, ms ++ [lastM ms + y], _, norm1 rfl, rfl, hrest, ?_, ?_, ?_, ?_, ?_, ?_⟩
    · exact intsAre_append hI (.cons _ _ .nil)
    · simp [hlen]
    · intro x hx
      rcases List.mem_append.mp hx with q | q
      · exact hbd x q
      · rw [List.mem_singleton.mp q]; omega
    · rw [lastM_snoc]; omega
    · rw [lastM_snoc]; omega
    · rw [← hfin, marksRun_on (by omega) hy hle]
      congr 1
theorem run_loop {px : Pos} {Q : Flow → Shared → Prop} {ga Lg Dg Mk : Addr} {og oL : Obj} {its : List Value} {nd g nM : Nat} {gs : List Int} {ys : Nat → Option Int} {m : Str → Option Value} {rest : List (Addr × Obj)} {t0 : Tok}
    (X : (hd.heap_39 w.params).In h₀) (T : Top hd.view_39 (looseW hd.view_39 [Str.ofString "COMPILER_FLAG_NAMES"]) mean mg mb h₀) (hh : A.handled = none) (hroom : A.depth < recursionLimit)
    (F : Fr h₀ L s.heap m) (hm : m (Str.ofString "marks") = some (.ref Mk)) (N : News h₀ L s.heap ((Lg, oL) :: (ga, og) :: (Dg, W.listOf its.toArray nd) :: (Mk, W.listOf #[.int 0 t0] nM) :: rest))
    (Fg : Fr h₀ Lg s.heap (gm none none Dg)) (hIs : s.heap.IsGen ga g) (hgs : s.gens[g]? = some (.fresh (.func gBody (genv Lg)))) (hb : AllBare s.gens) (hI : IntsAre its gs) (hT : Tells ys 0 none gs) (hys : ∀ j y, ys j = some y → 1 ≤ y ∧ y ≤ 4)
    (hD : Dg < Lg) (hDn : ∀ p ∈ (Mk, W.listOf #[.int 0 t0] nM) :: rest, p.1 ≠ Dg) (hnw : ∀ p ∈ (Mk, W.listOf #[.int 0 t0] nM) :: rest, p.1 < Lg) (hga : Lg < ga) (hrest : ∀ p ∈ rest, p.1 ≠ Mk)
    (after : ∀ (Mk : Addr) (vs : List Value) (nM : Nat) (u : Str → Option Value) (h' : Heap) (tk' : Nat) (gens : Array GenState), IntsAre vs (marksRun ys 30 0 [0]) → (∀ x ∈ marksRun ys 30 0 [0], 0 ≤ x ∧ x ≤ 20) → (marksRun ys 30 0 [0]).length ≤ 21 → (∀ p ∈ rest, p.1 ≠ Mk) → AllBare gens →
      Fr h₀ L h' (fun y => if y = Str.ofString "marks" then some (.ref Mk) else u y) → News h₀ L h' ((Mk, W.listOf vs.toArray nM) :: rest) → Q .next { s with heap := h', toks := tk', gens := gens }) :
    codeAny (model PR w) A (.forLoop (.Name (Str.ofString "size") px) (.ref ga) rBody [] (renv L)) (fun r s' => match r with | .ok f => Q f s' | .error e => cameBackBy (model PR w) A (renv L) (fun _ _ => False) e s') s := by
  refine loop_gen (env := renv L) (E := fun _ _ => False) 30 (runJ rest ys (marksRun ys 30 0 [0])) X T hh hroom rfl rfl F N Fg hIs hgs hb hI hT hD hDn hnw hga ?_ ?_ ?_ ?_ PassesOwn.never
  · exact ⟨Mk, [.int 0 t0], nM, [0], _, norm1 hm, rfl, hrest, .cons _ _ .nil, rfl, by intro x hx; rw [List.mem_singleton.mp hx]; decide, by decide, by decide, rfl⟩
  · rintro j m₁ news₁ ⟨Mk, vs, nM, ms, u, _, _, _, _, _, _, h1, h2, _⟩
    omega
  · intro j y t m₁ prv news₁ h tk gens hy hJ ha hbg hoff F₁ N₁
    refine run_turn (s := { s with gens := gens }) X T hy (hys j y hy) hJ ha ?_ F₁ N₁ ?_
    · intro p hp q hq
      have : q.1 ∈ news₁.map (·.1) := List.mem_map_of_mem hq
      rw [ha] at this
      obtain ⟨q', hq', e⟩ := List.mem_map.mp this
      rw [← e]; exact hoff p hp q' hq'
    · intro Mk vs nM u h' tk' h1 h2 h4 h3 F' N'
      exact after Mk vs nM u h' tk' gens h1 h2 h4 h3 hbg F' N'
  · rintro j m₁ news₁ h tk gens hy ⟨Mk, vs, nM, ms, u, rfl, rfl, h1, h2, h3, h4, h5, h6, h7⟩ hbg F₁ N₁
    have e : ms = marksRun ys 30 0 [0] := by rw [← h7]; exact (marksRun_end hy).symm
    have hl : (marksRun ys 30 0 [0]).length ≤ 21 := by rw [← e]; omega
    rw [e] at h2 h4
    exact after Mk vs nM u h tk gens h2 h4 hl h1 hbg F₁ N₁
end
end Mine
end
section
open PySem PySem.W PySem.Calls PyProof.Rows PySem.Spec
namespace Mine
section
variable {prog : Program} {w : World} {A : Around} {s : Shared} {h₀ : Heap} {L : Addr} {m : Str → Option Value} {env : Env} {elt : Expr} {x : Str} {scope : Scope} {cl : List (Str × Addr)}
/-- what an element of a comprehension leaves: its value, the frame and the ledger as they were -/
def EltEnd (h₀ : Heap) (L : Addr) (m : Str → Option Value) (s : Shared) (news : List (Addr × Obj)) (G : Value → Prop) (y : Value) (s' : Shared) : Prop :=
  G y ∧ ∃ h' tk', s' = { s with heap := h', toks := tk' } ∧ Fr h₀ L h' m ∧ News h₀ L h' news
theorem EltEnd.mk {news all : List (Addr × Obj)} {G : Value → Prop} {y : Value} {h' : Heap} {tk : Nat} (g : G y) (F : Fr h₀ L h' m) (N : News h₀ L h' all) (sub : ∀ p ∈ news, p ∈ all) : EltEnd h₀ L m s news G y { s with heap := h', toks := tk } :=
  ⟨g, h', tk, rfl, F, fun p hp => N p (sub p hp)⟩
theorem comp_all {S : List (Addr × Obj) → Prop} {P : Nat → Value → Prop} {Fin : List Value → List (Addr × Obj) → Prop} {n : Nat} {news : List (Addr × Obj)} (G : Nat → Value → Prop) (hS : S news)
    (elt_ok : ∀ (i : Nat) (v : Value) (I : Addr) (oI : Obj) (C : Addr) (oC : Obj) (D : Addr) (ys : List Value) (m₂ : Str → Option Value) (h : Heap) (tk : Nat), i < n → P i v → LCg.NsObj oC m₂ → m₂ x = some v → Fr h₀ L h m →
      News h₀ L h ((I, oI) :: (C, oC) :: (D, LCg.lst ys) :: news) → wpAny (model prog w) A (eval elt (compEnvC scope cl C env)) (EltEnd h₀ L m s ((I, oI) :: (C, oC) :: (D, LCg.lst ys) :: news) (G i)) (fun _ _ => False) { s with heap := h, toks := tk })
    (fin : ∀ ys : List Value, ys.length = n → (∀ i y, ys[i]? = some y → G i y) → Fin ys news) :
    LCg.CompRest prog w A h₀ L m env elt x scope cl s S P Fin n 0 [] news := by
  have go : ∀ (k i : Nat) (ys : List Value), i + k = n → ys.length = i → (∀ j y, ys[j]? = some y → G j y) → LCg.CompRest prog w A h₀ L m env elt x scope cl s S P Fin k i ys news := by
    intro k
    induction k with
    | zero =>
      intro i ys hi hl hG
      exact LCg.CompRest.zero (fin ys (by omega) hG)
    | succ k ih =>
      intro i ys hi hl hG
      refine LCg.CompRest.succ ?_
      intro v I oI C oC D m₂ h tk E' hP hC hx F N off ne
      refine wpAny_mono (elt_ok i v I oI C oC D ys m₂ h tk (by omega) hP hC hx F N) (fun y s' hy => ?_) fun _ _ e => e.elim
      obtain ⟨hg, h', tk', rfl, F', N'⟩ := hy
      refine ⟨h', tk', news, rfl, F', N', off, hS, ih (i + 1) (ys ++ [y]) (by omega) (by simp [hl]) fun j z hz => ?_⟩
      rcases Nat.lt_or_ge j ys.length with q | q
      · rw [List.getElem?_append_left q] at hz; exact hG j z hz
      · rw [List.getElem?_append_right q] at hz
        have : j - ys.length = 0 := by
          rcases Nat.eq_zero_or_pos (j - ys.length) with r | r
          · exact r
          · rw [List.getElem?_eq_none (by simp; omega)] at hz; cases hz
        rw [this] at hz
        cases hz
        have e : j = i := by omega
        rw [e]; exact hg
  exact go n 0 [] (by omega) rfl fun j y hy => by simp at hy
end
end Mine
end
section
open PySem PySem.W PySem.Calls PyProof.Rows PySem.Spec
namespace Mine
/-- a place where the walk is to rest -/
def Rest (P : Prop) : Prop := P
theorem Rest.go {P : Prop} (h : Rest P) : P := h
theorem for_share {α : Type} {M : Model} {A : Around} {t : Sem α} {Q : α → Shared → Prop} {E : Value → Shared → Prop} {s : Shared} {S : (α → Shared → Prop) → Prop} (hS : S Q) (h : ∀ Q', S Q' → wpAny M A t Q' E s) : wpAny M A t Q E s := h Q hS
section
variable {w : World} {A : Around} {E : Value → Shared → Prop} {s : Shared} {env : Env}
def AtGen (w : World) (A : Around) (env : Env) (x : Str) (px : Pos) (body : List Stmt) (Q : Flow → Shared → Prop) (E : Value → Shared → Prop) (xv : Value) (s : Shared) : Prop :=
  ∃ ga g, xv = .ref ga ∧ s.heap.IsGen ga g ∧ codeAny (model PR w) A (.forLoop (.Name x px) (.ref ga) body [] env) (fun r s' => match r with | .ok f => Q f s' | .error e => cameBackBy (model PR w) A env E e s') s
theorem for_gen {x : Str} {px pos : Pos} {iter : Expr} {body : List Stmt} {Q : Flow → Shared → Prop} (h : wpAny (model PR w) A (eval iter env) (fun xv s₁ => AtGen w A env x px body Q E xv s₁) E s)
    (hs : ∀ x, foldedSetIterable iter env x = pure x := by intro _; rfl) : wpAny (model PR w) A (exec (.For (.Name x px) iter body [] pos) env) Q E s := by
  refine wpAny_For (wpAny_mono h (fun xv s₁ h₁ => ?_) fun _ _ e => e) hs
  obtain ⟨ga, g, rfl, hg, hc⟩ := h₁
  exact wpAny_pyIter_gen hg hc
end
def ysOf (a b c e : Int) : Nat → Option Int := fun j => if j = 0 then some a else if j = 1 then some b else if j = 2 then some c else if e = 1 then some c else none
def marksOf (a b c e : Int) : List Int := marksRun (ysOf a b c e) 30 0 [0]
theorem ysOf_ok {a b c e : Int} (ha : 1 ≤ a ∧ a ≤ 4) (hb : 1 ≤ b ∧ b ≤ 4) (hc : 1 ≤ c ∧ c ≤ 4) (j : Nat) (y : Int) (h : ysOf a b c e j = some y) : 1 ≤ y ∧ y ≤ 4 := by
  unfold ysOf at h
  split at h
  · cases h; exact ha
  · split at h
    · cases h; exact hb
    · split at h
      · cases h; exact hc
      · split at h
        · cases h; exact hc
        · cases h
theorem tells_base {a b c e : Int} (ha : 1 ≤ a ∧ a ≤ 4) (hb : 1 ≤ b ∧ b ≤ 4) (hc : 1 ≤ c ∧ c ≤ 4) {r : List Int} (h : Tells (ysOf a b c e) 3 (some c) r) : Tells (ysOf a b c e) 0 none (a :: b :: c :: r) :=
  .item (by omega) (by omega) rfl (.item (by omega) (by omega) rfl (.item (by omega) (by omega) rfl h))
theorem tells0 {a b c : Int} : Tells (ysOf a b c 0) 3 (some c) [] := .nil rfl
theorem tells1 {a b c : Int} : Tells (ysOf a b c 1) 3 (some c) [0, 3] := .rep fun j hj => by
  unfold ysOf
  rw [if_neg (by omega), if_neg (by omega), if_neg (by omega), if_pos rfl]
theorem tells2 {a b c : Int} : Tells (ysOf a b c 2) 3 (some c) [127, 3] := .stop rfl
theorem news_gen {h₀ h : Heap} {L : Addr} {x y z x1 x2 x3 x4 : Addr × Obj} {r : List (Addr × Obj)} (N : News h₀ L h (x :: y :: z :: x1 :: x2 :: x3 :: x4 :: r)) : News h₀ L h (y :: x :: z :: r) := fun p hp => N p (by
  simp only [List.mem_cons] at hp ⊢
  rcases hp with h | h | h | h
  · exact .inr (.inl h)
  · exact .inl h
  · exact .inr (.inr (.inl h))
  · exact .inr (.inr (.inr (.inr (.inr (.inr (.inr h)))))))
theorem norm3 {m : Str → Option Value} {a b c : Str} {x y z : Option Value} (h1 : m a = x) (h2 : m b = y) (h3 : m c = z) : m = fun w => if w = a then x else if w = b then y else if w = c then z else m w := by
  funext w
  by_cases ha : w = a
  · rw [if_pos ha, ha, h1]
  · rw [if_neg ha]
    by_cases hb : w = b
    · rw [if_pos hb, hb, h2]
    · rw [if_neg hb]
      by_cases hc : w = c
      · rw [if_pos hc, hc, h3]
      · rw [if_neg hc]
theorem fr_norm3 {h₀ h : Heap} {L : Addr} {m : Str → Option Value} (a b c : Str) {x y z : Option Value} (F : Fr h₀ L h m) (h1 : m a = x) (h2 : m b = y) (h3 : m c = z) : Fr h₀ L h (fun w => if w = a then x else if w = b then y else if w = c then z else m w) := by
  rw [← norm3 h1 h2 h3]; exact F
theorem ints_of_each : ∀ {vs : List Value} {ns : List Int}, vs.length = ns.length → (∀ (i : Nat) (y : Value), vs[i]? = some y → ∃ n t, ns[i]? = some n ∧ y = Value.int n t) → IntsAre vs ns
  | [], [], _, _ => .nil
  | [], _ :: _, h, _ => by simp at h
  | _ :: _, [], h, _ => by simp at h
  | v :: vs, n :: ns, h, k => by
    obtain ⟨n', t, hn, rfl⟩ := k 0 v rfl
    cases hn
    exact .cons _ _ (ints_of_each (by simpa using h) fun i y hy => k (i + 1) y (by simpa using hy))
theorem strs_of_each : ∀ {vs : List Value} {ns : List Str}, vs.length = ns.length → (∀ (i : Nat) (y : Value), vs[i]? = some y → ∃ n t, ns[i]? = some n ∧ y = Value.str n t) → StrsAre vs ns
  | [], [], _, _ => .nil
  | [], _ :: _, h, _ => by simp at h
  | _ :: _, [], h, _ => by simp at h
  | v :: vs, n :: ns, h, k => by
    obtain ⟨n', t, hn, rfl⟩ := k 0 v rfl
    cases hn
    exact .cons _ _ (strs_of_each (by simpa using h) fun i y hy => k (i + 1) y (by simpa using hy))
theorem allLt_ne {d : Addr} {l : List (Addr × Obj)} (h : AllLt d l) : ∀ p ∈ l, p.1 ≠ d := fun p hp => Nat.ne_of_lt (kst_ltOf h p hp)
def runTexts (a b c e : Int) : List Str := (List.range 8).map fun i => pretty (Builtin.bitAnd ((marksOf a b c e).map fun x : Int => (2 : Int) ^ x.toNat).sum ((((marksOf a b c e).map fun x : Int => (2 : Int) ^ x.toNat).sum).fdiv (2 ^ (i + 1))))
def flagsOf (fin : List Int) : Int := (fin.map fun x => 2 ^ x.toNat).sum
theorem flags_bound : ∀ (fin : List Int), (∀ x ∈ fin, 0 ≤ x ∧ x ≤ 20) → 0 ≤ flagsOf fin ∧ flagsOf fin ≤ 1048576 * fin.length
  | [], _ => by simp [flagsOf]
  | x :: r, h => by
    have ih := flags_bound r fun y hy => h y (.tail _ hy)
    have hx := h x (.head _)
    have h1 : (0 : Int) < 2 ^ x.toNat := pow_pos_of (by decide) _
    have h2 : (2 : Int) ^ x.toNat ≤ 1048576 := by
      have h3 : (2 : Nat) ^ x.toNat ≤ 2 ^ 20 := Nat.pow_le_pow_right (by decide) (by omega)
      have h4 : ((2 ^ x.toNat : Nat) : Int) = (2 : Int) ^ x.toNat := by simp
      have h5 : (2 : Nat) ^ 20 = 1048576 := by decide
      omega
    have e : flagsOf (x :: r) = 2 ^ x.toNat + flagsOf r := by simp [flagsOf]
    rw [e, List.length_cons]
    omega
theorem flag_arg {fl : Int} (h0 : 0 ≤ fl) (h1 : fl < 4294967296) (k : Nat) : 0 ≤ Builtin.bitAnd fl (fl.fdiv (2 ^ k)) ∧ Builtin.bitAnd fl (fl.fdiv (2 ^ k)) < 4294967296 := by
  have hq := kbt_quot fl k
  have hq' : 0 ≤ fl.fdiv (2 ^ k) ∧ fl.fdiv (2 ^ k) ≤ fl := hq.resolve_left (by omega)
  have := bitAnd_range fl hq'.1
  omega
section
variable {w : World} {mean : ExcName → Option Value} {mg mb : Str → Option Value} {news : List (Addr × Obj)} {f : Int} {t : Tok} {dp un : Nat} {gd : Option (List Code)} {cn : Str} {cs : Scope} {a : Addr} {ccd : Value} {cl : List (Str × Addr)} {outer : List Env} {A₀ : Around} {base h₀ : Heap} {L : Addr} {m : Str → Option Value} {s : Shared} {Q E : Value → Shared → Prop}
theorem pretty_call (B : Below A₀ base outer h₀) (F : Fr h₀ L s.heap m) (X : (hd.heap_39 w.params).In h₀) (N : News h₀ L s.heap news) (T : Top hd.view_39 (looseW hd.view_39 [Str.ofString "COMPILER_FLAG_NAMES"]) mean mg mb h₀) (hk : cs.kind = .function)
    (hf : 0 ≤ f ∧ f < 4294967296) (hd : dp + 1 < recursionLimit) (hu : un + 8 < cLine) (h : ∀ t h' tk', Fr h₀ L h' m → News h₀ L h' news → Q (.str (pretty f) t) { s with heap := h', toks := tk' }) :
    wpAny (model Challenge.rw_pe0033_01.row.prog w) (ktrTop dp un gd cn cs L a ccd cl outer) (call (.ref 22) [.int f t]) Q E s :=
  pretty_ok w mean mg mb news f t dp un gd cn cs a ccd cl outer A₀ base h₀ L m s Q E B F X N T hk hf hd hu h
end
local macro_rules | `(tactic| walk_at "call ref") => `(tactic| ((show wpAny _ _ (call (Value.ref 22) [Value.int _ _]) _ _ _); k_dflt (refine' pretty_call ?k1 ?k2 ?k3 ?k4 ?k5 ?k6 ?k7 ?k8 ?k9 ?_; (case k1 => k_asm); (case k2 => k_asm); (case k3 => k_asm); (case k4 => k_asm); (case k5 => k_asm); (case k6 => exact rfl); (case k7 => exact flag_arg (by assumption) (by assumption) _); (case k8 => ktr_room); (case k9 => ktr_units)); intro t' h' tk' F' N'))
local macro_rules | `(tactic| walk_at "exec For Name Call cons nil") => `(tactic| refine Rest.go ?_)
local macro_rules | `(tactic| walk_at "eval ListComp") => `(tactic| refine Rest.go ?_)
local macro_rules | `(tactic| walk_at "CompSrc") => `(tactic| refine Rest.go ?_)
set_option rowWalk.seconds 0
set_option maxRecDepth 100000 in
set_option maxHeartbeats 8000000 in
theorem run_ok (w : World) (mean : ExcName → Option Value) (mg mb : Str → Option Value) (news : List (Addr × Obj)) (D : Addr) (a b c : Int) (ta tb tc : Tok) (nn : Nat) (ha : 1 ≤ a ∧ a ≤ 4) (hb : 1 ≤ b ∧ b ≤ 4) (hc : 1 ≤ c ∧ c ≤ 4) (e : Int) (t : Tok) (he : e = 0 ∨ e = 1 ∨ e = 2) :
  ∀ (dp un : Nat) (gd : Option (List Code)) (cn : Str) (cs : Scope) (a' : Addr) (ccd : Value) (cl : List (Str × Addr)) (outer : List Env) (A₀ : Around) (base h₀ : Heap) (L : Addr) (m : Str → Option Value) (s : Shared) (Q E : Value → Shared → Prop),
    Below A₀ base outer h₀ → Fr h₀ L s.heap m → (hd.heap_39 w.params).In h₀ → News h₀ L s.heap ((D, W.listOf #[.int a ta, .int b tb, .int c tc] nn) :: news) → Top hd.view_39 (looseW hd.view_39 [Str.ofString "COMPILER_FLAG_NAMES"]) mean mg mb h₀ → cs.kind = .function →
    dp + 5 < recursionLimit → un + 64 < cLine → AllBare s.gens →
    (∀ (R : Addr) (items : List Value) (nR : Nat) (h' : Heap) (tk' : Nat) (gens : Array GenState), StrsAre items (runTexts a b c e) → AllBare gens → Fr h₀ L h' m → News h₀ L h' ((R, W.listOf items.toArray nR) :: (D, W.listOf #[.int a ta, .int b tb, .int c tc] nn) :: news) → Q (.ref R) { s with heap := h', toks := tk', gens := gens }) →
      wpAny (model Challenge.rw_pe0033_01.row.prog w) (ktrTop dp un gd cn cs L a' ccd cl outer) (call (.ref 39) [.ref D, .int e t]) Q E s := by
  w_on
  w_top on
  k_fill
  intro dp un gd cn cs a' ccd cl outer A₀ base h₀ L m s Q E hB hF hX hN hT hcs hdp hun hbare hret
  refine wpAny_call ?_
  k_dflt (refine' code_defC ?k1 ?k2 ?k3 ?k4 ?k5 ?kA ?kF ?kK ?k6 ?k7 ?k8 ?k9 ?kB ?kD ?_ ?c2 ?c3 ?c4; (case kA => exact rfl); (case kF => exact rfl); (case kK => assumption); (case k1 => k_asm); (case k2 => k_asm); (case k3 => k_asm); (case k4 => k_asm); (case k5 => k_asm); (case k6 => k_is); (case k7 => k_is); (case k8 => ktr_room); (case k9 => exact BindsTo.of_eq rfl); (case kB => exact rfl); (case kD => decide +kernel); (case c2 => exact rfl); (case c3 => exact rfl); (case c4 => exact rfl))
  intro g' L' h' tk' cells' FG' F' N' Y' B' X' T' l1
  (try k_lt l1)
  k_cells Y'
  (try simp only [List.cons_append, List.nil_append] at N')
  (try dsimp only)
  (try k_lift B')
  (try k_fold)
  k_steps
  unfold Rest
  rename Obj => oC
  rename Fr _ _ _ _ => F'
  rename News _ _ _ _ => N'
  rename Heap => hW
  obtain ⟨fin, hfin⟩ : ∃ fin, fin = marksOf a b c e := ⟨_, rfl⟩
  obtain ⟨Mk0, t0, u0, F0, N0, lM⟩ : ∃ (Mk : Addr) (t0 : Tok) (u0 : Str → Option Value), Fr g' L' hW (fun y => if y = Str.ofString "marks" then some (.ref Mk) else if y = Str.ofString "sizes" then some (.ref D) else if y = Str.ofString "end" then some (.int e t) else u0 y) ∧
      News g' L' hW ((Mk, W.listOf #[.int 0 t0] 0) :: (L' + 1, oC) :: (D, W.listOf #[.int a ta, .int b tb, .int c tc] nn) :: news) ∧ (L' + 1 < Mk ∧ D < Mk ∧ AllLt Mk news) := by
    rename _ ∧ _ ∧ AllLt _ _ => lM
    exact ⟨_, _, _, fr_norm3 (Str.ofString "marks") (Str.ofString "sizes") (Str.ofString "end") F' rfl rfl rfl, N', lM⟩
  clear F' N'
  refine for_share (S := fun Q => ∀ (Mk : Addr) (vs : List Value) (nM : Nat) (u : Str → Option Value) (h' : Heap) (tk' : Nat) (gens : Array GenState), IntsAre vs fin → (∀ x ∈ fin, 0 ≤ x ∧ x ≤ 20) → fin.length ≤ 21 → AllBare gens → L' + 1 ≠ Mk →
      Fr g' L' h' (fun y => if y = Str.ofString "marks" then some (.ref Mk) else u y) → News g' L' h' ((Mk, W.listOf vs.toArray nM) :: (L' + 1, oC) :: (D, W.listOf #[.int a ta, .int b tb, .int c tc] nn) :: news) → Q .next { s with heap := h', toks := tk', gens := gens }) ?_ ?_
  · intro Mk vs nM u h2 tk2 gens hI hfb hfl hbg hCM F2 N2
    clear F0 N0
    dsimp only
    (try k_fold)
    k_steps
    unfold Rest
    refine wpAny_noRaise ?_
    refine LCg.ListComp_U (F₀ := F2) (by rfl) (by decide) (by rfl) (by decide) (by rfl) ?_
    k_steps
    unfold Rest
    have hz : vs.toArray.size ≤ sizeLine := by
      have := hI.length
      have e2 : sizeLine = 16777216 := by rw [sizeLine_eq]
      rw [List.size_toArray]; omega
    refine LCg.CompSrc.ledger rfl F2 N2 (.head _) hz ?_
    intro g2
    refine comp_all (fun i y => ∃ x t, fin[i]? = some x ∧ y = Value.int (2 ^ x.toNat) t) (Or.inr ⟨_, .head _, rfl, _, rfl⟩) ?_ ?_
    · intro i v I oI C oC D ys m₂ h tk hi hP hC hx F N
      obtain ⟨x, tx, hfx, rfl⟩ : ∃ x tx, fin[i]? = some x ∧ v = .int x tx := by
        have hi' : i < fin.length := by
          have := hI.length
          rw [List.size_toArray] at hi
          omega
        obtain ⟨tx, htx⟩ := hI.get i fin[i] (by simp [hi'])
        have hP' : vs[i]? = some v := by simpa using hP
        rw [htx] at hP'
        exact ⟨fin[i], tx, by simp [hi'], (Option.some.inj hP').symm⟩
      have hx1 : 0 ≤ x := (hfb x (List.mem_of_getElem? hfx)).1
      have hx2 : x ≤ 20 := (hfb x (List.mem_of_getElem? hfx)).2
      clear F2 N2
      k_steps
      exact EltEnd.mk ⟨x, _, hfx, rfl⟩ (by k_asm) N fun p hp => hp
    · intro ys hlen hG
      unfold LCg.FinE
      intro Dl h3 tk3 F3 N3 off3
      clear F2 N2
      simp only [LCg.Off1] at off3
      have hMC : Mk ≠ L' + 1 := Ne.symm hCM
      have hAl : AllLt (L' + 1) news := allLt_of fun p hp => Nat.lt_succ_of_lt (kst_ltOf l1.2 p hp)
      have hIy : IntsAre ys (fin.map fun x => 2 ^ x.toNat) := by
        refine ints_of_each (by rw [hlen, List.size_toArray, hI.length, List.length_map]) fun i y hy => ?_
        obtain ⟨x, tx, hfx, rfl⟩ := hG i y hy
        exact ⟨_, tx, by rw [List.getElem?_map, hfx]; rfl, rfl⟩
      have hS1 : 0 ≤ (List.map (fun x : Int => (2 : Int) ^ x.toNat) fin).sum := (flags_bound fin hfb).1
      have hS2 : (List.map (fun x : Int => (2 : Int) ^ x.toNat) fin).sum < 4294967296 := by have := (flags_bound fin hfb).2; unfold flagsOf at this; omega
      k_steps
      unfold Rest
      rename Fr _ _ _ _ => F4
      rename News _ _ _ _ => N4
      refine wpAny_noRaise ?_
      refine LCg.ListComp_U (F₀ := F4) (by rfl) (by decide) (by rfl) (by decide) (by rfl) ?_
      k_steps
      unfold Rest
      rename Fr _ _ _ _ => F4
      rename News _ _ _ _ => N4
      rename IsRange _ _ _ _ _ _ _ _ => R4
      refine LCg.CompSrc.range (n := 8) rfl F4 N4 R4 (by decide) (by decide) (by rw [sizeLine_eq]; decide) ?_
      intro g4
      refine comp_all (fun i y => ∃ t, y = Value.str (pretty (Builtin.bitAnd (fin.map fun x : Int => (2 : Int) ^ x.toNat).sum (((fin.map fun x : Int => (2 : Int) ^ x.toNat).sum).fdiv (2 ^ (1 + (i : Int)).toNat)))) t) trivial ?_ ?_
      · intro i v I oI C oC D ys m₂ h tk hi hP hC hx F N
        clear F4 N4 R4
        obtain ⟨tv, rfl⟩ := hP
        k_steps
        rename News _ _ _ _ => N5
        exact EltEnd.mk ⟨_, rfl⟩ (by k_asm) N5 fun p hp => hp
      · intro ys2 hlen2 hG2
        unfold LCg.FinE
        intro Dr h5 tk5 F5 N5 off5
        clear F4 N4 R4
        have hIs2 : StrsAre ys2 (runTexts a b c e) := by
          refine strs_of_each (by rw [hlen2]; simp [runTexts]) fun i y hy => ?_
          obtain ⟨ty, rfl⟩ := hG2 i y hy
          have hi : i < 8 := by
            rcases Nat.lt_or_ge i 8 with q | q
            · exact q
            · rw [List.getElem?_eq_none (by omega)] at hy; cases hy
          have e1 : (1 + (i : Int)).toNat = i + 1 := by omega
          exact ⟨_, ty, by rw [hfin, e1]; simp [runTexts, hi], rfl⟩
        k_steps
        rename News _ _ _ _ => N6
        refine hret _ ys2 ys2.length _ _ _ hIs2 hbg (by k_asm) fun p hp => N6 p ?_
        simp only [List.mem_cons] at hp ⊢
        rcases hp with q | q | q
        · exact .inl q
        · exact .inr (.inr (.inr (.inr (.inl q))))
        · exact .inr (.inr (.inr (.inr (.inr q))))
  · intro Q' hS
    refine wpAny_noRaise ?_
    refine for_gen ?_
    have hys : ∀ j y, ysOf a b c e j = some y → 1 ≤ y ∧ y ≤ 4 := ysOf_ok ha hb hc
    have hrest : ∀ p ∈ (L' + 1, oC) :: (D, W.listOf #[Value.int a ta, .int b tb, .int c tc] nn) :: news, p.1 ≠ Mk0 := by
      intro p hp
      simp only [List.mem_cons] at hp
      rcases hp with rfl | rfl | hp
      · exact Nat.ne_of_lt lM.1
      · exact Nat.ne_of_lt lM.2.1
      · exact allLt_ne lM.2.2 p hp
    rcases he with rfl | rfl | rfl
    · k_steps
      rename Fr _ _ _ _ => F6
      rename News _ _ _ _ => N6
      rename _ ∧ _ ∧ _ ∧ _ ∧ _ ∧ _ ∧ _ ∧ AllLt _ _ => l6
      refine call_gen X' T' F6 N6 (by ktr_room) ?_
      intro ga Lg h7 tk7 oL og F7 N7 Fg hlt hLL hga hIs
      refine ⟨ga, _, rfl, hIs, ?_⟩
      refine run_loop (ys := ysOf a b c 0) (Mk := Mk0) (rest := (L' + 1, oC) :: (D, W.listOf #[Value.int a ta, .int b tb, .int c tc] nn) :: news) X' T' rfl (by ktr_room) F7 rfl (news_gen N7) Fg hIs (by simp) (AllBare.push hbare rfl) (.cons _ _ (.cons _ _ (.cons _ _ .nil))) (tells_base ha hb hc tells0) hys ?_ ?_ ?_ hga hrest ?_
      · exact hlt _ (.head _)
      · intro p hp
        simp only [List.mem_cons] at hp
        rcases hp with rfl | rfl | rfl | hp
        · exact Nat.ne_of_lt l6.2.2.2.2.1
        · exact Nat.ne_of_lt l6.2.2.2.2.2.1
        · exact Nat.ne_of_lt l6.2.2.2.2.2.2.1
        · exact allLt_ne l6.2.2.2.2.2.2.2 p hp
      · intro p hp
        exact hlt p (.tail _ (.tail _ (.tail _ (.tail _ (.tail _ hp)))))
      · intro Mk vs nM u h' tk' gens h1 h2 h3 h4 h5 F8 N8
        exact hS Mk vs nM u h' tk' gens (hfin ▸ h1) (hfin ▸ h2) (hfin ▸ h3) h5 (h4 _ (.head _)) F8 N8
    · k_steps
      rename Fr _ _ _ _ => F6
      rename News _ _ _ _ => N6
      rename _ ∧ _ ∧ _ ∧ _ ∧ _ ∧ _ ∧ _ ∧ AllLt _ _ => l6
      refine call_gen X' T' F6 N6 (by ktr_room) ?_
      intro ga Lg h7 tk7 oL og F7 N7 Fg hlt hLL hga hIs
      refine ⟨ga, _, rfl, hIs, ?_⟩
      refine run_loop (ys := ysOf a b c 1) (Mk := Mk0) (rest := (L' + 1, oC) :: (D, W.listOf #[Value.int a ta, .int b tb, .int c tc] nn) :: news) X' T' rfl (by ktr_room) F7 rfl (news_gen N7) Fg hIs (by simp) (AllBare.push hbare rfl) (.cons _ _ (.cons _ _ (.cons _ _ (.cons _ _ (.cons _ _ .nil))))) (tells_base ha hb hc tells1) hys ?_ ?_ ?_ hga hrest ?_
      · exact hlt _ (.head _)
      · intro p hp
        simp only [List.mem_cons] at hp
        rcases hp with rfl | rfl | rfl | hp
        · exact Nat.ne_of_lt l6.2.2.2.2.1
        · exact Nat.ne_of_lt l6.2.2.2.2.2.1
        · exact Nat.ne_of_lt l6.2.2.2.2.2.2.1
        · exact allLt_ne l6.2.2.2.2.2.2.2 p hp
      · intro p hp
        exact hlt p (.tail _ (.tail _ (.tail _ (.tail _ (.tail _ hp)))))
      · intro Mk vs nM u h' tk' gens h1 h2 h3 h4 h5 F8 N8
        exact hS Mk vs nM u h' tk' gens (hfin ▸ h1) (hfin ▸ h2) (hfin ▸ h3) h5 (h4 _ (.head _)) F8 N8
    · k_steps
      rename Fr _ _ _ _ => F6
      rename News _ _ _ _ => N6
      rename _ ∧ _ ∧ _ ∧ _ ∧ _ ∧ _ ∧ _ ∧ AllLt _ _ => l6
      refine call_gen X' T' F6 N6 (by ktr_room) ?_
      intro ga Lg h7 tk7 oL og F7 N7 Fg hlt hLL hga hIs
      refine ⟨ga, _, rfl, hIs, ?_⟩
      refine run_loop (ys := ysOf a b c 2) (Mk := Mk0) (rest := (L' + 1, oC) :: (D, W.listOf #[Value.int a ta, .int b tb, .int c tc] nn) :: news) X' T' rfl (by ktr_room) F7 rfl (news_gen N7) Fg hIs (by simp) (AllBare.push hbare rfl) (.cons _ _ (.cons _ _ (.cons _ _ (.cons _ _ (.cons _ _ .nil))))) (tells_base ha hb hc tells2) hys ?_ ?_ ?_ hga hrest ?_
      · exact hlt _ (.head _)
      · intro p hp
        simp only [List.mem_cons] at hp
        rcases hp with rfl | rfl | rfl | hp
        · exact Nat.ne_of_lt l6.2.2.2.2.1
        · exact Nat.ne_of_lt l6.2.2.2.2.2.1
        · exact Nat.ne_of_lt l6.2.2.2.2.2.2.1
        · exact allLt_ne l6.2.2.2.2.2.2.2 p hp
      · intro p hp
        exact hlt p (.tail _ (.tail _ (.tail _ (.tail _ (.tail _ hp)))))
      · intro Mk vs nM u h' tk' gens h1 h2 h3 h4 h5 F8 N8
        exact hS Mk vs nM u h' tk' gens (hfin ▸ h1) (hfin ▸ h2) (hfin ▸ h3) h5 (h4 _ (.head _)) F8 N8
end Mine
end
section
open PySem PySem.W PySem.Calls PyProof.Rows PySem.Spec
namespace Mine
section
variable {prog : Program} {w : World} {A : Around} {E : Value → Shared → Prop} {s : Shared} {env : Env} {h₀ : Heap}
def IsIt (o : Obj) (l : Addr) (i : Nat) : Prop := o.cls = .type "list_iterator" ∧ o.data = .fields #[.ref l, .int i 0]
theorem loop_list {x : Str} {px : Pos} {body orelse : List Stmt} {Q : Flow → Shared → Prop} {I l : Addr} {oI : Obj} {vs : List Value} {nl : Nat} {m : Str → Option Value} {news : List (Addr × Obj)}
    (J : Nat → (Str → Option Value) → List (Addr × Obj) → Prop) (hJl : ∀ i m₁ nw, J i m₁ nw → (l, W.listOf vs.toArray nl) ∈ nw)
    (hh : A.handled = none) (hx : env.kindOf x = some .local) (hp : (env.scope.kind == .class || (env.scope.kind == .module && env.locals != env.globals)) = false)
    (F : Fr h₀ env.locals s.heap m) (N : News h₀ env.locals s.heap ((I, oI) :: news)) (hoI : IsIt oI l 0) (hI : I ∉ news.map (·.1)) (h0 : J 0 m news)
    (turn : ∀ (i : Nat) (v : Value) (oI' : Obj) (m₁ : Str → Option Value) (news₁ : List (Addr × Obj)) (h : Heap) (tk : Nat), vs[i]? = some v → J i m₁ news₁ → news₁.map (·.1) = news.map (·.1) →
      Fr h₀ env.locals h (fun y => if y = x then some v else m₁ y) → News h₀ env.locals h ((I, oI') :: news₁) →
      wpAny (model prog w) A (execs body env) (TurnEnd h₀ env.locals I oI' (news.map (·.1)) (J (i + 1)) s Q) E { s with heap := h, toks := tk })
    (done : ∀ (m₁ : Str → Option Value) (news₁ : List (Addr × Obj)) (h : Heap) (tk : Nat), J vs.length m₁ news₁ → news₁.map (·.1) = news.map (·.1) → Fr h₀ env.locals h m₁ → News h₀ env.locals h news₁ → wpAny (model prog w) A (execs orelse env) Q E { s with heap := h, toks := tk })
    (hE : PassesOwn (model prog w) A env E) :
    codeAny (model prog w) A (.forLoop (.Name x px) (.ref I) body orelse env) (fun r s' => match r with | .ok f => Q f s' | .error e => cameBackBy (model prog w) A env E e s') s := by
  refine codeAny_forLoop (fun k s' => ∃ h' tk m' news' i oI', s' = { s with heap := h', toks := tk } ∧ Fr h₀ env.locals h' m' ∧ News h₀ env.locals h' ((I, oI') :: news') ∧ IsIt oI' l i ∧
      news'.map (·.1) = news.map (·.1) ∧ J i m' news' ∧ i ≤ vs.length ∧ k = vs.length + 1 - i) ?_ (vs.length + 1) ⟨s.heap, s.toks, m, news, 0, oI, rfl, F, N, hoI, rfl, h0, Nat.zero_le _, rfl⟩
  rintro k s' ⟨h', tk, m', news', i, oI', rfl, F', N', hit, ha, hJ, hi, rfl⟩
  have hI' : I ∉ news'.map (·.1) := by rw [ha]; exact hI
  have hn := N' (I, oI') (.head _)
  have hit' : h'.IsListIter I l i := ⟨oI', hn.1, hit.1, hit.2⟩
  have hls : h'.IsList l vs.toArray := ⟨_, (N' _ (.tail _ (hJl i m' news' hJ))).1, rfl, _, rfl⟩
  by_cases hlt : i < vs.length
  · refine wpAny_pyNext_list_item (s := { s with heap := h', toks := tk }) (x := vs[i]) hit' hls (by simp [hlt]) fun h₁ hit₁ hs₁ => ?_
    obtain ⟨F₁, N₁⟩ := fr_same F' N' hI' hs₁.extBut
    obtain ⟨o₁, e₁, c₁, d₁⟩ := hit₁
    refine wpAny_assign_Name (wpAny_storeName_local hx F₁.ns (fun h₂ hn₂ hs₂ => ?_) hp)
    have N₂ : News h₀ env.locals h₁ ((I, o₁) :: news') := by
      intro p hp
      rcases List.mem_cons.mp hp with rfl | hp
      · exact ⟨e₁, hn.2⟩
      · exact N₁ p hp
    refine wpAny_mono (wpAny_passesOwn hE (turn i vs[i] o₁ m' news' h₂ _ (by simp [hlt]) hJ ha (F₁.set hn₂ hs₂) (N₂.set hs₂))) (fun f s₃ h₃ => ?_) fun _ _ e => e
    cases f with
    | ret v => exact h₃
    | brk => exact h₃
    | next =>
      obtain ⟨h₄, tk₄, m₄, news₄, rfl, F₄, N₄, ha₄, hJ₄⟩ := h₃
      exact ⟨vs.length + 1 - (i + 1), by omega, h₄, tk₄, m₄, news₄, i + 1, o₁, rfl, F₄, N₄, ⟨c₁, d₁⟩, ha₄, hJ₄, hlt, rfl⟩
    | cont =>
      obtain ⟨h₄, tk₄, m₄, news₄, rfl, F₄, N₄, ha₄, hJ₄⟩ := h₃
      exact ⟨vs.length + 1 - (i + 1), by omega, h₄, tk₄, m₄, news₄, i + 1, o₁, rfl, F₄, N₄, ⟨c₁, d₁⟩, ha₄, hJ₄, hlt, rfl⟩
  · have hin : i = vs.length := by omega
    subst hin
    refine wpAny_pyNext_list_end (s := { s with heap := h', toks := tk }) hh hit' hls (by simp) fun h₁ hs₁ => ?_
    obtain ⟨F₁, N₁⟩ := fr_same F' N' hI' hs₁
    exact wpAny_passesOwn hE (done m' news' h₁ tk hJ ha F₁ N₁)
/-- what stands behind the iterated expression, for a list of the ledger -/
def AtList (prog : Program) (w : World) (A : Around) (h₀ : Heap) (env : Env) (x : Str) (body orelse : List Stmt) (Q : Flow → Shared → Prop) (E : Value → Shared → Prop) (xv : Value) (s : Shared) : Prop :=
  ∃ (l : Addr) (vs : List Value) (nl : Nat) (m : Str → Option Value) (news : List (Addr × Obj)) (J : Nat → (Str → Option Value) → List (Addr × Obj) → Prop),
    xv = .ref l ∧ (∀ i m₁ nw, J i m₁ nw → (l, W.listOf vs.toArray nl) ∈ nw) ∧ Fr h₀ env.locals s.heap m ∧ News h₀ env.locals s.heap news ∧ J 0 m news ∧
    (∀ (I : Addr) (i : Nat) (v : Value) (oI' : Obj) (m₁ : Str → Option Value) (news₁ : List (Addr × Obj)) (h : Heap) (tk : Nat), (∀ p ∈ news, p.1 < I) → vs[i]? = some v → J i m₁ news₁ → news₁.map (·.1) = news.map (·.1) →
      Fr h₀ env.locals h (fun y => if y = x then some v else m₁ y) → News h₀ env.locals h ((I, oI') :: news₁) →
      wpAny (model prog w) A (execs body env) (TurnEnd h₀ env.locals I oI' (news.map (·.1)) (J (i + 1)) s Q) E { s with heap := h, toks := tk }) ∧
    (∀ (m₁ : Str → Option Value) (news₁ : List (Addr × Obj)) (h : Heap) (tk : Nat), J vs.length m₁ news₁ → news₁.map (·.1) = news.map (·.1) → Fr h₀ env.locals h m₁ → News h₀ env.locals h news₁ → wpAny (model prog w) A (execs orelse env) Q E { s with heap := h, toks := tk })
theorem for_list {x : Str} {px pos : Pos} {iter : Expr} {body orelse : List Stmt} {Q : Flow → Shared → Prop} {mF : Str → Option Value} (_F : Fr h₀ env.locals s.heap mF)
    (hh : A.handled = none) (hx : env.kindOf x = some .local) (hp : (env.scope.kind == .class || (env.scope.kind == .module && env.locals != env.globals)) = false)
    (h : wpAny (model prog w) A (eval iter env) (fun xv s₁ => AtList prog w A h₀ env x body orelse Q E xv s₁) E s)
    (hE : PassesOwn (model prog w) A env E) (hs : ∀ x, foldedSetIterable iter env x = pure x := by intro _; rfl) :
    wpAny (model prog w) A (exec (.For (.Name x px) iter body orelse pos) env) Q E s := by
  refine wpAny_For (wpAny_mono h (fun xv s₁ h₁ => ?_) fun _ _ e => e) hs
  obtain ⟨l, vs, nl, m, news, J, rfl, hJl, F, N, h0, turn, done⟩ := h₁
  have hls : s₁.heap.IsList l vs.toArray := ⟨_, (N _ (hJl 0 m news h0)).1, rfl, _, rfl⟩
  refine wpAny_pyIter_list hls ?_
  have hlt : ∀ p ∈ news, p.1 < s₁.heap.objs.size := fun p hp => Heap.lt_size (N p hp).1
  exact loop_list (s := { s₁ with heap := s₁.heap.push _ }) J hJl hh hx hp (F.push _) (News.push F N _) ⟨rfl, rfl⟩ (fun hm => by
    obtain ⟨p, hp, e⟩ := List.mem_map.mp hm
    exact absurd (hlt p hp) (by rw [e]; exact Nat.lt_irrefl _)) h0 (fun i v oI' m₁ news₁ h tk => turn _ i v oI' m₁ news₁ h tk hlt) done hE
end
/-! the rows -/
def rowsLed (rl : List (Addr × List Value)) : List (Addr × Obj) := rl.map fun p => (p.1, LCg.lst p.2)
def addrs (rl : List (Addr × List Value)) : List Addr := rl.map (·.1)
theorem rowsLed_fst (rl : List (Addr × List Value)) : (rowsLed rl).map (·.1) = addrs rl := by simp [rowsLed, addrs]
theorem rowsLed_split {rl : List (Addr × List Value)} {j : Nat} {p : Addr × List Value} (h : rl[j]? = some p) : ∃ a b, rl = a ++ p :: b ∧ a.length = j := by
  have hj : j < rl.length := by
    rcases Nat.lt_or_ge j rl.length with q | q
    · exact q
    · rw [List.getElem?_eq_none q] at h; cases h
  refine ⟨rl.take j, rl.drop (j + 1), ?_, by simp; omega⟩
  have e : rl[j] = p := by rw [List.getElem?_eq_getElem hj] at h; exact Option.some.inj h
  rw [← e]
  simp
section
variable {prog : Program} {w : World} {A : Around} {s : Shared} {h₀ : Heap} {L : Addr} {m : Str → Option Value} {env : Env} {elt : Expr} {x : Str} {scope : Scope} {cl : List (Str × Addr)}
/-- what an element that makes a list leaves -/
def NewEnd (h₀ : Heap) (L : Addr) (m : Str → Option Value) (s : Shared) (news : List (Addr × Obj)) (y : Value) (s' : Shared) : Prop :=
  ∃ a h' tk', y = .ref a ∧ s' = { s with heap := h', toks := tk' } ∧ Fr h₀ L h' m ∧ News h₀ L h' ((a, LCg.lst []) :: news) ∧ ∀ p ∈ news, p.1 < a
abbrev empties (ra : List Addr) : List (Addr × List Value) := ra.map fun a => (a, [])
theorem comp_empties {P : Nat → Value → Prop} {Fin : List Value → List (Addr × Obj) → Prop} {n : Nat} {news : List (Addr × Obj)}
    (elt_ok : ∀ (I : Addr) (oI : Obj) (C : Addr) (oC : Obj) (D : Addr) (ys : List Value) (nws : List (Addr × Obj)) (h : Heap) (tk : Nat), Fr h₀ L h m → News h₀ L h ((I, oI) :: (C, oC) :: (D, LCg.lst ys) :: nws) →
      wpAny (model prog w) A (eval elt (compEnvC scope cl C env)) (NewEnd h₀ L m s ((I, oI) :: (C, oC) :: (D, LCg.lst ys) :: nws)) (fun _ _ => False) { s with heap := h, toks := tk })
    (fin : ∀ ra : List Addr, ra.length = n → ra.Nodup → (∀ a ∈ ra, ∀ p ∈ news, p.1 ≠ a) → Fin (ra.map Value.ref) (rowsLed (empties ra) ++ news)) :
    LCg.CompRest prog w A h₀ L m env elt x scope cl s (fun _ => True) P Fin n 0 [] news := by
  have go : ∀ (k i : Nat) (ra : List Addr), i + k = n → ra.length = i → ra.Nodup → (∀ a ∈ ra, ∀ p ∈ news, p.1 ≠ a) → LCg.CompRest prog w A h₀ L m env elt x scope cl s (fun _ => True) P Fin k i (ra.map Value.ref) (rowsLed (empties ra) ++ news) := by
    intro k
    induction k with
    | zero =>
      intro i ra hi hl hnd ho
      exact LCg.CompRest.zero (fin ra (by omega) hnd ho)
    | succ k ih =>
      intro i ra hi hl hnd ho
      refine LCg.CompRest.succ ?_
      intro v I oI C oC D m₂ h tk E' hP hC hx F N off ne
      refine wpAny_mono (elt_ok I oI C oC D _ _ h tk F N) (fun y s' hy => ?_) fun _ _ e => e.elim
      obtain ⟨a, h', tk', rfl, rfl, F', N', hlt⟩ := hy
      have hmem : ∀ p ∈ rowsLed (empties (ra ++ [a])) ++ news, p = (a, LCg.lst []) ∨ p ∈ rowsLed (empties ra) ++ news := by
        intro p hp
        rcases List.mem_append.mp hp with q | q
        · unfold rowsLed empties at q
          rw [List.map_append, List.map_append] at q
          rcases List.mem_append.mp q with r | r
          · exact .inr (List.mem_append_left _ r)
          · exact .inl (by simpa using r)
        · exact .inr (List.mem_append_right _ q)
      have e : (ra.map Value.ref) ++ [Value.ref a] = (ra ++ [a]).map Value.ref := by simp
      refine ⟨h', tk', rowsLed (empties (ra ++ [a])) ++ news, rfl, F', ?_, ?_, trivial, ?_⟩
      · intro p hp
        simp only [List.mem_cons] at hp
        rcases hp with rfl | rfl | rfl | hp
        · exact N' _ (.tail _ (.head _))
        · exact N' _ (.tail _ (.tail _ (.head _)))
        · exact N' _ (.tail _ (.tail _ (.tail _ (.head _))))
        · rcases hmem p hp with rfl | q
          · exact N' _ (.head _)
          · exact N' _ (.tail _ (.tail _ (.tail _ (.tail _ q))))
      · refine LCg.Off3.of fun p hp => ?_
        rcases hmem p hp with rfl | q
        · exact ⟨Nat.ne_of_gt (hlt _ (.head _)), Nat.ne_of_gt (hlt _ (.tail _ (.head _))), Nat.ne_of_gt (hlt _ (.tail _ (.tail _ (.head _))))⟩
        · exact LCg.Off3.mem off p q
      · show LCg.CompRest prog w A h₀ L m env elt x scope cl s (fun _ => True) P Fin k (i + 1) ((ra.map Value.ref) ++ [Value.ref a]) _
        rw [e]
        have hal : ∀ p ∈ rowsLed (empties ra) ++ news, p.1 < a := fun p hp => hlt p (.tail _ (.tail _ (.tail _ hp)))
        refine ih (i + 1) (ra ++ [a]) (by omega) (by simp [hl]) ?_ ?_
        · refine List.nodup_append.mpr ⟨hnd, by simp, fun b hb c hc => ?_⟩
          rw [List.mem_singleton.mp hc]
          have : (b, LCg.lst []) ∈ rowsLed (empties ra) ++ news := List.mem_append_left _ (by
            unfold rowsLed empties
            simp only [List.map_map, List.mem_map]
            exact ⟨b, hb, rfl⟩)
          exact Nat.ne_of_lt (hal _ this)
        · intro b hb p hp
          rcases List.mem_append.mp hb with q | q
          · exact ho b q p hp
          · rw [List.mem_singleton.mp q]
            exact Nat.ne_of_lt (hal p (List.mem_append_right _ hp))
  exact go n 0 [] (by omega) rfl List.nodup_nil (fun a ha => by simp at ha)
end
end Mine
end
section
open PySem PySem.W PySem.Calls PyProof.Rows PySem.Spec
namespace Mine
def tDef : Stmt := Challenge.pw_pe0033_01.main.body.getD 10 none0
def tFor : Stmt := (fnBody tDef).getD 2 none0
def tInner : Stmt := (stBody tFor).getD 1 none0
def tBody : List Stmt := stBody tInner
abbrev tenv (L : Addr) : Env := envOf (Str.ofString "_law_told") (fnScope tDef) L 51 (.ref 50)
/-! the plain reading -/
def putAt (P : List (List Nat)) (far start : Nat) : List (List Nat) := P.modify far (· ++ [start])
def innerStep (start : Nat) (st : Nat × List (List Nat)) (size : Nat) : Nat × List (List Nat) :=
  if st.1 + size < 9 ∧ start + (st.1 + size) ≤ 20 then (st.1 + size, putAt st.2 (st.1 + size) start) else (st.1 + size, st.2)
def innerRun (start : Nat) (sizes : List Nat) (P : List (List Nat)) : Nat × List (List Nat) := sizes.foldl (innerStep start) (0, P)
def toldStep (row : List Nat) (P : List (List Nat)) (first : Nat) : List (List Nat) := (innerRun (row.take first).sum (row.drop first) P).2
def toldP (row : List Nat) (n : Nat) : List (List Nat) := (List.range n).foldl (toldStep row) (List.replicate 9 [])
def ToldRel (bd : Nat) (rl : List (Addr × List Value)) (P : List (List Nat)) : Prop := rl.length = P.length ∧ ∀ (j : Nat) (p : Addr × List Value) (ps : List Nat), rl[j]? = some p → P[j]? = some ps → StrsAre p.2 (ps.map wordAt) ∧ p.2.length ≤ bd
def innJ (Sl I Rw Rs : Addr) (slv vs : List Value) (nsl nv : Nat) (oI : Obj) (ra : List Addr) (news : List (Addr × Obj)) (start : Nat) (sizes : List Nat) (P : List (List Nat)) (b0 : Nat) (k : Nat) (m : Str → Option Value) (nw : List (Addr × Obj)) : Prop :=
  ∃ (u : Str → Option Value) (rl : List (Addr × List Value)) (tf ts : Tok), m = (fun y => if y = Str.ofString "far" then some (.int ((innerRun start (sizes.take k) P).1 : Nat) tf) else if y = Str.ofString "start" then some (.int (start : Nat) ts) else if y = Str.ofString "rows" then some (.ref Rs) else if y = Str.ofString "row" then some (.ref Rw) else u y) ∧
    nw = (Sl, W.listOf slv.toArray nsl) :: (I, oI) :: (Rw, W.listOf vs.toArray nv) :: (Rs, LCg.lst (ra.map Value.ref)) :: (rowsLed rl ++ news) ∧ addrs rl = ra ∧ ToldRel (b0 + k) rl (innerRun start (sizes.take k) P).2
theorem norm4 {m : Str → Option Value} {a b c d : Str} {x y z v : Option Value} (h1 : m a = x) (h2 : m b = y) (h3 : m c = z) (h4 : m d = v) : m = fun w => if w = a then x else if w = b then y else if w = c then z else if w = d then v else m w := by
  funext w
  by_cases ha : w = a
  · rw [if_pos ha, ha, h1]
  · rw [if_neg ha]
    by_cases hb : w = b
    · rw [if_pos hb, hb, h2]
    · rw [if_neg hb]
      by_cases hc : w = c
      · rw [if_pos hc, hc, h3]
      · rw [if_neg hc]
        by_cases hd : w = d
        · rw [if_pos hd, hd, h4]
        · rw [if_neg hd]
theorem innerRun_succ {start k sz : Nat} {sizes : List Nat} {P : List (List Nat)} (h : sizes[k]? = some sz) : innerRun start (sizes.take (k + 1)) P = innerStep start (innerRun start (sizes.take k) P) sz := by
  unfold innerRun
  rw [List.take_add_one, h]
  simp
theorem toldRel_mono {bd bd' : Nat} {rl : List (Addr × List Value)} {P : List (List Nat)} (h : ToldRel bd rl P) (hb : bd ≤ bd') : ToldRel bd' rl P :=
  ⟨h.1, fun j p ps h1 h2 => ⟨(h.2 j p ps h1 h2).1, Nat.le_trans (h.2 j p ps h1 h2).2 hb⟩⟩
theorem toldRel_put {bd j start : Nat} {la lb : List (Addr × List Value)} {A : Addr} {W : List Value} {P : List (List Nat)} {t : Tok} (h : ToldRel bd (la ++ (A, W) :: lb) P) (hj : la.length = j) :
    ToldRel (bd + 1) (la ++ (A, W ++ [.str (wordAt start) t]) :: lb) (putAt P j start) := by
  refine ⟨?_, fun i p ps h1 h2 => ?_⟩
  · have := h.1
    simp only [List.length_append, List.length_cons, putAt, List.length_modify] at this ⊢
    exact this
  · unfold putAt at h2
    rw [List.getElem?_modify] at h2
    by_cases hij : j = i
    · subst hij
      have e1 : p = (A, W ++ [.str (wordAt start) t]) := by
        rw [List.getElem?_append_right (by omega), hj, Nat.sub_self] at h1
        exact (Option.some.inj h1).symm
      subst e1
      cases hP : P[j]? with
      | none => rw [hP] at h2; simp at h2
      | some q =>
        rw [hP] at h2
        simp at h2
        subst h2
        have := h.2 j (A, W) q (by rw [List.getElem?_append_right (by omega), hj, Nat.sub_self]; rfl) hP
        refine ⟨?_, ?_⟩
        · rw [List.map_append]
          exact strsAre_append this.1 (.cons _ _ .nil)
        · have h3 := this.2
          simp only [List.length_append, List.length_singleton]
          dsimp only at h3
          omega
    · have h2' : P[i]? = some ps := by
        simp only [if_neg hij] at h2
        simpa using h2
      have h1' : (la ++ (A, W) :: lb)[i]? = some p := by
        rcases Nat.lt_or_ge i la.length with q | q
        · rw [List.getElem?_append_left q] at h1 ⊢; exact h1
        · rw [List.getElem?_append_right q] at h1 ⊢
          obtain ⟨r, hr⟩ : ∃ r, i - la.length = r + 1 := ⟨i - la.length - 1, by omega⟩
          rw [hr] at h1 ⊢
          simpa using h1
      have := h.2 i p ps h1' h2'
      exact ⟨this.1, Nat.le_succ_of_le this.2⟩
section
variable {h₀ h' : Heap} {L : Addr} {s : Shared} {Q : Flow → Shared → Prop} {Sl I Rw Rs I2 Aj : Addr} {slv vs Wj : List Value} {nsl nv : Nat} {oI oI2 : Obj} {ra : List Addr} {news : List (Addr × Obj)} {start : Nat} {sizes : List Nat} {P : List (List Nat)} {b0 k sz fr : Nat} {adr : List Addr} {tk : Nat} {la lb rl : List (Addr × List Value)} {t7 t8 ts : Tok} {m' : Str → Option Value}
theorem put_end (hsz : sizes[k]? = some sz) (hfr : fr = (innerRun start (sizes.take k) P).1) (hc : fr + sz < 9 ∧ start + (fr + sz) ≤ 20)
    (ha : ((Sl, W.listOf slv.toArray nsl) :: (I, oI) :: (Rw, W.listOf vs.toArray nv) :: (Rs, LCg.lst (ra.map Value.ref)) :: (rowsLed (la ++ (Aj, Wj) :: lb) ++ news)).map (·.1) = adr) (hra : addrs (la ++ (Aj, Wj) :: lb) = ra)
    (hrel : ToldRel (b0 + k) (la ++ (Aj, Wj) :: lb) (innerRun start (sizes.take k) P).2) (hla : la.length = fr + sz) (F : Fr h₀ L h' m')
    (N : News h₀ L h' ((Aj, W.listOf (Wj ++ [Value.str (wordAt start) t7]).toArray (Wj.length + 1)) :: (I2, oI2) :: (Sl, W.listOf slv.toArray nsl) :: (I, oI) :: (Rw, W.listOf vs.toArray nv) :: (Rs, LCg.lst (ra.map Value.ref)) :: (rowsLed la ++ (rowsLed lb ++ news))))
    (h1 : m' (Str.ofString "far") = some (.int ((fr : Int) + (sz : Int)) t8)) (h2 : m' (Str.ofString "start") = some (.int (start : Nat) ts)) (h3 : m' (Str.ofString "rows") = some (.ref Rs)) (h4 : m' (Str.ofString "row") = some (.ref Rw)) :
    TurnEnd h₀ L I2 oI2 adr (innJ Sl I Rw Rs slv vs nsl nv oI ra news start sizes P b0 (k + 1)) s Q .next { s with heap := h', toks := tk } := by
  have hstep : innerRun start (sizes.take (k + 1)) P = (fr + sz, putAt (innerRun start (sizes.take k) P).2 (fr + sz) start) := by
    rw [innerRun_succ hsz]
    unfold innerStep
    rw [← hfr, if_pos hc]
  have e5 : (((fr + sz : Nat) : Nat) : Int) = (fr : Int) + (sz : Int) := by omega
  have e : rowsLed (la ++ (Aj, Wj ++ [Value.str (wordAt start) t7]) :: lb) = rowsLed la ++ (Aj, LCg.lst (Wj ++ [Value.str (wordAt start) t7])) :: rowsLed lb := by simp [rowsLed]
  have e6 : (Aj, LCg.lst (Wj ++ [Value.str (wordAt start) t7])) = (Aj, W.listOf (Wj ++ [Value.str (wordAt start) t7]).toArray (Wj.length + 1)) := by
    show (Aj, W.listOf (Wj ++ [Value.str (wordAt start) t7]).toArray (Wj ++ [Value.str (wordAt start) t7]).length) = _
    rw [List.length_append, List.length_singleton]
  refine ⟨h', tk, m', (Sl, W.listOf slv.toArray nsl) :: (I, oI) :: (Rw, W.listOf vs.toArray nv) :: (Rs, LCg.lst (ra.map Value.ref)) :: (rowsLed (la ++ (Aj, Wj ++ [Value.str (wordAt start) t7]) :: lb) ++ news), rfl, F, ?_, ?_, m', la ++ (Aj, Wj ++ [Value.str (wordAt start) t7]) :: lb, t8, ts, ?_, rfl, ?_, ?_⟩
  · intro p hp
    refine N p ?_
    rw [e, e6] at hp
    simp only [List.mem_cons, List.mem_append] at hp ⊢
    rcases hp with q | q | q | q | q | q
    · exact .inr (.inl q)
    · exact .inr (.inr (.inl q))
    · exact .inr (.inr (.inr (.inl q)))
    · exact .inr (.inr (.inr (.inr (.inl q))))
    · exact .inr (.inr (.inr (.inr (.inr (.inl q)))))
    · rcases q with (q | q | q) | q
      · exact .inr (.inr (.inr (.inr (.inr (.inr (.inl q))))))
      · exact .inl q
      · exact .inr (.inr (.inr (.inr (.inr (.inr (.inr (.inl q)))))))
      · exact .inr (.inr (.inr (.inr (.inr (.inr (.inr (.inr q)))))))
  · rw [← ha]; simp [rowsLed]
  · rw [hstep, e5]
    exact norm4 h1 h2 h3 h4
  · rw [← hra]; simp [addrs]
  · rw [hstep]
    exact toldRel_put hrel hla
theorem skip_end (hsz : sizes[k]? = some sz) (hc : ¬ ((innerRun start (sizes.take k) P).1 + sz < 9 ∧ start + ((innerRun start (sizes.take k) P).1 + sz) ≤ 20))
    (ha : ((Sl, W.listOf slv.toArray nsl) :: (I, oI) :: (Rw, W.listOf vs.toArray nv) :: (Rs, LCg.lst (ra.map Value.ref)) :: (rowsLed rl ++ news)).map (·.1) = adr) (hra : addrs rl = ra)
    (hrel : ToldRel (b0 + k) rl (innerRun start (sizes.take k) P).2) (F : Fr h₀ L h' m')
    (N : News h₀ L h' ((I2, oI2) :: (Sl, W.listOf slv.toArray nsl) :: (I, oI) :: (Rw, W.listOf vs.toArray nv) :: (Rs, LCg.lst (ra.map Value.ref)) :: (rowsLed rl ++ news)))
    (h1 : m' (Str.ofString "far") = some (.int (((innerRun start (sizes.take k) P).1 : Int) + (sz : Int)) t8)) (h2 : m' (Str.ofString "start") = some (.int (start : Nat) ts)) (h3 : m' (Str.ofString "rows") = some (.ref Rs)) (h4 : m' (Str.ofString "row") = some (.ref Rw)) :
    TurnEnd h₀ L I2 oI2 adr (innJ Sl I Rw Rs slv vs nsl nv oI ra news start sizes P b0 (k + 1)) s Q .next { s with heap := h', toks := tk } := by
  have hstep : innerRun start (sizes.take (k + 1)) P = ((innerRun start (sizes.take k) P).1 + sz, (innerRun start (sizes.take k) P).2) := by
    rw [innerRun_succ hsz]
    unfold innerStep
    rw [if_neg hc]
  have e5 : ((((innerRun start (sizes.take k) P).1 + sz : Nat) : Nat) : Int) = ((innerRun start (sizes.take k) P).1 : Int) + (sz : Int) := by omega
  refine ⟨h', tk, m', _, rfl, F, N, ha, m', rl, t8, ts, ?_, rfl, hra, ?_⟩
  · rw [hstep, e5]
    exact norm4 h1 h2 h3 h4
  · rw [hstep]
    exact toldRel_mono hrel (by omega)
end
section
variable {w : World} {mean : ExcName → Option Value} {mg mb : Str → Option Value} {news : List (Addr × Obj)} {f : Int} {t : Tok} {dp un : Nat} {gd : Option (List Code)} {cn : Str} {cs : Scope} {a : Addr} {ccd : Value} {cl : List (Str × Addr)} {outer : List Env} {A₀ : Around} {base h₀ : Heap} {L : Addr} {m : Str → Option Value} {s : Shared} {Q E : Value → Shared → Prop}
theorem word_call (B : Below A₀ base outer h₀) (F : Fr h₀ L s.heap m) (X : (hd.heap_39 w.params).In h₀) (N : News h₀ L s.heap news) (T : Top hd.view_39 (looseW hd.view_39 [Str.ofString "COMPILER_FLAG_NAMES"]) mean mg mb h₀) (hk : cs.kind = .function)
    (hf : 0 ≤ f ∧ f < 21) (hd : dp + 1 < recursionLimit) (hu : un + 8 < cLine) (h : ∀ t h' tk', Fr h₀ L h' m → News h₀ L h' news → Q (.str (wordAt f.toNat) t) { s with heap := h', toks := tk' }) :
    wpAny (model Challenge.rw_pe0033_01.row.prog w) (ktrTop dp un gd cn cs L a ccd cl outer) (call (.ref 46) [.int f t]) Q E s :=
  word_ok w mean mg mb news f t dp un gd cn cs a ccd cl outer A₀ base h₀ L m s Q E B F X N T hk hf hd hu h
end
local macro_rules | `(tactic| walk_at "call ref") => `(tactic| ((show wpAny _ _ (call (Value.ref 46) [Value.int _ _]) _ _ _); k_dflt (refine' word_call ?k1 ?k2 ?k3 ?k4 ?k5 ?k6 ?k7 ?k8 ?k9 ?_; (case k1 => k_asm); (case k2 => k_asm); (case k3 => k_asm); (case k4 => k_asm); (case k5 => k_asm); (case k6 => exact rfl); (case k7 => assumption); (case k8 => ktr_room); (case k9 => ktr_units)); intro t' h' tk' F' N'))
local macro_rules | `(tactic| walk_at "call builtin:list.append") => `(tactic| (k_here; (show wpAny _ _ (call (Value.builtin _) [Value.ref _, _]) _ _ _); k_dflt (refine' append_K ?k1 ?k2 ?k3 ?_ ?z; (case k1 => k_asm); (case k2 => k_asm); (case k3 => exact Upd.head (by assumption)); (case z => assumption); k_whole); intro h' F' N'))
local macro_rules | `(tactic| walk_at "subscriptTail Name Name ref int") => `(tactic| refine Rest.go ?_)
section
variable {w : World} {mean : ExcName → Option Value} {mg mb : Str → Option Value} {dp un : Nat} {gd : Option (List Code)} {outer : List Env} {A₀ : Around} {base h₀ : Heap} {L : Addr} {s : Shared}
set_option rowWalk.seconds 0
set_option maxRecDepth 100000 in
set_option maxHeartbeats 8000000 in
theorem told_turn {Q : Flow → Shared → Prop} {Sl I Rw Rs I2 : Addr} {slv vs : List Value} {nsl nv : Nat} {oI oI2 : Obj} {ra : List Addr} {news : List (Addr × Obj)} {start : Nat} {sizes : List Nat} {P : List (List Nat)} {b0 k sz : Nat} {t : Tok} {m₁ : Str → Option Value} {news₁ : List (Addr × Obj)} {adr : List Addr} {h : Heap} {tk : Nat}
    (B : Below A₀ base outer h₀) (X : (hd.heap_39 w.params).In h₀) (T : Top hd.view_39 (looseW hd.view_39 [Str.ofString "COMPILER_FLAG_NAMES"]) mean mg mb h₀) (hdp : dp + 3 < recursionLimit) (hun : un + 40 < cLine)
    (hsz : sizes[k]? = some sz) (hsz1 : 1 ≤ sz) (hbd : b0 + k ≤ 1000) (hral : ra.length = 9) (hnd : ra.Nodup) (hoff : ∀ a ∈ ra, a ≠ I2 ∧ a ≠ Sl ∧ a ≠ I ∧ a ≠ Rw ∧ a ≠ Rs ∧ ∀ p ∈ news, p.1 ≠ a) (hJ : innJ Sl I Rw Rs slv vs nsl nv oI ra news start sizes P b0 k m₁ news₁) (ha : news₁.map (·.1) = adr)
    (F : Fr h₀ L h (fun y => if y = Str.ofString "size" then some (.int (sz : Nat) t) else m₁ y)) (N : News h₀ L h ((I2, oI2) :: news₁)) :
    wpAny (model Challenge.rw_pe0033_01.row.prog w) (ktrTop dp un gd (Str.ofString "_law_told") (fnScope tDef) L 51 (.ref 50) [] outer) (execs tBody (tenv L)) (TurnEnd h₀ L I2 oI2 adr (innJ Sl I Rw Rs slv vs nsl nv oI ra news start sizes P b0 (k + 1)) s Q) (fun _ _ => False) { s with heap := h, toks := tk } := by
  obtain ⟨u, rl, tf, ts, rfl, rfl, hra, hrel⟩ := hJ
  w_on
  w_top on
  revert X
  k_fill
  intro X
  show wpAny _ _ (execs (Stmt.AugAssign _ _ _ _ :: _) (envOf _ _ _ _ _)) _ _ _
  have hsc : fnScope tDef = fnScope tDef := rfl
  conv at hsc => rhs; whnf
  simp only [hsc]
  clear hsc
  (try k_fold)
  k_steps
  · unfold Rest
    rename Fr _ _ _ _ => F'
    rename News _ _ _ _ => N'
    rename (_ : Int) < 9 => h9
    rename (_ : Int) ≤ 20 => h20
    obtain ⟨fr, hfr⟩ : ∃ fr, fr = (innerRun start (sizes.take k) P).1 := ⟨_, rfl⟩
    rw [← hfr] at h9 h20 F' ⊢
    have hrl : rl.length = 9 := by rw [← hral, ← hra]; simp [addrs]
    obtain ⟨p, hp⟩ : ∃ p, rl[fr + sz]? = some p := ⟨rl[fr + sz]'(by omega), by simp⟩
    obtain ⟨Aj, Wj⟩ := p
    obtain ⟨la, lb, rfl, hla⟩ := rowsLed_split hp
    have hAj : Aj ∈ ra := by rw [← hra]; simp [addrs]
    have hrj : (ra.map Value.ref)[((fr : Int) + (sz : Int)).toNat]? = some (.ref Aj) := by
      have e : ((fr : Int) + (sz : Int)).toNat = fr + sz := by omega
      rw [e, List.getElem?_map, ← hra]
      simp only [addrs, List.getElem?_map, hp]
      rfl
    refine item_litK (News.isList N' (.tail _ (.tail _ (.tail _ (.tail _ (.head _)))))) (by omega) (by omega) hrj ?_
    have hoffj := hoff Aj hAj
    have hnd' : ((addrs la) ++ Aj :: (addrs lb)).Nodup := by rw [← hra] at hnd; simpa [addrs] using hnd
    have N2 : News h₀ L _ ((Aj, W.listOf Wj.toArray Wj.length) :: ((I2, oI2) :: (Sl, W.listOf slv.toArray nsl) :: (I, oI) :: (Rw, W.listOf vs.toArray nv) :: (Rs, LCg.lst (ra.map Value.ref)) :: (rowsLed la ++ (rowsLed lb ++ news)))) := fun p hp => N' p (by
      have e : rowsLed (la ++ (Aj, Wj) :: lb) = rowsLed la ++ (Aj, LCg.lst Wj) :: rowsLed lb := by simp [rowsLed]
      rw [e]
      simp only [List.mem_cons, List.mem_append] at hp ⊢
      rcases hp with q | q | q | q | q | q | q | q | q
      · exact .inr (.inr (.inr (.inr (.inr (.inl (.inr (.inl q)))))))
      · exact .inl q
      · exact .inr (.inl q)
      · exact .inr (.inr (.inl q))
      · exact .inr (.inr (.inr (.inl q)))
      · exact .inr (.inr (.inr (.inr (.inl q))))
      · exact .inr (.inr (.inr (.inr (.inr (.inl (.inl q))))))
      · exact .inr (.inr (.inr (.inr (.inr (.inl (.inr (.inr q)))))))
      · exact .inr (.inr (.inr (.inr (.inr (.inr q))))))
    have hoffN : ∀ p ∈ (I2, oI2) :: (Sl, W.listOf slv.toArray nsl) :: (I, oI) :: (Rw, W.listOf vs.toArray nv) :: (Rs, LCg.lst (ra.map Value.ref)) :: (rowsLed la ++ (rowsLed lb ++ news)), p.1 ≠ Aj := by
      intro p hp
      simp only [List.mem_cons, List.mem_append] at hp
      rcases hp with rfl | rfl | rfl | rfl | rfl | q | q | q
      · exact Ne.symm hoffj.1
      · exact Ne.symm hoffj.2.1
      · exact Ne.symm hoffj.2.2.1
      · exact Ne.symm hoffj.2.2.2.1
      · exact Ne.symm hoffj.2.2.2.2.1
      · have : p.1 ∈ addrs la := by rw [← rowsLed_fst]; exact List.mem_map_of_mem q
        exact (List.nodup_append.mp hnd').2.2 p.1 this Aj (.head _)
      · have : p.1 ∈ addrs lb := by rw [← rowsLed_fst]; exact List.mem_map_of_mem q
        have h3 := (List.nodup_cons.mp (List.nodup_append.mp hnd').2.1).1
        exact fun q => h3 (q ▸ this)
      · exact hoffj.2.2.2.2.2 p q
    have hP9 : ∃ ps, (innerRun start (sizes.take k) P).2[fr + sz]? = some ps := ⟨_, List.getElem?_eq_getElem (by rw [← hrel.1, hrl]; omega)⟩
    obtain ⟨ps, hps⟩ := hP9
    have hsl : Wj.toArray.size ≤ sizeLine := by
      have := (hrel.2 _ _ _ hp hps).2
      have e2 : sizeLine = 16777216 := by rw [sizeLine_eq]
      dsimp only at this
      rw [List.size_toArray]; omega
    have hst : 0 ≤ (start : Int) ∧ (start : Int) < 21 := by omega
    clear N'
    dsimp only
    k_steps
    rename Fr _ _ _ _ => F7
    rename News _ _ _ _ => N7
    rw [List.push_toArray] at N7
    have e0 : ((start : Int)).toNat = start := by omega
    rw [e0] at N7
    exact put_end hsz hfr (by omega) ha hra hrel hla F7 N7 rfl rfl rfl rfl
  · rename Fr _ _ _ _ => F'
    rename News _ _ _ _ => N'
    rename ¬ (_ : Int) ≤ 20 => h20
    exact skip_end hsz (by omega) ha hra hrel F' N' rfl rfl rfl rfl
  · rename Fr _ _ _ _ => F'
    rename News _ _ _ _ => N'
    rename ¬ (_ : Int) < 9 => h9
    exact skip_end hsz (by omega) ha hra hrel F' N' rfl rfl rfl rfl
end
end Mine
end
section
open PySem PySem.W PySem.Calls PyProof.Rows PySem.Spec PySem.SeqAt PyProof.V
namespace Mine
theorem strOk_all {x : Str} : PyData.strOk x = true ↔ x.cps.all (· < 0x110000) = true := Iff.rfl
theorem fold_ok (sep : Str) (hs : PyData.strOk sep = true) : ∀ (rest : List Str) (acc : Array Nat), acc.all (· < 0x110000) = true → (∀ p ∈ rest, PyData.strOk p = true) → (rest.foldl (fun acc p => acc ++ sep.cps ++ p.cps) acc).all (· < 0x110000) = true
  | [], _, h, _ => h
  | p :: r, acc, h, hp => by
    rw [List.foldl_cons]
    refine fold_ok sep hs r _ ?_ (fun q hq => hp q (.tail _ hq))
    have h1 := hp p (.head _)
    rw [strOk_all] at h1 hs
    rw [Array.all_append, Array.all_append, h, hs, h1]; rfl
theorem join_ok (sep : Str) (hs : PyData.strOk sep = true) : ∀ (xs : List Str), (∀ p ∈ xs, PyData.strOk p = true) → PyData.strOk (Txt.join sep xs) = true
  | [], _ => by
    show PyData.strOk (Builtin.Str.glued sep []) = true
    exact (by decide +kernel : PyData.strOk Str.empty = true)
  | x :: r, h => by
    rw [strOk_all]
    exact fold_ok sep hs r x.cps (h x (.head _)) (fun p hp => h p (.tail _ hp))
theorem word_strOk : ∀ i : Nat, i < 32 → PyData.strOk (wordAt i) = true := by decide +kernel
theorem joinW_ok {l : List Nat} (h : ∀ j ∈ l, j < 32) : PyData.strOk (joinW l) = true := by
  unfold joinW
  split
  · decide +kernel
  · refine join_ok _ (by decide +kernel) _ fun p hp => ?_
    obtain ⟨j, hj, rfl⟩ := List.mem_map.mp hp
    exact word_strOk j (h j hj)
theorem canLay_strs : ∀ xs : List Str, (∀ x ∈ xs, PyData.strOk x = true) → PyData.canLayAll0 (xs.map PyData.str) = true
  | [], _ => by simp [PyData.canLayAll0]
  | x :: r, h => by simp [PyData.canLayAll0, PyData.canLay0, canLay_strs r (fun x hx => h x (.tail _ hx)), h x (.head _)]
theorem depth_strs : ∀ xs : List Str, PyData.depthAll (xs.map PyData.str) ≤ 1
  | [] => by simp [PyData.depthAll]
  | x :: r => by
    have := depth_strs r
    simp only [List.map_cons, PyData.depthAll, PyData.depth]
    omega
theorem shaped_strs (xs : List Str) (hx : ∀ x ∈ xs, PyData.strOk x = true) : shaped (.list (xs.map PyData.str)) = true := by
  have h1 := depth_strs xs
  have h2 : PyData.depth (.list (xs.map PyData.str)) ≤ 64 := by simp only [PyData.depth]; omega
  show (PyData.canLay0 (.list (xs.map PyData.str)) && decide (PyData.depth (.list (xs.map PyData.str)) ≤ 64)) = true
  rw [Bool.and_eq_true]
  exact ⟨by simp only [PyData.canLay0]; exact canLay_strs xs hx, decide_eq_true h2⟩
theorem noMix_strs : ∀ xs ys : List Str, noMixAll (xs.map PyData.str) (ys.map PyData.str) = true
  | [], [] => by simp [noMixAll]
  | [], _ :: _ => by simp [noMixAll]
  | _ :: _, [] => by simp [noMixAll]
  | _ :: r, _ :: q => by simp [noMixAll, noMix, noMix_strs r q]
theorem same_strs : ∀ xs ys : List Str, PySem.Spec.sameAll (xs.map PyData.str) (ys.map PyData.str) = decide (xs = ys)
  | [], [] => by simp [PySem.Spec.sameAll]
  | [], _ :: _ => by simp [PySem.Spec.sameAll]
  | _ :: _, [] => by simp [PySem.Spec.sameAll]
  | x :: r, y :: q => by
    simp only [List.map_cons, PySem.Spec.sameAll, PySem.Spec.same, same_strs r q]
    by_cases h : x = y <;> simp [h]
theorem reads_of_strs {h : Heap} {a : Addr} {vs : List Value} {xs : List Str} (hl : h.IsList a vs.toArray) (hi : StrsAre vs xs) : Reads h (.ref a) (.list (xs.map PyData.str)) [a] := by
  obtain ⟨o, ho, hc, n, hd⟩ := hl
  exact Reads.list ho hc hd (by simpa using strs_readAll h hi)
section
variable {prog : Program} {w : World} {A : Around} {E : Value → Shared → Prop} {s : Shared}
theorem eq_strs {a b : Addr} {vs us : List Value} {xs ys : List Str} {Q : Value → Shared → Prop} (hl : s.heap.IsList a vs.toArray) (hi : StrsAre vs xs) (hl' : s.heap.IsList b us.toArray) (hi' : StrsAre us ys) (hx : ∀ x ∈ xs, PyData.strOk x = true) (hy : ∀ x ∈ ys, PyData.strOk x = true) (hu : A.units + 64 < cLine)
    (h : Q (.bool (decide (xs = ys))) s) : wpAny (model prog w) A (compareOp .Eq (.ref a) (.ref b)) Q E s :=
  eq_dataH_same (reads_of_strs hl hi) (reads_of_strs hl' hi') (shaped_strs xs hx) (shaped_strs ys hy) hu (by simp only [noMix]; exact noMix_strs xs ys) (by simp only [PySem.Spec.same]; rw [same_strs]; exact h)
theorem ne_strs {a b : Addr} {vs us : List Value} {xs ys : List Str} {Q : Value → Shared → Prop} (hl : s.heap.IsList a vs.toArray) (hi : StrsAre vs xs) (hl' : s.heap.IsList b us.toArray) (hi' : StrsAre us ys) (hx : ∀ x ∈ xs, PyData.strOk x = true) (hy : ∀ x ∈ ys, PyData.strOk x = true) (hu : A.units + 64 < cLine)
    (h : Q (.bool (!decide (xs = ys))) s) : wpAny (model prog w) A (compareOp .NotEq (.ref a) (.ref b)) Q E s :=
  ne_dataH_same (reads_of_strs hl hi) (reads_of_strs hl' hi') (shaped_strs xs hx) (shaped_strs ys hy) hu (by simp only [noMix]; exact noMix_strs xs ys) (by simp only [PySem.Spec.same]; rw [same_strs]; exact h)
end
end Mine
end
section
open PySem PySem.W PySem.Calls PyProof.Rows PySem.Spec
namespace Mine
def rowOf (a b c e : Int) : List Int := if e = 1 then [a, b, c] ++ List.replicate 20 c else [a, b, c]
def rowNat (a b c e : Int) : List Nat := (rowOf a b c e).map Int.toNat
def toldTexts (a b c e : Int) : List Str := ((toldP (rowNat a b c e) (rowNat a b c e).length).drop 1).map joinW
theorem fold_keep {α β : Type} {Pr : α → Prop} {f : α → β → α} (h : ∀ x y, Pr x → Pr (f x y)) : ∀ (l : List β) (x : α), Pr x → Pr (l.foldl f x)
  | [], _, hx => hx
  | y :: r, x, hx => fold_keep h r _ (h x y hx)
def Low (P : List (List Nat)) : Prop := ∀ ps ∈ P, ∀ j ∈ ps, j < 32
theorem low_put {P : List (List Nat)} {j start : Nat} (h : Low P) (hs : start < 32) : Low (putAt P j start) := by
  intro ps hps i hi
  obtain ⟨k, hk⟩ := List.getElem?_of_mem hps
  unfold putAt at hk
  rw [List.getElem?_modify] at hk
  cases hP : P[k]? with
  | none => rw [hP] at hk; simp at hk
  | some q =>
    have hq := h q (List.mem_of_getElem? hP)
    rw [hP] at hk
    by_cases hjk : j = k
    · simp [hjk] at hk
      subst hk
      rcases List.mem_append.mp hi with q | q
      · exact hq i q
      · rw [List.mem_singleton.mp q]; exact hs
    · simp [hjk] at hk
      subst hk
      exact hq i hi
theorem low_step {start : Nat} {st : Nat × List (List Nat)} {size : Nat} (h : Low st.2) : Low (innerStep start st size).2 := by
  unfold innerStep
  split
  · exact low_put h (by omega)
  · exact h
theorem told_low (row : List Nat) (n : Nat) : Low (toldP row n) := by
  unfold toldP
  refine fold_keep (Pr := Low) (fun P y hP => ?_) _ _ ?_
  · unfold toldStep innerRun
    exact fold_keep (Pr := fun st : Nat × List (List Nat) => Low st.2) (fun st y h => low_step h) _ _ hP
  · intro ps hps j hj
    rw [(List.mem_replicate.mp hps).2] at hj
    cases hj
end Mine
end
section
open PySem PySem.W PySem.Calls PyProof.Rows PySem.Spec
namespace Mine
theorem fr_norm1 {h₀ h : Heap} {L : Addr} {m : Str → Option Value} (a : Str) {x : Option Value} (F : Fr h₀ L h m) (h1 : m a = x) : Fr h₀ L h (fun w => if w = a then x else m w) := by
  rw [← norm1 h1]; exact F
theorem News.cons_of {h₀ h : Heap} {L : Addr} {l : List (Addr × Obj)} {a : Addr} {o : Obj} (N : News h₀ L h l) (hm : (a, o) ∈ l) : News h₀ L h ((a, o) :: l) := fun p hp => (List.mem_cons.mp hp).elim (fun q => N p (q ▸ hm)) (fun q => N p q)
def toldJ (Rw Rs : Addr) (vs : List Value) (nv : Nat) (ra : List Addr) (news : List (Addr × Obj)) (row : List Nat) (i : Nat) (m : Str → Option Value) (nw : List (Addr × Obj)) : Prop :=
  ∃ (u : Str → Option Value) (rl : List (Addr × List Value)), m = (fun y => if y = Str.ofString "rows" then some (.ref Rs) else if y = Str.ofString "row" then some (.ref Rw) else u y) ∧
    nw = (Rw, W.listOf vs.toArray nv) :: (Rs, LCg.lst (ra.map Value.ref)) :: (rowsLed rl ++ news) ∧ addrs rl = ra ∧ ToldRel (i * 23) rl (toldP row i)
theorem off1_mem {D : Addr} : ∀ {l : List (Addr × Obj)}, LCg.Off1 D l → ∀ p ∈ l, p.1 ≠ D
  | [], _, _, h => nomatch h
  | _ :: _, x, p, h => by
    rcases List.mem_cons.mp h with rfl | h
    · exact x.1
    · exact off1_mem x.2 p h
theorem sum_cast (row : List Nat) (i : Nat) : (List.take i (List.map (fun n : Nat => (n : Int)) row)).sum = (((row.take i).sum : Nat) : Int) := by
  rw [← List.map_take]
  generalize row.take i = l
  induction l with
  | nil => rfl
  | cons x r ih => rw [List.map_cons, List.sum_cons, List.sum_cons, ih]; omega
theorem pick_tail (ra : List Addr) (h : ra.length = 9) : slicePick (ra.map Value.ref).toArray (some 1) none none = ((ra.map Value.ref).drop 1).toArray := by
  have e : (ra.map Value.ref).toArray.size = 9 := by simp [h]
  rw [kmk_pick_nat (a := 1) (b := 9) _ (by rw [e]; decide)]
  congr 1
  show List.take (9 - 1) (List.drop 1 (ra.map Value.ref)) = _
  exact List.take_of_length_le (by simp [h])
theorem toldRel_start (ra : List Addr) (h : ra.length = 9) : ToldRel 0 (empties ra) (List.replicate 9 []) := by
  refine ⟨by simp [h], fun j p ps h1 h2 => ?_⟩
  have e1 : p.2 = [] := by
    rw [List.getElem?_map] at h1
    cases hq : ra[j]? with
    | none => rw [hq] at h1; cases h1
    | some q => rw [hq] at h1; cases h1; rfl
  have e2 : ps = [] := by
    rw [List.getElem?_replicate] at h2
    split at h2
    · exact (Option.some.inj h2).symm
    · cases h2
  rw [e1, e2]
  exact ⟨.nil, Nat.le_refl _⟩
theorem row_nat {l : List Int} (h : ∀ x ∈ l, 1 ≤ x ∧ x ≤ 4) : ∃ row : List Nat, row = l.map Int.toNat ∧ l = row.map (fun n : Nat => (n : Int)) ∧ ∀ n ∈ row, 1 ≤ n ∧ n ≤ 4 := by
  refine ⟨l.map Int.toNat, rfl, ?_, ?_⟩
  · rw [List.map_map]
    symm
    refine (List.map_congr_left fun x hx => ?_).trans (List.map_id _)
    have := h x hx
    show ((x.toNat : Nat) : Int) = x
    omega
  · intro n hn
    obtain ⟨x, hx, rfl⟩ := List.mem_map.mp hn
    have := h x hx
    omega
theorem rowOf_ok {a b c e : Int} (ha : 1 ≤ a ∧ a ≤ 4) (hb : 1 ≤ b ∧ b ≤ 4) (hc : 1 ≤ c ∧ c ≤ 4) : (∀ x ∈ rowOf a b c e, 1 ≤ x ∧ x ≤ 4) ∧ (rowOf a b c e).length ≤ 23 := by
  unfold rowOf
  split
  · refine ⟨fun x hx => ?_, by simp⟩
    rcases List.mem_append.mp hx with q | q
    · simp only [List.mem_cons, List.not_mem_nil, or_false] at q
      rcases q with rfl | rfl | rfl <;> assumption
    · rw [(List.mem_replicate.mp q).2]; exact hc
  · refine ⟨fun x hx => ?_, by simp⟩
    simp only [List.mem_cons, List.not_mem_nil, or_false] at hx
    rcases hx with rfl | rfl | rfl <;> assumption
local macro_rules | `(tactic| walk_at "exec For Name Call cons nil") => `(tactic| refine Rest.go ?_)
local macro_rules | `(tactic| walk_at "exec For Name Subscript cons nil") => `(tactic| refine Rest.go ?_)
local macro_rules | `(tactic| walk_at "eval ListComp") => `(tactic| refine Rest.go ?_)
local macro_rules | `(tactic| walk_at "exec Assign cons ListComp") => `(tactic| refine Rest.go ?_)
local macro_rules | `(tactic| walk_at "compareOp NotEq ref ref") => `(tactic| refine Rest.go ?_)
local macro_rules | `(tactic| walk_at "call builtin:str.join") => `(tactic| refine Rest.go ?_)
local macro_rules | `(tactic| walk_at "CompSrc") => `(tactic| refine Rest.go ?_)
local macro_rules | `(tactic| walk_at "subscriptTail Name Slice ref ref") => `(tactic| (k_here; (with_reducible show wpAny _ _ (subscriptTail _ (PySem.Expr.Slice _ _ none _) (Value.ref _) (Value.ref _)) _ _ _); k_dflt (refine' kmk_slice_ints ?F ?N ?l ?p ?q ?i ?m rfl ?_ ?s ?t ?z; (case F => k_asm); (case N => k_asm); (case l => kmk_list); (case p => kmk_part); (case q => kmk_part); (case i => assumption); (case m => first | exact kmk_from (by assumption) (by assumption) | exact kmk_upto (by assumption) (by assumption)); (case s => with_unfolding_all rfl); (case t => kmk_pure); (case z => assumption)); intro D' ws' h' F' N' l1 hI' hC' hL'; (try k_lt l1)))
set_option rowWalk.seconds 0
set_option maxRecDepth 100000 in
set_option maxHeartbeats 8000000 in
theorem told_ok (w : World) (mean : ExcName → Option Value) (mg mb : Str → Option Value) (news : List (Addr × Obj)) (D : Addr) (a b c : Int) (ta tb tc : Tok) (nn : Nat) (ha : 1 ≤ a ∧ a ≤ 4) (hb : 1 ≤ b ∧ b ≤ 4) (hc : 1 ≤ c ∧ c ≤ 4) (e : Int) (t : Tok) (he : e = 0 ∨ e = 1 ∨ e = 2) :
  ∀ (dp un : Nat) (gd : Option (List Code)) (cn : Str) (cs : Scope) (a' : Addr) (ccd : Value) (cl : List (Str × Addr)) (outer : List Env) (A₀ : Around) (base h₀ : Heap) (L : Addr) (m : Str → Option Value) (s : Shared) (Q E : Value → Shared → Prop),
    Below A₀ base outer h₀ → Fr h₀ L s.heap m → (hd.heap_39 w.params).In h₀ → News h₀ L s.heap ((D, W.listOf #[.int a ta, .int b tb, .int c tc] nn) :: news) → (∀ p ∈ news, p.1 ≠ D) → Top hd.view_39 (looseW hd.view_39 [Str.ofString "COMPILER_FLAG_NAMES"]) mean mg mb h₀ → cs.kind = .function →
    dp + 5 < recursionLimit → un + 200 < cLine →
    (∀ (R : Addr) (items : List Value) (nR : Nat) (h' : Heap) (tk' : Nat), StrsAre items (toldTexts a b c e) → Fr h₀ L h' m → News h₀ L h' ((R, W.listOf items.toArray nR) :: news) → Q (.ref R) { s with heap := h', toks := tk' }) →
      wpAny (model Challenge.rw_pe0033_01.row.prog w) (ktrTop dp un gd cn cs L a' ccd cl outer) (call (.ref 51) [.ref D, .int e t]) Q E s := by
  w_on
  w_top on
  k_fill
  intro dp un gd cn cs a' ccd cl outer A₀ base h₀ L m s Q E hB hF hX hN hDn hT hcs hdp hun hret
  refine wpAny_call ?_
  k_dflt (refine' code_def ?k1 ?k2 ?k3 ?k4 ?k5 ?kA ?kF ?kK ?k6 ?k7 ?k8 ?k9 ?kB ?_ ?c2 ?c3 ?c4 ?c5; (case kA => exact rfl); (case kF => exact rfl); (case kK => assumption); (case k1 => k_asm); (case k2 => k_asm); (case k3 => k_asm); (case k4 => k_asm); (case k5 => k_asm); (case k6 => k_is); (case k7 => k_is); (case k8 => ktr_room); (case k9 => exact BindsTo.of_eq rfl); (case c5 => decide); (case kB => exact locs rfl); (case c2 => exact rfl); (case c3 => exact rfl); (case c4 => exact rfl))
  intro g' L' h' FG' F' N' B' X' T'
  (try dsimp only)
  (try k_lift B')
  (try k_fold)
  refine wpAny_execs_cons ?_
  refine for_share (S := fun Q => ∀ (Rw : Addr) (vs : List Value) (nv : Nat) (u : Str → Option Value) (h' : Heap) (tk' : Nat), IntsAre vs (rowOf a b c e) → (∀ p ∈ news, p.1 ≠ Rw) →
      Fr g' L' h' (fun y => if y = Str.ofString "row" then some (.ref Rw) else u y) → News g' L' h' ((Rw, W.listOf vs.toArray nv) :: news) → Q .next { s with heap := h', toks := tk' }) ?_ ?_
  · intro Rw vs nv u h2 tk2 hI hRn F2 N2
    clear F' N'
    dsimp only
    k_steps
    unfold Rest
    refine wpAny_noRaise ?_
    refine LCg.Assign_ListComp_U (F₀ := F2) rfl (by with_unfolding_all rfl) (by rfl) (by decide) (by rfl) (by decide) (by rfl) (by rfl) (by rfl) ?_
    k_steps
    unfold Rest
    rename Fr _ _ _ _ => F3
    rename News _ _ _ _ => N3
    rename IsRange _ _ _ _ _ _ _ _ => R3
    refine LCg.CompSrc.range (n := 9) rfl F3 N3 R3 (by decide) (by decide) (by rw [sizeLine_eq]; decide) ?_
    intro g4
    refine comp_empties ?_ ?_
    · intro I oI C oC D ys nws h tk F N
      clear F3 N3 R3
      k_steps
      rename News _ _ _ _ => N5
      rename _ ∧ _ ∧ _ ∧ AllLt _ _ => l5
      refine ⟨_, _, _, rfl, rfl, by k_asm, N5, fun p hp => ?_⟩
      simp only [List.mem_cons] at hp
      rcases hp with rfl | rfl | rfl | hp
      · exact l5.1
      · exact l5.2.1
      · exact l5.2.2.1
      · exact kst_ltOf l5.2.2.2 p hp
    · intro ra hral hrand hraoff
      unfold LCg.FinA
      intro Rs h4 tk4 F4 N4 off4
      clear F3 N3 R3
      dsimp only
      k_steps
      unfold Rest
      rename IntsAre _ _ => hI
      obtain ⟨row, hrowE, hrow, hrowb⟩ := row_nat (rowOf_ok (e := e) ha hb hc).1
      have hrowl : row.length ≤ 23 := by
        have := (rowOf_ok (e := e) ha hb hc).2
        rw [hrow, List.length_map] at this; exact this
      rw [hrow] at hI
      rename vs.length = _ => hvl
      rw [hrow] at hvl
      have hzv : vs.toArray.size ≤ sizeLine := by
        have e2 : sizeLine = 16777216 := by rw [sizeLine_eq]
        rw [List.length_map] at hvl
        rw [List.size_toArray]; omega
      have N4' : News g' L' h4 ((Rw, W.listOf vs.toArray nv) :: (Rs, LCg.lst (ra.map Value.ref)) :: (rowsLed (empties ra) ++ news)) := fun p hp => N4 p (by
        simp only [List.mem_cons, List.mem_append] at hp ⊢
        rcases hp with q | q | q | q
        · exact .inr (.inr (.inl q))
        · exact .inl q
        · exact .inr (.inl q)
        · exact .inr (.inr (.inr q)))
      clear N4
      refine wpAny_noRaise ?_
      refine for_range F4 (by rfl) (by rfl) (by rfl) ?_ PassesOwn.never
      k_steps
      rename IsRange _ _ _ _ _ _ _ _ => R5
      rename Fr _ _ _ _ => F5
      rename News _ _ _ _ => N5
      have hraE : ∀ a ∈ ra, (a, LCg.lst []) ∈ rowsLed (empties ra) := by
        intro a ha'
        unfold rowsLed empties
        simp only [List.map_map, List.mem_map]
        exact ⟨a, ha', rfl⟩
      have hRs : ∀ a ∈ ra, a ≠ Rs := fun a ha' q => off1_mem off4 (a, LCg.lst []) (List.mem_append_left _ (hraE a ha')) q
      refine ⟨_, 0, _, _, _, _, row.length, _, _, toldJ Rw Rs vs nv ra news row, rfl, R5, small_one (by omega) (by omega) (by omega) (by rw [List.length_map]; omega), ?_, F5, N5, ?_, ?_, ?_⟩
      · rw [rangeSize_nat, List.length_map]; omega
      · exact ⟨_, empties ra, norm2 rfl rfl, rfl, by simp [addrs, empties, Function.comp_def], toldRel_start ra hral⟩
      · intro I i t1 m₁ news₁ h tk hlt hi hJ ha1 F1 N1
        clear F5 N5 R5
        obtain ⟨u1, rl, rfl, rfl, hra, hrel⟩ := hJ
        have hix : 0 ≤ (0 + (i : Int)) := by omega
        k_steps
        unfold Rest
        rename Fr _ _ _ _ => F6
        refine for_list F6 (by rfl) (by rfl) (by rfl) ?_ PassesOwn.never
        k_steps
        rename_i Sl slv h6 F6' N6 hI6 hC6 hL6 l6
        have e0 : (0 + (i : Int)).toNat = i := by omega
        rw [e0, ← List.map_drop] at hI6
        rw [e0, sum_cast] at F6'
        have hP9 : (toldP row i).length = 9 := by rw [← hrel.1, ← hral, ← hra]; simp [addrs]
        have hraMem : ∀ a ∈ ra, ∃ o, (a, o) ∈ rowsLed rl := by
          intro a ha'
          rw [← hra, ← rowsLed_fst] at ha'
          obtain ⟨p, hp, rfl⟩ := List.mem_map.mp ha'
          exact ⟨p.2, hp⟩
        refine ⟨Sl, slv, 0, _, (Sl, W.listOf slv.toArray 0) :: (I, rIter (0 + (i + 1 : Nat)) ((row.length : Int) - (i + 1 : Nat))) :: (Rw, W.listOf vs.toArray nv) :: (Rs, LCg.lst (ra.map Value.ref)) :: (rowsLed rl ++ news),
          innJ Sl I Rw Rs slv vs 0 nv (rIter (0 + (i + 1 : Nat)) ((row.length : Int) - (i + 1 : Nat))) ra news (row.take i).sum (row.drop i) (toldP row i) (i * 23), rfl, ?_, F6', ?_, ?_, ?_, ?_⟩
        · rintro _ _ _ ⟨_, _, _, _, _, rfl, _⟩; exact .head _
        · intro p hp
          refine N6 p ?_
          simp only [List.mem_cons] at hp ⊢
          rcases hp with q | q | q | q | q
          · exact .inl q
          · exact .inr (.inr (.inr (.inl q)))
          · exact .inr (.inr (.inr (.inr (.inl q))))
          · exact .inr (.inr (.inr (.inr (.inr (.inl q)))))
          · exact .inr (.inr (.inr (.inr (.inr (.inr q)))))
        · exact ⟨_, rl, _, _, norm4 rfl rfl rfl rfl, rfl, hra, hrel⟩
        · intro I2 k v oI2 m₁ news₁ h7 tk7 hlt2 hv hJ2 ha2 F7 N7
          obtain ⟨sz, tv, hsz, rfl⟩ : ∃ (sz : Nat) (tv : Tok), (row.drop i)[k]? = some sz ∧ v = Value.int (sz : Nat) tv := by
            have hk : k < (row.drop i).length := by
              have h1 := hI6.length
              rw [List.length_map] at h1
              rw [← h1]
              rcases Nat.lt_or_ge k slv.length with q | q
              · exact q
              · rw [List.getElem?_eq_none q] at hv; cases hv
            obtain ⟨tv, htv⟩ := hI6.get k ((row.drop i)[k] : Nat) (by rw [List.getElem?_map, List.getElem?_eq_getElem hk]; rfl)
            rw [htv] at hv
            exact ⟨(row.drop i)[k], tv, List.getElem?_eq_getElem hk, (Option.some.inj hv).symm⟩
          have hk' : k < 23 := by
            have : k < (row.drop i).length := by
              rcases Nat.lt_or_ge k (row.drop i).length with q | q
              · exact q
              · rw [List.getElem?_eq_none q] at hsz; cases hsz
            rw [List.length_drop] at this; omega
          refine told_turn B' X' T' ?_ ?_ hsz (hrowb sz (List.mem_of_mem_drop (List.mem_of_getElem? hsz))).1 ?_ hral hrand ?_ hJ2 ha2 F7 N7
          · simp only [depth_deeper]; omega
          · simp only [units_deeper]; omega
          · have : i < 23 := by omega
            omega
          · intro a ha'
            obtain ⟨o, ho⟩ := hraMem a ha'
            refine ⟨Nat.ne_of_lt (hlt2 (a, o) (.tail _ (.tail _ (.tail _ (.tail _ (List.mem_append_left _ ho)))))), ?_, ?_, ?_, hRs a ha', ?_⟩
            · exact Nat.ne_of_lt (kst_ltOf l6.2.2.2.2.2 (a, o) (List.mem_append_left _ ho))
            · exact Nat.ne_of_lt (hlt (a, LCg.lst []) (.tail _ (.tail _ (List.mem_append_left _ (hraE a ha')))))
            · exact Ne.symm (hraoff a ha' _ (.head _))
            · exact fun p hp => hraoff a ha' p (.tail _ hp)
        · rintro m₁ news₁ h7 tk7 ⟨u2, rl2, tf, ts, rfl, rfl, hra2, hrel2⟩ ha2 F7 N7
          have hlen6 : slv.length = (row.drop i).length := by rw [hI6.length, List.length_map]
          rw [hlen6, List.take_length] at hrel2
          have hstep : toldP row (i + 1) = (innerRun (row.take i).sum (row.drop i) (toldP row i)).2 := by
            unfold toldP
            rw [List.range_succ, List.foldl_append]
            rfl
          refine wpAny_execs_nil ?_
          refine wpAny_execs_nil ?_
          refine ⟨_, _, _, (Rw, W.listOf vs.toArray nv) :: (Rs, LCg.lst (ra.map Value.ref)) :: (rowsLed rl2 ++ news), rfl, F7, ?_, ?_, _, rl2, norm2 rfl rfl, rfl, hra2, ?_⟩
          · exact fun p hp => N7 p (.tail _ hp)
          · rw [← ha1]
            have h1 : addrs rl2 = addrs rl := hra2.trans hra.symm
            simp only [List.map_cons, List.map_append, rowsLed_fst, h1]
          · rw [hstep]
            refine toldRel_mono hrel2 ?_
            rw [List.length_drop]; omega
      · intro m₁ news₁ h tk hJ F1 N1
        clear F5 N5 R5
        obtain ⟨u1, rl, rfl, rfl, hra, hrel⟩ := hJ
        k_steps
        unfold Rest
        rename Fr _ _ _ _ => F6
        refine wpAny_noRaise ?_
        refine LCg.ListComp_U (F₀ := F6) (by rfl) (by decide) (by rfl) (by decide) (by rfl) ?_
        k_steps
        unfold Rest
        rename News _ _ _ _ => N6
        rename Fr _ _ _ _ => F7
        rw [pick_tail ra hral] at N6
        refine LCg.CompSrc.ledger rfl F7 N6 (.head _) (by rw [List.size_toArray, List.length_drop, List.length_map, hral, sizeLine_eq]; decide) ?_
        intro g6
        refine comp_all (fun j y => ∃ ps t, (toldP row row.length)[j + 1]? = some ps ∧ y = Value.str (joinW ps) t) (Or.inr ⟨_, .head _, rfl, _, rfl⟩) ?_ ?_
        · intro j v Ic oIc C oC Dc ys m₂ h8 tk8 hj hP hC hx F N
          have hj8 : j < 8 := by
            rw [List.size_toArray, List.length_drop, List.length_map, hral] at hj; exact hj
          have hrl9 : rl.length = 9 := by rw [← hral, ← hra]; simp [addrs]
          obtain ⟨Aj, Wj, ps, hrl, hps, rfl⟩ : ∃ Aj Wj ps, rl[j + 1]? = some (Aj, Wj) ∧ (toldP row row.length)[j + 1]? = some ps ∧ v = Value.ref Aj := by
            have h1 : j + 1 < rl.length := by omega
            have h2 : j + 1 < (toldP row row.length).length := by rw [← hrel.1]; exact h1
            refine ⟨rl[j + 1].1, rl[j + 1].2, _, List.getElem?_eq_getElem h1, List.getElem?_eq_getElem h2, ?_⟩
            have hP' : ((ra.map Value.ref).drop 1)[j]? = some v := by simpa using hP
            rw [List.getElem?_drop, ← hra, Nat.add_comm 1 j, List.getElem?_map] at hP'
            simp only [addrs, List.getElem?_map, List.getElem?_eq_getElem h1, Option.map_some] at hP'
            exact (Option.some.inj hP').symm
          have hrelj := hrel.2 (j + 1) (Aj, Wj) ps hrl hps
          have hAm : (Aj, W.listOf Wj.toArray Wj.length) ∈ rowsLed rl := List.mem_map_of_mem (f := fun p : Addr × List Value => (p.1, LCg.lst p.2)) (List.mem_of_getElem? hrl)
          have N8 := News.cons_of N (o := W.listOf Wj.toArray Wj.length) (a := Aj) (by simp only [List.mem_cons, List.mem_append]; exact .inr (.inr (.inr (.inr (.inr (.inr (.inl hAm)))))))
          clear N F7 N6 F6
          have hlow : ∀ j ∈ ps, j < 32 := told_low row row.length ps (List.mem_of_getElem? hps)
          k_steps
          unfold Rest
          rename Fr _ _ _ _ => F9
          rename News _ _ _ _ => N9
          refine ne_strs (xs := ps.map wordAt) (ys := []) (us := []) (News.isList N9 (.tail _ (.head _))) hrelj.1 (News.isList N9 (.head _)) .nil (fun x hx => by obtain ⟨q, hq, rfl⟩ := List.mem_map.mp hx; exact word_strOk q (hlow q hq)) (fun x hx => nomatch hx) (by simp only [units_deeper]; omega) ?_
          rcases ps with _ | ⟨p0, pr⟩
          · have e : (!decide (List.map wordAt [] = [])) = false := by simp
            rw [e]
            k_steps
            exact EltEnd.mk ⟨[], _, hps, by rfl⟩ (by k_asm) N9 fun p hp => .tail _ (.tail _ hp)
          · have e : (!decide (List.map wordAt (p0 :: pr) = [])) = true := by simp
            rw [e]
            k_steps
            unfold Rest
            have hwj : (((p0 :: pr).map wordAt).map (·.length)).sum + ((p0 :: pr).map wordAt).length ≤ 1048576 := by
              have h1 := words_weight (p0 :: pr) hlow
              have h2 := hrelj.2
              have h3 := hrelj.1.length
              rw [List.length_map] at h3 ⊢
              dsimp only at h2 h3
              omega
            refine join_listW (News.isList N9 (.tail _ (.head _))) hrelj.1 (by decide +kernel) hwj ?_
            intro t' k'
            exact EltEnd.mk ⟨p0 :: pr, _, hps, by rw [← joinW_some (List.cons_ne_nil _ _)]⟩ (by k_asm) N9 fun p hp => .tail _ (.tail _ hp)
        · intro ys hlen hG
          unfold LCg.FinE
          intro Dr h5 tk5 F5 N5 off5
          have hP9 : (toldP row row.length).length = 9 := by rw [← hrel.1, ← hral, ← hra]; simp [addrs]
          have hIs2 : StrsAre ys (toldTexts a b c e) := by
            have e0 : toldTexts a b c e = ((toldP row row.length).drop 1).map joinW := by rw [hrowE]; rfl
            rw [e0]
            refine strs_of_each (by rw [hlen]; simp [hral, hP9]) fun i y hy => ?_
            obtain ⟨ps, ty, h1, rfl⟩ := hG i y hy
            exact ⟨_, ty, by rw [List.getElem?_map, List.getElem?_drop, Nat.add_comm 1 i, h1]; rfl, rfl⟩
          clear F7 N6 F6
          k_steps
          rename News _ _ _ _ => N6
          refine hret _ ys ys.length _ _ hIs2 (by k_asm) fun p hp => N6 p ?_
          simp only [List.mem_cons, List.mem_append] at hp ⊢
          rcases hp with q | q
          · exact .inl q
          · exact .inr (.inr (.inr (.inr (.inr q))))
  · intro Q' hS
    have hD1 : IntsAre [Value.int a ta, .int b tb, .int c tc] [a, b, c] := .cons _ _ (.cons _ _ (.cons _ _ .nil))
    rcases he with rfl | rfl | rfl
    · k_steps
      rename Fr _ _ _ _ => F5
      rename News _ _ _ _ => N5
      exact hS D _ nn _ _ _ hD1 hDn (fr_norm1 (Str.ofString "row") F5 rfl) N5
    · k_steps
      rename Fr _ _ _ _ => F5
      rename News _ _ _ _ => N5
      rename _ ∧ _ ∧ _ ∧ AllLt _ _ => l5
      refine hS _ [Value.int a ta, .int b tb, .int c tc, .int c tc, .int c tc, .int c tc, .int c tc, .int c tc, .int c tc, .int c tc, .int c tc, .int c tc, .int c tc, .int c tc, .int c tc, .int c tc, .int c tc, .int c tc, .int c tc, .int c tc, .int c tc, .int c tc, .int c tc] 0 _ _ _ ?_ (allLt_ne l5.2.2.2) (fr_norm1 (Str.ofString "row") F5 rfl) fun p hp => N5 p ?_
      · show IntsAre _ (a :: b :: c :: List.replicate 20 c)
        refine .cons _ _ (.cons _ _ (.cons _ _ ?_))
        iterate 20 refine .cons _ _ ?_
        exact .nil
      · simp only [List.mem_cons] at hp ⊢
        rcases hp with q | q
        · exact .inl q
        · exact .inr (.inr (.inr (.inr q)))
    · k_steps
      rename Fr _ _ _ _ => F5
      rename News _ _ _ _ => N5
      exact hS D _ nn _ _ _ hD1 hDn (fr_norm1 (Str.ofString "row") F5 rfl) N5
end Mine
end
section
open PySem PySem.W PySem.Calls PyProof.Rows PySem.Spec
namespace Mine
def runPl (a b c e : Int) : List (List Nat) := (List.range 8).map fun i => bits (Builtin.bitAnd ((marksOf a b c e).map fun x : Int => (2 : Int) ^ x.toNat).sum ((((marksOf a b c e).map fun x : Int => (2 : Int) ^ x.toNat).sum).fdiv (2 ^ (i + 1)))).toNat 32
def toldPl (a b c e : Int) : List (List Nat) := (toldP (rowNat a b c e) (rowNat a b c e).length).drop 1
def four : List Int := [1, 2, 3, 4]
theorem plain_00 : ∀ a ∈ four, ∀ b ∈ four, ∀ c ∈ four, runPl a b c 0 = toldPl a b c 0 := by decide +kernel
theorem plain_02 : ∀ a ∈ four, ∀ b ∈ four, ∀ c ∈ four, runPl a b c 2 = toldPl a b c 2 := by decide +kernel
theorem plain_11 : ∀ b ∈ four, ∀ c ∈ four, runPl 1 b c 1 = toldPl 1 b c 1 := by decide +kernel
theorem plain_12 : ∀ b ∈ four, ∀ c ∈ four, runPl 2 b c 1 = toldPl 2 b c 1 := by decide +kernel
theorem plain_13 : ∀ b ∈ four, ∀ c ∈ four, runPl 3 b c 1 = toldPl 3 b c 1 := by decide +kernel
theorem plain_14 : ∀ b ∈ four, ∀ c ∈ four, runPl 4 b c 1 = toldPl 4 b c 1 := by decide +kernel
theorem mem_four {a : Int} (h : 1 ≤ a ∧ a ≤ 4) : a ∈ four := by
  have : a = 1 ∨ a = 2 ∨ a = 3 ∨ a = 4 := by omega
  rcases this with rfl | rfl | rfl | rfl <;> decide
theorem plain {a b c e : Int} (ha : 1 ≤ a ∧ a ≤ 4) (hb : 1 ≤ b ∧ b ≤ 4) (hc : 1 ≤ c ∧ c ≤ 4) (he : e = 0 ∨ e = 1 ∨ e = 2) : runPl a b c e = toldPl a b c e := by
  have hb' := mem_four hb
  have hc' := mem_four hc
  rcases he with rfl | rfl | rfl
  · exact plain_00 a (mem_four ha) b hb' c hc'
  · have : a = 1 ∨ a = 2 ∨ a = 3 ∨ a = 4 := by omega
    rcases this with rfl | rfl | rfl | rfl
    · exact plain_11 b hb' c hc'
    · exact plain_12 b hb' c hc'
    · exact plain_13 b hb' c hc'
    · exact plain_14 b hb' c hc'
  · exact plain_02 a (mem_four ha) b hb' c hc'
theorem texts_eq {a b c e : Int} (ha : 1 ≤ a ∧ a ≤ 4) (hb : 1 ≤ b ∧ b ≤ 4) (hc : 1 ≤ c ∧ c ≤ 4) (he : e = 0 ∨ e = 1 ∨ e = 2) : runTexts a b c e = toldTexts a b c e := by
  have h : runTexts a b c e = (runPl a b c e).map joinW := by
    unfold runTexts runPl
    rw [List.map_map]; rfl
  rw [h, plain ha hb hc he]; rfl
end Mine
end
section
open PySem PySem.W PySem.Calls PyProof.Rows PySem.Spec
namespace Mine
def rtExpr : Stmt → Expr
  | .Return (some e) _ => e
  | _ => .Name (Str.ofString "") ⟨0, 0, 0, 0⟩
def lDef : Stmt := Challenge.pw_pe0033_01.main.body.getD 11 none0
def lCmp : Expr := rtExpr ((fnBody lDef).getD 1 none0)
abbrev lenv (L fa : Addr) (ccd : Value) : Env := envOf (Str.ofString "law") (fnScope lDef) L fa ccd
theorem run_apart {h₀ h : Heap} {L R D : Addr} {items : List Value} {nR nn : Nat} {x y z : Value} {a b c e : Int} {rest : List (Addr × Obj)} (N : News h₀ L h ((R, W.listOf items.toArray nR) :: (D, W.listOf #[x, y, z] nn) :: rest)) (hi : StrsAre items (runTexts a b c e)) : R ≠ D := by
  intro q
  subst q
  have h1 := (N _ (.head _)).1
  have h2 := (N _ (.tail _ (.head _))).1
  rw [h1] at h2
  have h3 := Option.some.inj h2
  have h4 : items.toArray = #[x, y, z] := by
    have q : Data.seq items.toArray nR = Data.seq #[x, y, z] nn := congrArg Obj.data h3
    injection q
  have h5 := hi.length
  have h6 : items.toArray.size = 3 := by rw [h4]; rfl
  rw [List.size_toArray] at h6
  simp [runTexts] at h5
  omega
theorem pretty_strOk (f : Int) : PyData.strOk (pretty f) = true := joinW_ok fun j hj => bits_lt hj
local macro_rules | `(tactic| walk_at "call ref") => `(tactic| refine Rest.go ?_)
local macro_rules | `(tactic| walk_at "compareOp Eq ref ref") => `(tactic| refine Rest.go ?_)
set_option rowWalk.seconds 0
set_option maxRecDepth 100000 in
set_option maxHeartbeats 8000000 in
theorem law_tail {w : World} {mean : ExcName → Option Value} {mg mb : Str → Option Value} {fa L : Addr} {ccd : Value} {h₀ : Heap} {u : Str → Option Value} {s : Shared} {Q E : Value → Shared → Prop} {D : Addr} {a b c : Int} {ta tb tc : Tok} {nn : Nat} {e : Int} {t : Tok}
    (K : Below callerA h₀ [] h₀) (F : Fr h₀ L s.heap (fun y => if y = Str.ofString "end" then some (.int e t) else if y = Str.ofString "sizes" then some (.ref D) else u y)) (X : (hd.heap_39 w.params).In h₀)
    (T : Top hd.view_39 (looseW hd.view_39 [Str.ofString "COMPILER_FLAG_NAMES"]) mean mg mb h₀) (N : News h₀ L s.heap [(D, W.listOf #[.int a ta, .int b tb, .int c tc] nn)])
    (ha : 1 ≤ a ∧ a ≤ 4) (hb : 1 ≤ b ∧ b ≤ 4) (hc : 1 ≤ c ∧ c ≤ 4) (he : e = 0 ∨ e = 1 ∨ e = 2) (hg : AllBare s.gens)
    (hQ : ∀ (h' : Heap) (tk' : Nat) (gens' : _), Fr h₀ L h' (fun y => if y = Str.ofString "end" then some (.int e t) else if y = Str.ofString "sizes" then some (.ref D) else u y) → AllBare gens' → Q (.bool true) { s with heap := h', toks := tk', gens := gens' }) :
    wpAny (model Challenge.rw_pe0033_01.row.prog w) (callerA.deeper (lenv L fa ccd)) (eval lCmp (lenv L fa ccd)) Q E s := by
  w_on
  w_top on
  revert X
  k_fill
  intro X
  show wpAny _ _ (eval (Expr.Compare _ _ _ _) (envOf _ _ _ _ _)) _ _ _
  have hsc : fnScope lDef = fnScope lDef := rfl
  conv at hsc => rhs; whnf
  simp only [lenv, hsc]
  clear hsc
  (try k_fold)
  k_steps
  unfold Rest
  refine run_ok w mean mg mb [] D a b c ta tb tc nn ha hb hc e t he _ _ _ _ _ _ _ _ _ callerA h₀ h₀ L _ _ _ _ K F X N T (by rfl) (by decide +kernel) (by decide +kernel) hg ?_
  intro R items nR h1 tk1 gens1 hS1 hg1 F1 N1
  have hRD := run_apart N1 hS1
  clear F N
  have N2 : News h₀ L h1 ((D, W.listOf #[Value.int a ta, .int b tb, .int c tc] nn) :: (R, W.listOf items.toArray nR) :: []) := fun p hp => N1 p (by
    simp only [List.mem_cons] at hp ⊢
    rcases hp with q | q | q
    · exact .inr (.inl q)
    · exact .inl q
    · exact .inr (.inr q))
  clear N1
  (try dsimp only)
  k_steps
  unfold Rest
  refine told_ok w mean mg mb [(R, W.listOf items.toArray nR)] D a b c ta tb tc nn ha hb hc e t he _ _ _ _ _ _ _ _ _ callerA h₀ h₀ L _ _ _ _ K F1 X N2 (fun p hp => by rw [List.mem_singleton.mp hp]; exact hRD) T (by rfl) (by decide +kernel) (by decide +kernel) ?_
  intro R2 items2 nR2 h2 tk2 hS2 F2 N3
  clear F1 N2
  (try dsimp only)
  k_steps
  unfold Rest
  refine eq_strs (News.isList N3 (.tail _ (.head _))) hS1 (News.isList N3 (.head _)) hS2 (fun x hx => ?_) (fun x hx => ?_) (by simp only [units_deeper]; exact (by decide +kernel : callerA.units + 200 < cLine) |> fun q => by omega) ?_
  · unfold runTexts at hx
    obtain ⟨i, _, rfl⟩ := List.mem_map.mp hx
    exact pretty_strOk _
  · rw [← texts_eq ha hb hc he] at hx
    unfold runTexts at hx
    obtain ⟨i, _, rfl⟩ := List.mem_map.mp hx
    exact pretty_strOk _
  · have e1 : decide (runTexts a b c e = toldTexts a b c e) = true := decide_eq_true (texts_eq ha hb hc he)
    rw [e1]
    exact hQ h2 tk2 gens1 F2 hg1
end Mine
end
section
open PySem PySem.W PySem.Calls PyProof.Rows PySem.Spec
namespace Mine
theorem sizes3 (ws : List Int) : ∃ a b c : Int, (List.map (fun a : Int => 1 + a.fmod 4) (List.filter (fun _ => true) (List.take (Int.toNat 3) ws ++ List.drop (((List.take 3 ws).length : Int)).toNat [0, 2, 1]))) = [a, b, c] ∧ (1 ≤ a ∧ a ≤ 4) ∧ (1 ≤ b ∧ b ≤ 4) ∧ (1 ≤ c ∧ c ≤ 4) := by
  have hf : ∀ x : Int, 1 ≤ 1 + x.fmod 4 ∧ 1 + x.fmod 4 ≤ 4 := fun x => by
    have h1 := Int.fmod_nonneg_of_pos x (b := 4) (by decide)
    have h2 := Int.fmod_lt_of_pos x (b := 4) (by decide)
    omega
  match ws with
  | [] => exact ⟨_, _, _, rfl, hf _, hf _, hf _⟩
  | [x] => exact ⟨_, _, _, rfl, hf _, hf _, hf _⟩
  | [x, y] => exact ⟨_, _, _, rfl, hf _, hf _, hf _⟩
  | x :: y :: z :: r =>
    have e1 : List.take (Int.toNat 3) (x :: y :: z :: r) = [x, y, z] := by show List.take 3 _ = _; simp
    have e2 : List.take 3 (x :: y :: z :: r) = [x, y, z] := by simp
    rw [e1, e2]
    exact ⟨_, _, _, rfl, hf _, hf _, hf _⟩
theorem end3 (x : Int) : x.fmod 3 = 0 ∨ x.fmod 3 = 1 ∨ x.fmod 3 = 2 := by
  have h1 := Int.fmod_nonneg_of_pos x (b := 3) (by decide)
  have h2 := Int.fmod_lt_of_pos x (b := 3) (by decide)
  omega
theorem ints3 {ys : List Value} {a b c : Int} (h : IntsAre ys [a, b, c]) : ∃ ta tb tc, ys = [Value.int a ta, .int b tb, .int c tc] := by
  cases h with | cons _ _ h => cases h with | cons _ _ h => cases h with | cons _ _ h => cases h; exact ⟨_, _, _, rfl⟩
theorem sizesOf {ys : List Value} {ws : List Int} (h : IntsAre ys (List.map (fun a : Int => 1 + a.fmod 4) (List.filter (fun _ => true) (List.take (Int.toNat 3) ws ++ List.drop (((List.take 3 ws).length : Int)).toNat [0, 2, 1])))) :
    ∃ (a b c : Int) (ta tb tc : Tok), ys = [Value.int a ta, .int b tb, .int c tc] ∧ (1 ≤ a ∧ a ≤ 4) ∧ (1 ≤ b ∧ b ≤ 4) ∧ (1 ≤ c ∧ c ≤ 4) := by
  obtain ⟨a, b, c, e, ha, hb, hc⟩ := sizes3 ws
  rw [e] at h
  obtain ⟨ta, tb, tc, q⟩ := ints3 h
  exact ⟨a, b, c, ta, tb, tc, q, ha, hb, hc⟩
theorem good_true {c : ClaimW} {cl : Str → Option Addr} {mean : ExcName → Option Value} {args : List WData} {s₁ : Shared} {L : Addr} {m : Str → Option Value} {h' : Heap} {tk' : Nat} {gens' : _} (F : Fr s₁.heap L h' m) (hg : AllBare gens') (hn : ∀ cls, c.raises args cls = false) (hp : c.post args (.bool true) args = true) :
    GoodWG c cl mean args s₁ (.ok (.ret (.bool true))) { s₁ with heap := h', toks := tk', gens := gens' } :=
  ⟨.inl ⟨_, _, _, rfl, hn, .bool true, hp, fun _ => ⟨.nil, fun _ h => nomatch h⟩⟩, .of_keep F.keep, rfl, hg⟩
theorem post_true (xs : List Int) : Challenge.rw_pe0033_01.row.claim.post [ofPy (PyData.list (List.map PyData.int xs))] (WData.bool true) [ofPy (PyData.list (List.map PyData.int xs))] = true := by
  wrow_post
theorem three_fits {x y z : Value} : [x, y, z].toArray.size ≤ sizeLine := by rw [sizeLine_eq]; exact Nat.le_of_ble_eq_true rfl
local macro_rules | `(tactic| walk_at "eval Compare") => `(tactic| refine Rest.go ?_)
local macro_rules | `(tactic| walk_at "subscriptTail Name Slice ref ref") => `(tactic| (k_here; (with_reducible show wpAny _ _ (subscriptTail _ (PySem.Expr.Slice _ _ none _) (Value.ref _) (Value.ref _)) _ _ _); k_dflt (refine' kmk_slice_ints ?F ?N ?l ?p ?q ?i ?m rfl ?_ ?s ?t ?z; (case F => k_asm); (case N => k_asm); (case l => kmk_list); (case p => kmk_part); (case q => kmk_part); (case i => assumption); (case m => exact kmk_upto (by assumption) (by decide)); (case s => with_unfolding_all rfl); (case t => kmk_pure); (case z => assumption)); intro D' ws' h' F' N' l1 hI' hC' hL'; (try k_lt l1)))
local macro_rules | `(tactic| walk_at "subscriptTail List Slice ref ref") => `(tactic| (k_here; (with_reducible show wpAny _ _ (subscriptTail _ (PySem.Expr.Slice _ _ none _) (Value.ref _) (Value.ref _)) _ _ _); k_dflt (refine' kmk_slice_ints ?F ?N ?l ?p ?q ?i ?m rfl ?_ ?s ?t ?z; (case F => k_asm); (case N => k_asm); (case l => kmk_list); (case p => kmk_part); (case q => kmk_part); (case i => exact .cons _ _ (.cons _ _ (.cons _ _ .nil))); (case m => exact kmk_from (.cons _ _ (.cons _ _ (.cons _ _ .nil))) (by omega)); (case s => with_unfolding_all rfl); (case t => kmk_pure); (case z => exact three_fits)); intro D' ws' h' F' N' l1 hI' hC' hL'; (try k_lt l1)))
set_option rowWalk.seconds 0
set_option maxRecDepth 100000 in
set_option maxHeartbeats 8000000 in
theorem law_holds : PySem.Challenge.rw_pe0033_01.Holds := hd (by
  k_fill
  intro w s₀ s₁ mg mb G Y fa o pm cd doc dV kV ho hd hcd hD hmg hg args vals as hpre hlay hrd hwl hlo
  have KX := kIn_of Y
  have X := (Ground.X G).1
  have V := (Ground.X G).2
  try w_nolog (first | (have GL := glob_more (Ground.glob G (by first | k_qdec | decide +kernel) (by first | k_qdec | decide +kernel)) V) | (have GL := glob_more (Ground.glob G (by decide +kernel)) V))
  refine Ground.open G ?_
  intro T B D TE TW
  try (refine guard_noD D (by decide +kernel) ?_; clear D)
  obtain ⟨_, _, M⟩ := bmod_of_top T
  have TA := at_of_top T
  try (obtain ⟨_, _, he, B0⟩ := based_of_top T rfl hmg ho hd; have he' : cd = _ := he; subst he'; clear he)
  clear hmg
  wrow_args hpre hlay hrd hwl hlo
  first | refine callC_kw (enter_call ?_) | refine enter_call ?_ | refine callC_kw (enter_callW ?_) | refine enter_callW ?_ | w_how
  w_top on
  have K0 := below_caller (Top.heap T)
  w_call any ho hd hcd hD T F
  clear hd TA
  k_drop
  rename ¬ _ < _ => hlen
  rename IntsAre _ _ => hI
  have hz := kmk_sz hI (by rw [sizeLine_eq]; omega)
  (try k_fold)
  k_steps
  unfold Rest
  rename Fr _ _ _ _ => F9
  rename News _ _ _ _ => N9
  rename IntsAre _ (List.map _ _) => iX
  obtain ⟨a, b, c, ta, tb, tc, hys, ha, hb, hc⟩ := sizesOf iX
  rw [hys] at N9
  refine law_tail K0 F9 (by assumption) T (fun p hp => N9 p (by rw [List.mem_singleton.mp hp]; exact .tail _ (.tail _ (.head _)))) ha hb hc (end3 _) (.of_eq hg) ?_
  intro h' tk' gens' F' hb'
  exact good_true F' hb' (fun _ => by rfl) (post_true _))
end Mine
end
theorem PySem.Challenge.cw_pe0033_01_holds : PySem.Challenge.rw_pe0033_01.Holds :=
  Mine.law_holds
