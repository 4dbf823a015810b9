import PyProof.Rows.All
import Wide.All
import OpenK.AllK
import Wide.FinOn
import PySem.Challenge.RW_pg0030_01
set_option Elab.async false
set_option compiler.extract_closed false
-- Top0
section
open PySem PySem.W PyProof.Rows
set_option Elab.async false
set_option maxRecDepth 100000
set_option maxHeartbeats 8000000
open_top Mine.hd for PySem.Challenge.rw_pg0030_01
end
-- P1
section
open PySem PySem.W PyProof.Rows
namespace Mine

def digN (n : Nat) : List Nat := if n = 0 then [] else digN (n / 16) ++ [n % 16]
termination_by n
decreasing_by omega

theorem digN_zero : digN 0 = [] := by rw [digN]; simp
theorem digN_pos {n : Nat} (h : n ≠ 0) : digN n = digN (n / 16) ++ [n % 16] := by rw [digN, if_neg h]
theorem digN_len : ∀ (k n : Nat), n < 16 ^ k → (digN n).length ≤ k
  | 0, n, h => by
    have : n = 0 := by simpa using h
    subst this; simp [digN_zero]
  | k + 1, n, h => by
    by_cases hn : n = 0
    · subst hn; simp [digN_zero]
    · rw [digN_pos hn, List.length_append, List.length_singleton]
      have := digN_len k (n / 16) (by rw [Nat.pow_succ] at h; omega)
      omega
theorem digN_lt : ∀ (n d : Nat), d ∈ digN n → d < 16 := by
  intro n
  induction n using Nat.strongRecOn with
  | ind n ih =>
    intro d hd
    by_cases hn : n = 0
    · subst hn; simp [digN_zero] at hd
    · rw [digN_pos hn, List.mem_append] at hd
      rcases hd with hd | hd
      · exact ih (n / 16) (by omega) d hd
      · simp at hd; omega

/-- the letters of a number, as ints -/
def wd (x : Int) : List Int := (digN x.toNat).map fun (d : Nat) => 65 + (d : Int)
theorem wd_zero : wd 0 = [] := by simp [wd, digN_zero]
theorem wd_pos {x : Int} (h : 0 < x) : wd x = wd (x / 16) ++ [65 + x % 16] := by
  have h1 : x.toNat ≠ 0 := by omega
  have h2 : (x / 16).toNat = x.toNat / 16 := by omega
  unfold wd
  rw [digN_pos h1, List.map_append, h2]
  simp
  omega
theorem wd_len {x : Int} {k : Nat} (h : x < 16 ^ k) : (wd x).length ≤ k := by
  unfold wd
  rw [List.length_map]
  by_cases h0 : 0 ≤ x
  · exact digN_len k x.toNat (by
      have : (x.toNat : Int) < ((16 ^ k : Nat) : Int) := by rw [Int.toNat_of_nonneg h0]; simpa using h
      exact_mod_cast this)
  · have : x.toNat = 0 := by omega
    rw [this, digN_zero]; simp
theorem wd_in {x k : Int} (h : k ∈ wd x) : 65 ≤ k ∧ k < 81 := by
  obtain ⟨d, hd, rfl⟩ := List.mem_map.mp h
  have := digN_lt _ _ hd
  omega
theorem byteArr_ints (b : Array UInt8) : byteArr (KBw.bInts b) = b := by
  obtain ⟨l⟩ := b
  have : ((fun n : Int => n.toNat.toUInt8) ∘ fun c : UInt8 => (c.toNat : Int)) = id := by
    funext c
    simp
  simp only [byteArr, KBw.bInts, List.map_map, this, List.map_id]
theorem bytes_of_ints {b : Array UInt8} {ks : List Int} (h : KBw.bInts b = ks) : b = byteArr ks := by rw [← h, byteArr_ints]
end Mine
end
-- C1
section
open PySem PySem.W PyProof.Rows
set_option Elab.async false
set_option maxRecDepth 100000
set_option maxHeartbeats 8000000
namespace Mine

/-- the heap's objects below an address -/
def cutH (C : Addr) (h : Heap) : Heap := ⟨h.objs.extract 0 C, h.life⟩
theorem cutH_get {C : Addr} {h : Heap} {b : Addr} {o : Obj} : (cutH C h).get? b = some o ↔ b < C ∧ h.get? b = some o := by
  rw [Heap.get?_some_iff, Heap.get?_some_iff]
  unfold cutH
  simp only [Array.getElem?_extract, Nat.zero_add, Nat.sub_zero]
  constructor
  · rintro ⟨h1, h2⟩
    split at h1
    · rename_i hb; exact ⟨(Nat.lt_min.mp hb).1, h1, h2⟩
    · cases h1
  · rintro ⟨h0, h1, h2⟩
    have hb := (Array.getElem?_eq_some_iff.mp h1).1
    rw [if_pos (Nat.lt_min.mpr ⟨h0, hb⟩)]
    exact ⟨h1, h2⟩
theorem cutH_size (C : Addr) (h : Heap) : (cutH C h).objs.size ≤ C := by
  unfold cutH; simp only [Array.size_extract]; exact Nat.le_trans (Nat.sub_le _ _) (Nat.min_le_left _ _)
theorem cutH_fr {C : Addr} {h : Heap} {m : Str → Option Value} (hn : h.Ns C m) : Fr (cutH C h) C h m := ⟨hn, fun _ _ e => (cutH_get.mp e).2, cutH_size C h⟩
theorem cutH_none {C b : Addr} {h : Heap} (hb : C ≤ b) : (cutH C h).get? b = none := by
  cases e : (cutH C h).get? b with
  | none => rfl
  | some o => exact absurd (cutH_get.mp e).1 (Nat.not_lt.mpr hb)

theorem eqN {a b : Nat} (h : a = b) : a = b := h
def CEnd (B : Heap) (C : Addr) (s₃ : Shared) (K : Value → List (Addr × Obj) → Prop) (y : Value) (s' : Shared) : Prop :=
  ∃ h' tk m' news', s' = { s₃ with heap := h', toks := tk } ∧ Fr B C h' m' ∧ News B C h' news' ∧ (∀ p ∈ news', @LT.lt Nat _ C p.1) ∧ K y news'
theorem CEnd.intro {B : Heap} {C : Addr} {s₃ : Shared} {K : Value → List (Addr × Obj) → Prop} {y : Value} {h' : Heap} {tk : Nat} {m' : Str → Option Value} {news' : List (Addr × Obj)} (F : Fr B C h' m') (N : News B C h' news') (hc : ∀ p ∈ news', @LT.lt Nat _ C p.1) (k : K y news') : CEnd B C s₃ K y { s₃ with heap := h', toks := tk } := ⟨h', tk, m', news', rfl, F, N, hc, k⟩
theorem CEnd.pure {B : Heap} {C : Addr} {s₃ : Shared} {K : Value → List (Addr × Obj) → Prop} {y : Value} {h' : Heap} {tk : Nat} {m' : Str → Option Value} (F : Fr B C h' m') (k : K y []) : CEnd B C s₃ K y { s₃ with heap := h', toks := tk } := ⟨h', tk, m', [], rfl, F, News.nil, (fun _ hp => nomatch hp), k⟩

abbrev testsOf (ifs : List Expr) (env : Env) : Sem Bool := forIn ifs true fun c r => if r = true then do let ok ← isTrue c env (eval c env); pure (ForInStep.yield ok) else pure (ForInStep.yield r)

def CTurn (prog : Program) (w : World) (A : Around) (env : Env) (scope : Scope) (cl : List (Str × Addr)) (x : Str) (ifs : List Expr) (elt : Expr) (I : Addr) (n : Nat) (P : Nat → Value → Prop) (s₂ : Shared) (Inv : Nat → List Value → List (Addr × Obj) → Prop) : Prop :=
  ∀ (B : Heap) (C : Addr) (i : Nat) (v : Value) (ys : List Value) (news : List (Addr × Obj)) (s₃ : Shared) (m₃ : Str → Option Value) (E' : Value → Shared → Prop), (s₂.heap.objs.size ≤ C ∧ ∀ p ∈ news, @LT.lt Nat _ C p.1) → (∀ b o, b ≠ I → s₂.heap.get? b = some o → B.get? b = some o) → i < n → P i v → Inv i ys news →
    Fr B C s₃.heap m₃ → News B C s₃.heap news → m₃ x = some v →
    wpAny (model prog w) A (testsOf ifs (compEnvC scope cl C env)) (fun ok s₄ => if ok = true then wpAny (model prog w) A (eval elt (compEnvC scope cl C env)) (CEnd B C s₃ (fun y news' => Inv (i + 1) (ys ++ [y]) news')) E' s₄
      else CEnd B C s₃ (fun _ news' => Inv (i + 1) ys news') .none s₄) E' s₃

section
variable {prog : Program} {w : World} {A : Around} {E : Value → Shared → Prop} {env : Env}
theorem comp_block {elt iter : Expr} {x : Str} {px : Pos} {ifs : List Expr} {scope : Scope} {cl : List (Str × Addr)} {pos : Pos} {s₂ : Shared} {I : Addr} {fp : List Addr} {n : Nat} {P : Nat → Value → Prop}
    {St : Nat → Heap → Prop} (W : Walks prog w A I fp [I] n P St) (hsz : n ≤ sizeLine) {RR : Value → Addr → Result → Shared → Prop} (Inv : Nat → List Value → List (Addr × Obj) → Prop)
    (hcell : ∀ y ∈ scope.names, y.2 ≠ .cell) (hkind : scope.kind = .function) (hx : scope.names.lookup x = some .local) (hst : St 0 s₂.heap) (hfp : ∀ b ∈ fp, b < s₂.heap.objs.size)
    (h0 : Inv 0 [] []) (hi : ∀ i ys news, Inv i ys news → ys.length ≤ i)
    (turn : CTurn prog w A env scope cl x ifs elt I n P s₂ Inv)
    (hRR : ∀ D C h' tk m' ys news, @LE.le Nat _ s₂.heap.objs.size D → s₂.heap.get? D = none → s₂.heap.get? C = none → D ≠ C → h'.Ns C m' → h'.PlainList D ys.toArray → (∀ p ∈ news, h'.get? p.1 = some p.2 ∧ s₂.heap.get? p.1 = none ∧ p.1 ≠ D ∧ p.1 ≠ C) → Inv n ys news →
      (∀ b o, b ≠ I → s₂.heap.get? b = some o → h'.get? b = some o) → RR (.ref D) C (.ok .next) { s₂ with heap := h', toks := tk }) :
    wpAny (model prog w) A (newList []) (fun acc s₃ => wpAny (model prog w) A (newFunctionEnv scope env.globals cl [] env.qual none .none (some env)) (fun cenv s₄ =>
      codeAny (model prog w) A (.compStart (.ListComp elt [⟨.Name x px, iter, ifs, 0⟩] scope pos) 0 (.ref I) acc { cenv with scope := relabel scope env }) (RR acc cenv.locals) s₄) E s₃) E s₂ := by
  refine wpAny_newObj_type (wpAny_newFunctionEnv hcell (by intro y hy; simp at hy) (fun h₁ hns₁ hsb₁ => ?_) hkind)
  dsimp only at hns₁ hsb₁ ⊢
  generalize hH2 : s₂.heap.push { cls := .type "list", dict := none, data := .seq ([] : List Value).toArray } = H2 at hns₁ hsb₁ ⊢
  have hC : H2.objs.size = s₂.heap.objs.size + 1 := by rw [← hH2, Heap.size_push]
  have hDC : s₂.heap.objs.size ≠ H2.objs.size := by rw [hC]; exact Nat.ne_of_lt (Nat.lt_succ_self _)
  have hDltC : s₂.heap.objs.size < H2.objs.size := by rw [hC]; exact Nat.lt_succ_self _
  have below : ∀ b, b < s₂.heap.objs.size → b ≠ H2.objs.size ∧ b ≠ s₂.heap.objs.size := fun b hb => ⟨by rw [hC]; exact Nat.ne_of_lt (Nat.lt_succ_of_lt hb), Nat.ne_of_lt hb⟩
  have hIf : I ∈ fp := W.sub I (List.mem_singleton.mpr rfl)
  have hIlt : I < s₂.heap.objs.size := hfp I hIf
  have old : ∀ b o, s₂.heap.get? b = some o → h₁.get? b = some o := fun b o e => hsb₁.extBut b o (below b (Heap.lt_size e)).1 (Heap.get?_push_of_some _ (hH2 ▸ Heap.get?_push_of_some _ e))
  have hacc : h₁.PlainList s₂.heap.objs.size #[] := ⟨_, hsb₁.extBut _ _ hDC (Heap.get?_push_of_some _ (hH2 ▸ Heap.get?_push_size _ rfl))⟩
  have hst₁ : St 0 h₁ := W.frame _ _ _ hst fun b _ o e => old b o e
  have fresh : ∀ a, s₂.heap.objs.size ≤ a → s₂.heap.get? a = none := fun a ha => by
    cases e : s₂.heap.get? a with
    | none => rfl
    | some o' => exact absurd (Heap.lt_size e) (Nat.not_lt.mpr ha)
  generalize hCe : H2.objs.size = C at *
  generalize hDe : s₂.heap.objs.size = D at *
  have hCN := eqN hC
  have hIN := ltN hIlt
  have loop : ∀ s₃ : Shared, s₃ = { s₂ with heap := h₁, toks := s₂.toks + ([] : List (Str × Value)).length } →
      codeAny (model prog w) A (.compLoop (.ListComp elt [⟨.Name x px, iter, ifs, 0⟩] scope pos) 0 (.ref I) (.ref D) (compEnvC scope cl C env))
        (RR (.ref D) C) s₃ := by
    rintro s₃ rfl
    refine codeAny_compLoop_tests
      (fun k s' => ∃ h' tk i ys m' news', s' = { s₂ with heap := h', toks := tk } ∧ i ≤ n ∧ k = n + 1 - i ∧ St i h' ∧ h'.Ns C m' ∧ h'.PlainList D ys.toArray ∧
        (∀ p ∈ news', h'.get? p.1 = some p.2 ∧ @LT.lt Nat _ C p.1) ∧ Inv i ys news' ∧ (∀ b o, b ≠ I → s₂.heap.get? b = some o → h'.get? b = some o)) ?_ (n + 1)
      ⟨h₁, _, 0, [], _, [], rfl, Nat.zero_le _, rfl, hst₁, hns₁, hacc, fun p hp => (by cases hp), h0, fun b o _ e => old b o e⟩
    rintro k s' ⟨h', tk, i, ys, m', news', rfl, hile, rfl, hst', hn', hacc', hN', hInv, hk⟩
    have hIC : C ≠ I := neN (by omega)
    have hID : D ≠ I := neN (by omega)
    by_cases hlt : i < n
    · refine W.item i _ _ _ hlt hst' fun v h₂ tk₂ hPv hst₂ hk₂ => ?_
      have hk₂' : ∀ b o, b ≠ I → h'.get? b = some o → h₂.get? b = some o := fun b o hb e => hk₂ b o (by simpa using hb) e
      refine wpAny_assign_Name (wpAny_storeName_local (env := compEnvC scope cl C env) (lookup_relabel_local hx) (hn'.at' fun o e => hk₂' _ o hIC e) (fun h₃ hn₃ hs₃ => ?_) (by simp [compEnvC, relabel, hkind]))
      have hn₃' : h₃.Ns C (fun y => if y = x then some v else m' y) := hn₃
      have hs₃' : ∀ b o, b ≠ C → h₂.get? b = some o → h₃.get? b = some o := fun b o hb e => hs₃.extBut b o hb e
      have hst₃ : St (i + 1) h₃ := W.frame _ _ _ hst₂ fun b hb o e => hs₃' b o (neN (by have := ltN (hfp b hb); omega)) e
      have hacc₃ : h₃.PlainList D ys.toArray := let ⟨nn, e⟩ := hacc'; ⟨nn, hs₃' _ _ hDC (hk₂' _ _ hID e)⟩
      have N₃ : News (cutH C h₃) C h₃ news' := fun p hp => ⟨hs₃' _ _ (neN (by have := (hN' p hp).2; omega)) (hk₂' _ _ (neN (by have := (hN' p hp).2; omega)) (hN' p hp).1), neN (by have := (hN' p hp).2; omega), cutH_none (Nat.le_of_lt (hN' p hp).2)⟩
      have sB : ∀ b o, b ≠ I → s₂.heap.get? b = some o → (cutH C h₃).get? b = some o := fun b o hb e => by
        have hbD : @LT.lt Nat _ b D := by rw [← hDe]; exact Heap.lt_size e
        exact cutH_get.mpr ⟨ltN (by omega), hs₃' _ _ (neN (by omega)) (hk₂' _ _ hb (hk b o hb e))⟩
      refine wpAny_mono (turn (cutH C h₃) C i v ys news' { s₂ with heap := h₃, toks := tk₂ + 1 } _ _ ⟨by rw [hDe]; exact Nat.le_of_lt hDltC, fun p hp => (hN' p hp).2⟩ sB hlt hPv hInv (cutH_fr hn₃') N₃ (by simp)) (fun ok s₄ h₄ => ?_) fun _ _ e => e
      have done : ∀ (ys' : List Value) (h₅ h₆ : Heap) (tk₅ : Nat) (m₅ : Str → Option Value) (news₅ : List (Addr × Obj)), Fr (cutH C h₃) C h₅ m₅ → News (cutH C h₃) C h₅ news₅ → (∀ p ∈ news₅, @LT.lt Nat _ C p.1) → Inv (i + 1) ys' news₅ → Heap.SameBut D h₅ h₆ → h₆.PlainList D ys'.toArray →
          ∃ m, m < n + 1 - i ∧ ∃ h' tk i ys m' news', ({ s₂ with heap := h₆, toks := tk₅ } : Shared) = { s₂ with heap := h', toks := tk } ∧ i ≤ n ∧ m = n + 1 - i ∧ St i h' ∧ h'.Ns C m' ∧ h'.PlainList D ys.toArray ∧
            (∀ p ∈ news', h'.get? p.1 = some p.2 ∧ @LT.lt Nat _ C p.1) ∧ Inv i ys news' ∧ (∀ b o, b ≠ I → s₂.heap.get? b = some o → h'.get? b = some o) := fun ys' h₅ h₆ tk₅ m₅ news₅ F₅ N₅ C₅ I₅ S₅ P₅ => by
        have k₅ : ∀ b o, b ≠ D → (cutH C h₃).get? b = some o → h₆.get? b = some o := fun b o hb e => S₅.extBut b o hb (F₅.keep b o e)
        refine ⟨n + 1 - (i + 1), by omega, h₆, tk₅, i + 1, ys', m₅, news₅, rfl, hlt, rfl, W.frame _ _ _ hst₃ (fun b hb o e => ?_), F₅.ns.sameBut S₅ (Ne.symm hDC), P₅, fun p hp => ⟨S₅.extBut _ _ (neN (by have := C₅ p hp; omega)) (N₅ p hp).1, C₅ p hp⟩, I₅, fun b o hb e => ?_⟩
        · have := ltN (hfp b hb)
          exact k₅ b o (neN (by omega)) (cutH_get.mpr ⟨ltN (by omega), e⟩)
        · have hbD : @LT.lt Nat _ b D := by rw [← hDe]; exact Heap.lt_size e
          exact k₅ b o (neN (by omega)) (sB b o hb e)
      cases ok with
      | false =>
        simp only [Bool.false_eq_true, if_false] at h₄ ⊢
        obtain ⟨h₅, tk₅, m₅, news₅, rfl, F₅, N₅, C₅, I₅⟩ := h₄
        exact done ys h₅ h₅ tk₅ m₅ news₅ F₅ N₅ C₅ I₅ (Heap.SameBut.refl _ _) (let ⟨nn, e⟩ := hacc₃; ⟨nn, F₅.keep _ _ (cutH_get.mpr ⟨hDltC, e⟩)⟩)
      | true =>
        simp only [if_true] at h₄ ⊢
        refine wpAny_mono h₄ (fun y s₅ h₅ => ?_) fun _ _ e => e
        obtain ⟨h₅, tk₅, m₅, news₅, rfl, F₅, N₅, C₅, I₅⟩ := h₅
        have hacc₅ : h₅.PlainList D ys.toArray := let ⟨nn, e⟩ := hacc₃; ⟨nn, F₅.keep _ _ (cutH_get.mpr ⟨hDltC, e⟩)⟩
        obtain ⟨nn, e₅⟩ := hacc₅
        refine append_at (hsz := by show ys.toArray.size ≤ sizeLine; rw [List.size_toArray]; exact Nat.le_trans (hi _ _ _ hInv) (Nat.le_trans hile hsz)) e₅ fun h₆ hs₆ hD₆ => ?_
        exact done (ys ++ [y]) h₅ h₆ tk₅ m₅ news₅ F₅ N₅ C₅ I₅ hs₆ ⟨nn + 1, by rw [hD₆]; simp [List.push_toArray]⟩
    · have hin : i = n := by omega
      subst hin
      refine W.done _ _ _ hst' fun h₂ tk₂ hk₂ => ?_
      have hk₂' : ∀ b o, b ≠ I → h'.get? b = some o → h₂.get? b = some o := fun b o hb e => hk₂ b o (by simpa using hb) e
      refine hRR D C h₂ tk₂ m' ys news' (Nat.le_refl _) (fresh _ (Nat.le_refl _)) (fresh _ (Nat.le_of_lt hDltC)) hDC (hn'.at' fun o e => hk₂' _ o hIC e) (let ⟨nn, e⟩ := hacc'; ⟨nn, hk₂' _ _ hID e⟩) (fun p hp => ?_) hInv fun b o hb e => hk₂' b o hb (hk b o hb e)
      have hp1 := hN' p hp
      exact ⟨hk₂' _ _ (neN (by omega)) hp1.1, fresh _ (Nat.le_of_lt (ltN (by omega))), neN (by omega), neN (by omega)⟩
  exact codeAny_compStart_list (loop _ rfl) (W.self 0 _ _ _ hst₁ (loop _ rfl))

def LcSrc (prog : Program) (w : World) (A : Around) (env : Env) (scope : Scope) (cl : List (Str × Addr)) (x : Str) (ifs : List Expr) (elt : Expr) (Q : Value → Shared → Prop) (it : Value) (s₂ : Shared) : Prop :=
  ∃ I fp n P St Inv, it = .ref I ∧ Walks prog w A I fp [I] n P St ∧ n ≤ sizeLine ∧ St 0 s₂.heap ∧ (∀ b ∈ fp, b < s₂.heap.objs.size) ∧ Inv 0 [] [] ∧ (∀ i ys news, Inv i ys news → ys.length ≤ i) ∧
    CTurn prog w A env scope cl x ifs elt I n P s₂ Inv ∧
    (∀ D h' tk ys news, @LE.le Nat _ s₂.heap.objs.size D → s₂.heap.get? D = none → h'.PlainList D ys.toArray → (∀ p ∈ news, h'.get? p.1 = some p.2 ∧ s₂.heap.get? p.1 = none ∧ p.1 ≠ D) → Inv n ys news →
      (∀ b o, b ≠ I → s₂.heap.get? b = some o → h'.get? b = some o) → Q (.ref D) { s₂ with heap := h', toks := tk })

theorem lc_eval {s : Shared} {elt iter : Expr} {x : Str} {px : Pos} {ifs : List Expr} {scope : Scope} {cl : List (Str × Addr)} {pos : Pos} {Q : Value → Shared → Prop}
    (hclos : closureFor scope env = pure cl) (hcell : ∀ y ∈ scope.names, y.2 ≠ .cell) (hkind : scope.kind = .function)
    (hnames : ∀ y ∈ scope.names, y.2 = .local → scope.names.lookup y.1 = some .local) (hx : scope.names.lookup x = some .local)
    (h : wpAny (model prog w) A (eval iter env) (fun xv s₁ => wpAny (model prog w) A (pyIter xv) (LcSrc prog w A env scope cl x ifs elt Q) E s₁) E s)
    (hs : ∀ x, foldedSetIterable iter env x = pure x := by intro _; rfl) :
    wpAny (model prog w) A (eval (.ListComp elt [⟨.Name x px, iter, ifs, 0⟩] scope pos) env) Q E s := by
  rw [eval_ListComp]
  refine wpAny_comprehension_free (use := none) rfl hs hclos hkind hnames (wpAny_mono h (fun xv s₁ h₁ => wpAny_mono h₁ (fun it s₂ h₂ => ?_) fun _ _ e => e) fun _ _ e => e)
  obtain ⟨I, fp, n, P, St, Inv, rfl, W, hsz, hst, hfp, h0, hlen, hq, hQ⟩ := h₂
  refine comp_block (RR := fun acc C => compPost (model prog w) A E none Q acc C) W hsz Inv hcell hkind hx hst hfp h0 hlen hq ?_
  intro D C h' tk m' ys news hDs hD hC hDC hn hpl hN hInv hk
  exact ⟨m', hn, fun h'' hs'' => hQ D h'' tk ys news hDs hD (hpl.extBut hs''.extBut hDC) (fun p hp => ⟨hs''.extBut _ _ (hN p hp).2.2.2 (hN p hp).1, (hN p hp).2.1, (hN p hp).2.2.1⟩) hInv fun b o hb e => hs''.extBut b o (by rintro rfl; rw [hC] at e; cases e) (hk b o hb e)⟩

def LcSrcA (prog : Program) (w : World) (A : Around) (env : Env) (scope : Scope) (cl : List (Str × Addr)) (x y : Str) (ifs : List Expr) (elt : Expr) (Q : Flow → Shared → Prop) (it : Value) (s₂ : Shared) : Prop :=
  ∃ I fp n P St Inv m, it = .ref I ∧ Walks prog w A I fp [I] n P St ∧ n ≤ sizeLine ∧ St 0 s₂.heap ∧ (∀ b ∈ fp, b < s₂.heap.objs.size) ∧ Inv 0 [] [] ∧ (∀ i ys news, Inv i ys news → ys.length ≤ i) ∧
    CTurn prog w A env scope cl x ifs elt I n P s₂ Inv ∧ env.locals ≠ I ∧ s₂.heap.Ns env.locals m ∧
    (∀ D h' tk ys news, @LE.le Nat _ s₂.heap.objs.size D → s₂.heap.get? D = none → h'.PlainList D ys.toArray → (∀ p ∈ news, h'.get? p.1 = some p.2 ∧ s₂.heap.get? p.1 = none ∧ p.1 ≠ D) → Inv n ys news →
      h'.Ns env.locals (fun z => if z = y then some (.ref D) else m z) → (∀ b o, b ≠ env.locals → b ≠ I → s₂.heap.get? b = some o → h'.get? b = some o) → Q .next { s₂ with heap := h', toks := tk })

theorem lc_assign {s : Shared} {elt iter : Expr} {x y : Str} {px py : Pos} {ifs : List Expr} {scope : Scope} {cl : List (Str × Addr)} {pos spos : Pos} {Q : Flow → Shared → Prop}
    (hsw : swapsWith (.ListComp elt [⟨.Name x px, iter, ifs, 0⟩] scope pos) (some (.Name y py)) spos.line env = pure true)
    (hclos : closureFor scope env = pure cl) (hcell : ∀ z ∈ scope.names, z.2 ≠ .cell) (hkind : scope.kind = .function)
    (hnames : ∀ z ∈ scope.names, z.2 = .local → scope.names.lookup z.1 = some .local) (hx : scope.names.lookup x = some .local)
    (hy : env.kindOf y = some .local) (hp : (env.scope.kind == .class || (env.scope.kind == .module && env.locals != env.globals)) = false)
    (h : wpAny (model prog w) A (eval iter env) (fun xv s₁ => wpAny (model prog w) A (pyIter xv) (LcSrcA prog w A env scope cl x y ifs elt Q) E s₁) E s)
    (hs : ∀ x, foldedSetIterable iter env x = pure x := by intro _; rfl) :
    wpAny (model prog w) A (exec (.Assign [.Name y py] (.ListComp elt [⟨.Name x px, iter, ifs, 0⟩] scope pos) spos) env) Q E s := by
  rw [exec_Assign_Name_used _ _ _ _ hsw]
  refine wpAny_bind (wpAny_standAt (wpAny_bind ?_))
  show wpAny _ A (do let _ ← comprehension (.ListComp elt [⟨.Name x px, iter, ifs, 0⟩] scope pos) scope env _ (newList []) false (eval iter env) (some (assign (.Name y py) env))) _ _ s
  refine wpAny_bind (wpAny_mono (wpAny_comprehension_free (use := some (assign (.Name y py) env)) (Q := fun _ s' => Q .next s') rfl hs hclos hkind hnames
    (wpAny_mono h (fun xv s₁ h₁ => wpAny_mono h₁ (fun it s₂ h₂ => ?_) fun _ _ e => e) fun _ _ e => e)) (fun _ s' hq => wpAny_pure (wpAny_pure hq)) fun _ _ e => e)
  obtain ⟨I, fp, n, P, St, Inv, m, rfl, W, hsz, hst, hfp, h0, hlen, hq, hLI, hnL, hQ⟩ := h₂
  refine comp_block (RR := fun acc C => compPost (model prog w) A E (some (assign (.Name y py) env)) (fun _ s' => Q .next s') acc C) W hsz Inv hcell hkind hx hst hfp h0 hlen hq ?_
  intro D C h' tk m' ys news hDs hD hC hDC hn hpl hN hInv hk
  obtain ⟨oL, _, _, hoL, _⟩ := id hnL
  have hLC : env.locals ≠ C := by rintro rfl; rw [hC] at hoL; cases hoL
  have hLD : env.locals ≠ D := by rintro rfl; rw [hD] at hoL; cases hoL
  show wpAny _ A (assign (.Name y py) env (.ref D)) _ _ _
  refine wpAny_assign_Name (wpAny_storeName_local hy (hnL.at' fun o e => hk _ o hLI e) (fun h₂ hn₂ hs₂ => ?_) hp)
  refine ⟨m', hn.sameBut hs₂ (Ne.symm hLC), fun h₃ hs₃ => ?_⟩
  refine hQ D h₃ _ ys news hDs hD ((hpl.extBut hs₂.extBut (Ne.symm hLD)).extBut hs₃.extBut hDC) (fun p hp => ⟨?_, (hN p hp).2.1, (hN p hp).2.2.1⟩) hInv (hn₂.sameBut hs₃ hLC) fun b o hbL hb e => hs₃.extBut b o (by rintro rfl; rw [hC] at e; cases e) (hs₂.extBut b o hbL (hk b o hb e))
  have hpL : p.1 ≠ env.locals := by intro e; have := (hN p hp).2.1; rw [e, hoL] at this; cases this
  exact hs₃.extBut _ _ (hN p hp).2.2.2 (hs₂.extBut _ _ hpL (hN p hp).1)

/-- a turn as the user sees it: the source's value, the block's frame and ledger over any heap that holds what stood before -/
def UTurn (prog : Program) (w : World) (A : Around) (env : Env) (scope : Scope) (cl : List (Str × Addr)) (x : Str) (ifs : List Expr) (elt : Expr) (n : Nat) (P : Nat → Value → Prop) (s₁ : Shared) (Inv : Nat → List Value → List (Addr × Obj) → Prop) : Prop :=
  ∀ (B : Heap) (C : Addr) (i : Nat) (v : Value) (ys : List Value) (news : List (Addr × Obj)) (s₃ : Shared) (m₃ : Str → Option Value) (E' : Value → Shared → Prop), (@LE.le Nat _ s₁.heap.objs.size C ∧ ∀ p ∈ news, @LT.lt Nat _ C p.1) → (∀ b o, s₁.heap.get? b = some o → B.get? b = some o) → i < n → P i v → Inv i ys news →
    Fr B C s₃.heap m₃ → News B C s₃.heap news → m₃ x = some v →
    wpAny (model prog w) A (testsOf ifs (compEnvC scope cl C env)) (fun ok s₄ => if ok = true then wpAny (model prog w) A (eval elt (compEnvC scope cl C env)) (CEnd B C s₃ (fun y news' => Inv (i + 1) (ys ++ [y]) news')) E' s₄
      else CEnd B C s₃ (fun _ news' => Inv (i + 1) ys news') .none s₄) E' s₃
def UFin (Q : Value → Shared → Prop) (n : Nat) (s₁ : Shared) (Inv : Nat → List Value → List (Addr × Obj) → Prop) : Prop :=
  ∀ D h' tk ys news, @LE.le Nat _ s₁.heap.objs.size D → s₁.heap.get? D = none → h'.PlainList D ys.toArray → (∀ p ∈ news, h'.get? p.1 = some p.2 ∧ s₁.heap.get? p.1 = none ∧ p.1 ≠ D) → Inv n ys news →
    (∀ b o, s₁.heap.get? b = some o → h'.get? b = some o) → Q (.ref D) { s₁ with heap := h', toks := tk }
def UFinA (Q : Flow → Shared → Prop) (L : Addr) (y : Str) (m : Str → Option Value) (n : Nat) (s₁ : Shared) (Inv : Nat → List Value → List (Addr × Obj) → Prop) : Prop :=
  ∀ D h' tk ys news, @LE.le Nat _ s₁.heap.objs.size D → s₁.heap.get? D = none → h'.PlainList D ys.toArray → (∀ p ∈ news, h'.get? p.1 = some p.2 ∧ s₁.heap.get? p.1 = none ∧ p.1 ≠ D) → Inv n ys news →
    h'.Ns L (fun z => if z = y then some (.ref D) else m z) → (∀ b o, b ≠ L → s₁.heap.get? b = some o → h'.get? b = some o) → Q .next { s₁ with heap := h', toks := tk }

section
variable {s₁ : Shared} {elt : Expr} {x y : Str} {ifs : List Expr} {scope : Scope} {cl : List (Str × Addr)} (Inv : Nat → List Value → List (Addr × Obj) → Prop)
theorem get_of_new {h : Heap} {a : Addr} (ha : @LE.le Nat _ h.objs.size a) : h.get? a = none := by
  cases e : h.get? a with
  | none => rfl
  | some o' => exact absurd (Heap.lt_size e) (Nat.not_lt.mpr ha)
theorem src_walk {Q : Value → Shared → Prop} {n : Nat} {fp : List Addr} {P : Nat → Value → Prop} {St : Nat → Heap → Prop} {oI : Obj} (W : Walks prog w A s₁.heap.objs.size fp [s₁.heap.objs.size] n P St) (hn : n ≤ sizeLine)
    (hst : St 0 (s₁.heap.push oI)) (hfp : ∀ b ∈ fp, @LE.le Nat _ b s₁.heap.objs.size) (h0 : Inv 0 [] []) (hlen : ∀ i ys news, Inv i ys news → ys.length ≤ i)
    (turn : UTurn prog w A env scope cl x ifs elt n P s₁ Inv) (fin : UFin Q n s₁ Inv) : LcSrc prog w A env scope cl x ifs elt Q (.ref s₁.heap.objs.size) { s₁ with heap := s₁.heap.push oI } := by
  have hsz : (s₁.heap.push oI).objs.size = s₁.heap.objs.size + 1 := Heap.size_push _ _
  refine ⟨_, fp, n, P, St, Inv, rfl, W, hn, hst, fun b hb => ?_, h0, hlen, ?_, ?_⟩
  · show b < (s₁.heap.push oI).objs.size
    rw [hsz]; exact Nat.lt_succ_of_le (hfp b hb)
  · intro B C i v ys news s₃ m₃ E' hC hB hi hP hI F N hx
    refine turn B C i v ys news s₃ m₃ E' ⟨?_, hC.2⟩ (fun b o e => hB b o (Nat.ne_of_lt (Heap.lt_size e)) (Heap.get?_push_of_some _ e)) hi hP hI F N hx
    have hC' : (s₁.heap.push oI).objs.size ≤ C := hC.1
    rw [hsz] at hC'; exact Nat.le_of_succ_le hC'
  · intro D h' tk ys news hDs hD hpl hN hI hk
    have hDs' : (s₁.heap.push oI).objs.size ≤ D := hDs
    rw [hsz] at hDs'
    refine fin D h' tk ys news (Nat.le_of_succ_le hDs') (get_of_new (Nat.le_of_succ_le hDs')) hpl (fun p hp => ⟨(hN p hp).1, ?_, (hN p hp).2.2⟩) hI fun b o e => hk b o (Nat.ne_of_lt (Heap.lt_size e)) (Heap.get?_push_of_some _ e)
    cases e : s₁.heap.get? p.1 with
    | none => rfl
    | some o => have h2 := (hN p hp).2.1; rw [Heap.get?_push_of_some _ e] at h2; cases h2
theorem srcA_walk {Q : Flow → Shared → Prop} {n : Nat} {fp : List Addr} {P : Nat → Value → Prop} {St : Nat → Heap → Prop} {oI : Obj} {m : Str → Option Value} (W : Walks prog w A s₁.heap.objs.size fp [s₁.heap.objs.size] n P St) (hn : n ≤ sizeLine)
    (hst : St 0 (s₁.heap.push oI)) (hfp : ∀ b ∈ fp, @LE.le Nat _ b s₁.heap.objs.size) (hL : s₁.heap.Ns env.locals m) (h0 : Inv 0 [] []) (hlen : ∀ i ys news, Inv i ys news → ys.length ≤ i)
    (turn : UTurn prog w A env scope cl x ifs elt n P s₁ Inv) (fin : UFinA Q env.locals y m n s₁ Inv) : LcSrcA prog w A env scope cl x y ifs elt Q (.ref s₁.heap.objs.size) { s₁ with heap := s₁.heap.push oI } := by
  have hsz : (s₁.heap.push oI).objs.size = s₁.heap.objs.size + 1 := Heap.size_push _ _
  refine ⟨_, fp, n, P, St, Inv, m, rfl, W, hn, hst, fun b hb => ?_, h0, hlen, ?_, Nat.ne_of_lt hL.lt, hL.push _, ?_⟩
  · show b < (s₁.heap.push oI).objs.size
    rw [hsz]; exact Nat.lt_succ_of_le (hfp b hb)
  · intro B C i v ys news s₃ m₃ E' hC hB hi hP hI F N hx
    refine turn B C i v ys news s₃ m₃ E' ⟨?_, hC.2⟩ (fun b o e => hB b o (Nat.ne_of_lt (Heap.lt_size e)) (Heap.get?_push_of_some _ e)) hi hP hI F N hx
    have hC' : (s₁.heap.push oI).objs.size ≤ C := hC.1
    rw [hsz] at hC'; exact Nat.le_of_succ_le hC'
  · intro D h' tk ys news hDs hD hpl hN hI hns hk
    have hDs' : (s₁.heap.push oI).objs.size ≤ D := hDs
    rw [hsz] at hDs'
    refine fin D h' tk ys news (Nat.le_of_succ_le hDs') (get_of_new (Nat.le_of_succ_le hDs')) hpl (fun p hp => ⟨(hN p hp).1, ?_, (hN p hp).2.2⟩) hI hns fun b o hbL e => hk b o hbL (Nat.ne_of_lt (Heap.lt_size e)) (Heap.get?_push_of_some _ e)
    cases e : s₁.heap.get? p.1 with
    | none => rfl
    | some o => have h2 := (hN p hp).2.1; rw [Heap.get?_push_of_some _ e] at h2; cases h2

theorem lc_list {Q : Value → Shared → Prop} {ax : Addr} {items : Array Value} (hh : A.handled = none) (hl : s₁.heap.IsList ax items) (hn : items.size ≤ sizeLine) (h0 : Inv 0 [] []) (hlen : ∀ i ys news, Inv i ys news → ys.length ≤ i)
    (turn : UTurn prog w A env scope cl x ifs elt items.size (fun i v => items[i]? = some v) s₁ Inv) (fin : UFin Q items.size s₁ Inv) :
    wpAny (model prog w) A (pyIter (.ref ax)) (LcSrc prog w A env scope cl x ifs elt Q) E s₁ := by
  have hax : ax < s₁.heap.objs.size := by obtain ⟨_, e, _⟩ := hl; exact Heap.lt_size e
  refine wpAny_pyIter_list hl (src_walk Inv (Walks.list hh _ ax (Nat.ne_of_lt hax) items) hn ⟨⟨_, Heap.get?_push_size _ rfl, rfl, rfl⟩, hl.push _⟩ (fun b hb => ?_) h0 hlen turn fin)
  rcases List.mem_cons.mp hb with rfl | hb
  · exact Nat.le_refl _
  · rw [List.mem_singleton.mp hb]; exact Nat.le_of_lt hax
theorem lc_listA {Q : Flow → Shared → Prop} {ax : Addr} {items : Array Value} {m : Str → Option Value} (hh : A.handled = none) (hl : s₁.heap.IsList ax items) (hn : items.size ≤ sizeLine) (hL : s₁.heap.Ns env.locals m) (h0 : Inv 0 [] []) (hlen : ∀ i ys news, Inv i ys news → ys.length ≤ i)
    (turn : UTurn prog w A env scope cl x ifs elt items.size (fun i v => items[i]? = some v) s₁ Inv) (fin : UFinA Q env.locals y m items.size s₁ Inv) :
    wpAny (model prog w) A (pyIter (.ref ax)) (LcSrcA prog w A env scope cl x y ifs elt Q) E s₁ := by
  have hax : ax < s₁.heap.objs.size := by obtain ⟨_, e, _⟩ := hl; exact Heap.lt_size e
  refine wpAny_pyIter_list hl (srcA_walk Inv (Walks.list hh _ ax (Nat.ne_of_lt hax) items) hn ⟨⟨_, Heap.get?_push_size _ rfl, rfl, rfl⟩, hl.push _⟩ (fun b hb => ?_) hL h0 hlen turn fin)
  rcases List.mem_cons.mp hb with rfl | hb
  · exact Nat.le_refl _
  · rw [List.mem_singleton.mp hb]; exact Nat.le_of_lt hax
theorem lc_bytes {Q : Value → Shared → Prop} {b : Array UInt8} {t : Tok} (hh : A.handled = none) (hn : b.size ≤ sizeLine) (h0 : Inv 0 [] []) (hlen : ∀ i ys news, Inv i ys news → ys.length ≤ i)
    (turn : UTurn prog w A env scope cl x ifs elt b.size (fun i v => ∃ c u, b[i]? = some c ∧ v = .int (c.toNat : Int) u) s₁ Inv) (fin : UFin Q b.size s₁ Inv) :
    wpAny (model prog w) A (pyIter (.bytes b t)) (LcSrc prog w A env scope cl x ifs elt Q) E s₁ := by
  refine KBw.pyIter_bytes (src_walk Inv (KBw.walks hh _ b t) hn ⟨_, Heap.get?_push_size _ rfl, rfl, rfl⟩ (fun b' hb => ?_) h0 hlen turn fin)
  rw [List.mem_singleton.mp hb]; exact Nat.le_refl _
end
end
end Mine
end
-- P2
section
open PySem PySem.W PyProof.Rows
namespace Mine
/-- a text by its signs -/
def sL (l : List Nat) : Str := ⟨l.toArray⟩
theorem sL_app (a b : List Nat) : sL a ++ sL b = sL (a ++ b) := by
  show (⟨a.toArray ++ b.toArray⟩ : Str) = ⟨(a ++ b).toArray⟩
  simp
theorem sL_inj {a b : List Nat} (h : sL a = sL b) : a = b := by
  have := congrArg (fun s : Str => s.cps.toList) h
  simpa [sL] using this
theorem sL_len (a : List Nat) : (sL a).length = a.length := by simp [sL, Str.length]
theorem glue_fold (ps : List Str) (acc : Array Nat) : ps.foldl (fun acc p => acc ++ (Str.ofString "").cps ++ p.cps) acc = acc ++ (ps.flatMap fun p => p.cps.toList).toArray := by
  have e : (Str.ofString "").cps = #[] := by decide
  induction ps generalizing acc with
  | nil => simp
  | cons p r ih =>
    obtain ⟨⟨l⟩⟩ := p
    rw [List.foldl_cons, ih, e]; simp
theorem join_sL (ls : List (List Nat)) : Txt.join (Str.ofString "") (ls.map sL) = sL ls.flatten := by
  unfold Txt.join
  show (⟨((ls.map sL).drop 1).foldl (fun acc p => acc ++ (Str.ofString "").cps ++ p.cps) ((ls.map sL).headD Str.empty).cps⟩ : Str) = _
  rw [glue_fold]
  cases ls with
  | nil => simp [sL, Str.empty]
  | cons a r => simp [sL, List.flatMap_map, List.flatMap_id']
theorem flat_single {α β : Type} (f : α → β) : ∀ l : List α, (l.map fun c => [f c]).flatten = l.map f
  | [] => rfl
  | a :: r => by rw [List.map_cons, List.flatten_cons, flat_single f r]; rfl
end Mine
namespace Mine
/-- the letters of a number, as signs -/
def lw (x : Int) : List Nat := (digN x.toNat).map fun (d : Nat) => 65 + d
theorem lw_zero : lw 0 = [] := by simp [lw, digN_zero]
theorem lw_pos {x : Int} (h : 0 < x) : lw x = lw (x / 16) ++ [(65 + x % 16).toNat] := by
  have h1 : x.toNat ≠ 0 := by omega
  have h2 : (x / 16).toNat = x.toNat / 16 := by omega
  unfold lw
  rw [digN_pos h1, List.map_append, h2]
  simp
  omega
theorem lw_len {x : Int} {k : Nat} (h : x < 16 ^ k) : (lw x).length ≤ k := by
  have := wd_len h
  unfold wd at this
  unfold lw
  rw [List.length_map] at this ⊢
  exact this
def spellL (al : List Nat) (st : Int) (bl : List Nat) (x : Int) : List Nat := lw (x / 16) ++ al ++ [(65 + x % 16 + st).toNat] ++ bl
end Mine
end
-- P3
section
open PySem PySem.W PyProof.Rows PySem.Spec
set_option linter.unusedSimpArgs false
namespace Mine
-- the order of texts
theorem lt_app (p a b : List Nat) : ltCps (p ++ a) (p ++ b) = ltCps a b := by
  induction p with
  | nil => rfl
  | cons x r ih => simp [ltCps, ih]
theorem lt_head {x y : Nat} (r t : List Nat) (h : x < y) : ltCps (x :: r) (y :: t) = true := by simp [ltCps, h]
theorem lt_nil (y : Nat) (t : List Nat) : ltCps [] (y :: t) = true := rfl
theorem lt_irrefl (a : List Nat) : ltCps a a = false := by
  induction a with
  | nil => rfl
  | cons x r ih => simp [ltCps, ih]
theorem lt_trans : ∀ {a b c : List Nat}, ltCps a b = true → ltCps b c = true → ltCps a c = true
  | [], _, [], _, h => by rename_i b _; cases b <;> simp [ltCps] at h
  | [], _, _ :: _, _, _ => rfl
  | _ :: _, [], _, h, _ => by simp [ltCps] at h
  | _ :: _, _ :: _, [], _, h => by simp [ltCps] at h
  | x :: r, y :: s, z :: t, h1, h2 => by
    simp only [ltCps, Bool.or_eq_true, Bool.and_eq_true, decide_eq_true_eq, beq_iff_eq] at h1 h2 ⊢
    rcases h1 with h1 | ⟨rfl, h1⟩
    · rcases h2 with h2 | ⟨rfl, h2⟩
      · exact .inl (by omega)
      · exact .inl h1
    · rcases h2 with h2 | ⟨rfl, h2⟩
      · exact .inl h2
      · exact .inr ⟨rfl, lt_trans h1 h2⟩
theorem lt_total : ∀ (a b : List Nat), ltCps a b = false → ltCps b a = false → a = b
  | [], [], _, _ => rfl
  | [], _ :: _, h, _ => by simp [ltCps] at h
  | _ :: _, [], _, h => by simp [ltCps] at h
  | x :: r, y :: s, h1, h2 => by
    simp only [ltCps, Bool.or_eq_false_iff, Bool.and_eq_false_iff, decide_eq_false_iff_not, beq_eq_false_iff_ne] at h1 h2
    have : x = y := by omega
    subst this
    rw [lt_total r s (h1.2.resolve_left (by simp)) (h2.2.resolve_left (by simp))]
theorem lt_asymm {a b : List Nat} (h : ltCps a b = true) : ltCps b a = false := by
  cases hb : ltCps b a with
  | false => rfl
  | true => have := lt_trans h hb; rw [lt_irrefl] at this; cases this
theorem le_trans' {a b c : List Nat} (h1 : ltCps b a = false) (h2 : ltCps c b = false) : ltCps c a = false := by
  cases hc : ltCps c a with
  | false => rfl
  | true =>
    cases hb : ltCps a b with
    | true => have := lt_trans hc hb; rw [h2] at this; cases this
    | false => have := lt_total a b hb h1; subst this; rw [h2] at hc; cases hc

theorem rising_pair : ∀ (ss : List Str) (p : Str), risingS p ss = true → (∀ x ∈ ss, ltCps x.cps.toList p.cps.toList = false) ∧ ss.Pairwise (fun a b => ltCps b.cps.toList a.cps.toList = false)
  | [], p, _ => ⟨fun _ h => (nomatch h), .nil⟩
  | x :: r, p, h => by
    simp only [risingS, Bool.and_eq_true, Bool.not_eq_true'] at h
    obtain ⟨h1, h2⟩ := rising_pair r x h.2
    refine ⟨fun y hy => ?_, List.pairwise_cons.mpr ⟨h1, h2⟩⟩
    rcases List.mem_cons.mp hy with rfl | hy
    · exact h.1
    · exact le_trans' h.1 (h1 y hy)
theorem sorted_pair {ss : List Str} (h : sortedS ss = true) : ss.Pairwise (fun a b => ltCps b.cps.toList a.cps.toList = false) := by
  cases ss with
  | nil => exact .nil
  | cons x r =>
    obtain ⟨h1, h2⟩ := rising_pair r x h
    exact List.pairwise_cons.mpr ⟨h1, h2⟩
/-- what sorted gives is the one rising row -/
theorem sorted_is {ss : List Str} {ls : List (List Nat)} (h : sortedS ss = true) (hp : ss.Perm (ls.map sL)) (hs : ls.Pairwise fun a b => ltCps a b = true) : ss = ls.map sL := by
  refine List.Perm.eq_of_pairwise (le := fun a b : Str => ltCps b.cps.toList a.cps.toList = false) ?_ (sorted_pair h) ?_ hp
  · intro a b _ _ h1 h2
    have := lt_total _ _ h2 h1
    obtain ⟨⟨a⟩⟩ := a
    obtain ⟨⟨b⟩⟩ := b
    simp at this
    rw [this]
  · rw [List.pairwise_map]
    exact hs.imp fun h => lt_asymm h

-- the tree
def isKid (n x : Int) : Bool := decide (x ≠ 0 ∧ x / 16 = n)
def nearOf (tree : List Int) (n : Int) : List Int := (tree.filter fun x => decide (x ≠ 0 ∧ x / 16 = n)).mergeSort fun a b => decide (a ≤ b)
theorem near_perm (tree : List Int) (n : Int) : (nearOf tree n).Perm (tree.filter fun x => decide (x ≠ 0 ∧ x / 16 = n)) := List.mergeSort_perm _ _
theorem near_le (tree : List Int) (n : Int) : (nearOf tree n).Pairwise (· ≤ ·) := by
  have := List.pairwise_mergeSort (le := fun a b : Int => decide (a ≤ b)) (fun a b c h1 h2 => by simp at *; omega) (fun a b => by simp; omega) (tree.filter fun x => decide (x ≠ 0 ∧ x / 16 = n))
  exact this.imp fun h => by simpa using h
theorem near_is {tree ns : List Int} {n : Int} (hp : ns.Perm (tree.filter fun x => decide (x ≠ 0 ∧ x / 16 = n))) (hs : ns.Pairwise (· ≤ ·)) : ns = nearOf tree n :=
  List.Perm.eq_of_pairwise (le := fun a b : Int => a ≤ b) (fun a b _ _ h1 h2 => by omega) hs (near_le tree n) (hp.trans (near_perm tree n).symm)
theorem near_mem {tree : List Int} {n x : Int} : x ∈ nearOf tree n ↔ x ∈ tree ∧ x ≠ 0 ∧ x / 16 = n := by
  rw [(near_perm tree n).mem_iff, List.mem_filter]; simp
def wk (tree : List Int) : Nat → Int → List Int × List Int × List Int × List Int
  | 0, n => ([n], [n], [], [])
  | k + 1, n => (n :: (nearOf tree n).flatMap (fun m => (wk tree k m).1), (nearOf tree n).flatMap (fun m => (wk tree k m).2.1) ++ [n],
      nearOf tree n ++ (nearOf tree n).flatMap (fun m => (wk tree k m).2.2.1), (nearOf tree n).flatMap (fun m => (wk tree k m).2.2.2) ++ nearOf tree n)
def cnt (tree : List Int) (n : Int) : Nat := (tree.filter fun x => decide (n < x)).length
theorem cnt_lt {tree : List Int} {n m : Int} (hm : m ∈ tree) (h : n < m) : cnt tree m < cnt tree n := by
  unfold cnt
  have hsub : (tree.filter fun x => decide (m < x)).Sublist (tree.filter fun x => decide (n < x)) := by
    have : (tree.filter fun x => decide (m < x)) = (tree.filter fun x => decide (n < x)).filter fun x => decide (m < x) := by
      rw [List.filter_filter]
      congr 1
      funext x
      rw [← Bool.decide_and, decide_eq_decide]
      omega
    rw [this]; exact List.filter_sublist
  have hle := hsub.length_le
  rcases Nat.lt_or_ge (tree.filter fun x => decide (m < x)).length (tree.filter fun x => decide (n < x)).length with h' | h'
  · exact h'
  · exfalso
    have e := hsub.eq_of_length_le h'
    have : m ∈ tree.filter fun x => decide (m < x) := by rw [e, List.mem_filter]; exact ⟨hm, by simpa using h⟩
    rw [List.mem_filter] at this
    simp at this
theorem near_gt {tree : List Int} {n m : Int} (hn : 0 ≤ n) (ht : ∀ x ∈ tree, 0 ≤ x) (hm : m ∈ nearOf tree n) : m ∈ tree ∧ n < m ∧ m / 16 = n := by
  obtain ⟨h1, h2, h3⟩ := near_mem.mp hm
  have := ht m h1
  exact ⟨h1, by omega, h3⟩
theorem near_lt {tree : List Int} (hnd : tree.Nodup) (n : Int) : (nearOf tree n).Pairwise (· < ·) := by
  have h1 := near_le tree n
  have h2 : (nearOf tree n).Nodup := (near_perm tree n).nodup_iff.mpr (hnd.sublist List.filter_sublist)
  exact (h1.and h2).imp fun h => by omega

/-- all that a walk names is the place itself or a number of the tree -/
theorem wk_sub (tree : List Int) : ∀ (k : Nat) (n : Int), (∀ x ∈ (wk tree k n).1, x = n ∨ x ∈ tree) ∧ (∀ x ∈ (wk tree k n).2.1, x = n ∨ x ∈ tree) ∧ (∀ x ∈ (wk tree k n).2.2.1, x ∈ tree) ∧ (∀ x ∈ (wk tree k n).2.2.2, x ∈ tree)
  | 0, n => by simp [wk]
  | k + 1, n => by
    have ih := fun m => wk_sub tree k m
    simp only [wk, List.mem_cons, List.mem_append, List.mem_flatMap]
    refine ⟨fun x hx => ?_, fun x hx => ?_, fun x hx => ?_, fun x hx => ?_⟩
    · rcases hx with rfl | ⟨m, hm, hx⟩
      · exact .inl rfl
      · rcases (ih m).1 x hx with rfl | h
        · exact .inr (near_mem.mp hm).1
        · exact .inr h
    · rcases hx with ⟨m, hm, hx⟩ | hx
      · rcases (ih m).2.1 x hx with rfl | h
        · exact .inr (near_mem.mp hm).1
        · exact .inr h
      · exact .inl (by simpa using hx)
    · rcases hx with hx | ⟨m, hm, hx⟩
      · exact (near_mem.mp hx).1
      · exact (ih m).2.2.1 x hx
    · rcases hx with ⟨m, hm, hx⟩ | hx
      · exact (ih m).2.2.2 x hx
      · exact (near_mem.mp hx).1

-- rising rows
theorem flat_rise {f : Int → List Nat} {n : Int} {ms : List Int} {S : Int → List Int} (hinc : ms.Pairwise (· < ·)) (hm : ∀ m ∈ ms, 0 < m ∧ m / 16 = n) (hpre : ∀ m ∈ ms, ∀ x ∈ S m, ∃ r, f x = lw m ++ r)
    (hs : ∀ m ∈ ms, (S m).Pairwise fun a b => ltCps (f a) (f b) = true) : (ms.flatMap S).Pairwise fun a b => ltCps (f a) (f b) = true := by
  rw [List.pairwise_flatMap]
  refine ⟨hs, hinc.imp_of_mem fun {a b} ha hb hab x hx y hy => ?_⟩
  obtain ⟨r, hr⟩ := hpre a ha x hx
  obtain ⟨t, ht⟩ := hpre b hb y hy
  have h1 := hm a ha
  have h2 := hm b hb
  rw [hr, ht, lw_pos h1.1, lw_pos h2.1, h1.2, h2.2, List.append_assoc, List.append_assoc, lt_app]
  exact lt_head _ _ (by omega)
theorem flat_letter {f : Int → List Nat} {n : Int} {ms : List Int} {S : Int → List Int} (hm : ∀ m ∈ ms, 0 < m ∧ m / 16 = n) (hpre : ∀ m ∈ ms, ∀ x ∈ S m, ∃ r, f x = lw m ++ r) :
    ∀ x ∈ ms.flatMap S, ∃ c r, f x = lw n ++ c :: r ∧ 65 ≤ c ∧ c ≤ 80 := by
  intro x hx
  obtain ⟨m, hmm, hx⟩ := List.mem_flatMap.mp hx
  obtain ⟨r, hr⟩ := hpre m hmm x hx
  have h1 := hm m hmm
  refine ⟨(65 + m % 16).toNat, r, ?_, by omega, by omega⟩
  rw [hr, lw_pos h1.1, h1.2, List.append_assoc]; rfl
section
variable {tree : List Int} (ht : ∀ x ∈ tree, 0 ≤ x) (hnd : tree.Nodup)
include ht in
theorem near_kid {n m : Int} (hn : 0 ≤ n) (hm : m ∈ nearOf tree n) : 0 < m ∧ m / 16 = n := by
  have := near_gt hn ht hm
  omega
include ht hnd in
/-- down, an end that sorts ahead of the letters -/
theorem down_rise {f : Int → List Nat} (suf : List Nat) (hf : ∀ x, f x = lw x ++ suf) (hsuf : ∀ c r, suf = c :: r → c < 65) : ∀ (k : Nat) (n : Int), 0 ≤ n →
    (∀ x ∈ (wk tree k n).1, ∃ r, f x = lw n ++ r) ∧ (wk tree k n).1.Pairwise fun a b => ltCps (f a) (f b) = true
  | 0, n, _ => by simp [wk, hf]
  | k + 1, n, hn => by
    have hm := fun m hm => near_kid ht hn (m := m) hm
    have hpre : ∀ m ∈ nearOf tree n, ∀ x ∈ (wk tree k m).1, ∃ r, f x = lw m ++ r := fun m hmm => (down_rise suf hf hsuf k m (by have := hm m hmm; omega)).1
    have hl := flat_letter hm hpre
    simp only [wk]
    refine ⟨fun x hx => ?_, List.pairwise_cons.mpr ⟨fun x hx => ?_, flat_rise (near_lt hnd n) hm hpre fun m hmm => (down_rise suf hf hsuf k m (by have := hm m hmm; omega)).2⟩⟩
    · rcases List.mem_cons.mp hx with rfl | hx
      · exact ⟨suf, hf _⟩
      · obtain ⟨c, r, h, _⟩ := hl x hx
        exact ⟨_, h⟩
    · obtain ⟨c, r, h, h1, h2⟩ := hl x hx
      rw [h, hf, lt_app]
      cases hs : suf with
      | nil => rfl
      | cons d s => exact lt_head _ _ (by have := hsuf d s hs; omega)
include ht hnd in
/-- up, an end that sorts behind the letters -/
theorem up_rise {f : Int → List Nat} (suf : List Nat) (hf : ∀ x, f x = lw x ++ suf) (hsuf : ∃ c r, suf = c :: r ∧ 80 < c) : ∀ (k : Nat) (n : Int), 0 ≤ n →
    (∀ x ∈ (wk tree k n).2.1, ∃ r, f x = lw n ++ r) ∧ (wk tree k n).2.1.Pairwise fun a b => ltCps (f a) (f b) = true
  | 0, n, _ => by simp [wk, hf]
  | k + 1, n, hn => by
    have hm := fun m hm => near_kid ht hn (m := m) hm
    have hpre : ∀ m ∈ nearOf tree n, ∀ x ∈ (wk tree k m).2.1, ∃ r, f x = lw m ++ r := fun m hmm => (up_rise suf hf hsuf k m (by have := hm m hmm; omega)).1
    have hl := flat_letter hm hpre
    simp only [wk]
    refine ⟨fun x hx => ?_, List.pairwise_append.mpr ⟨flat_rise (near_lt hnd n) hm hpre fun m hmm => (up_rise suf hf hsuf k m (by have := hm m hmm; omega)).2, List.pairwise_singleton _ _, fun x hx y hy => ?_⟩⟩
    · rcases List.mem_append.mp hx with hx | hx
      · obtain ⟨c, r, h, _⟩ := hl x hx
        exact ⟨_, h⟩
      · rw [List.mem_singleton.mp hx]; exact ⟨suf, hf _⟩
    · obtain ⟨c, r, h, h1, h2⟩ := hl x hx
      obtain ⟨d, s, hs, hd⟩ := hsuf
      rw [List.mem_singleton.mp hy, h, hf, lt_app, hs]
      exact lt_head _ _ (by omega)
include ht hnd in
/-- from above, a last sign that sorts ahead of the letters -/
theorem above_rise {f : Int → List Nat} (g : Int → List Nat) (hf : ∀ x, f x = lw (x / 16) ++ g (x % 16)) (hg : ∀ r, 0 ≤ r → r < 16 → ∃ c t, g r = c :: t ∧ c < 65) (hgm : ∀ r q, 0 ≤ r → r < q → q < 16 → ltCps (g r) (g q) = true) : ∀ (k : Nat) (n : Int), 0 ≤ n →
    (∀ x ∈ (wk tree k n).2.2.1, ∃ r, f x = lw n ++ r) ∧ (wk tree k n).2.2.1.Pairwise fun a b => ltCps (f a) (f b) = true
  | 0, n, _ => by simp [wk]
  | k + 1, n, hn => by
    have hm := fun m hm => near_kid ht hn (m := m) hm
    have hpre : ∀ m ∈ nearOf tree n, ∀ x ∈ (wk tree k m).2.2.1, ∃ r, f x = lw m ++ r := fun m hmm => (above_rise g hf hg hgm k m (by have := hm m hmm; omega)).1
    have hl := flat_letter hm hpre
    simp only [wk]
    refine ⟨fun x hx => ?_, List.pairwise_append.mpr ⟨(near_lt hnd n).imp_of_mem fun {a b} ha hb hab => ?_, flat_rise (near_lt hnd n) hm hpre fun m hmm => (above_rise g hf hg hgm k m (by have := hm m hmm; omega)).2, fun x hx y hy => ?_⟩⟩
    · rcases List.mem_append.mp hx with hx | hx
      · exact ⟨g (x % 16), by rw [hf, (hm x hx).2]⟩
      · obtain ⟨c, r, h, _⟩ := hl x hx
        exact ⟨_, h⟩
    · have h1 := hm a ha
      have h2 := hm b hb
      rw [hf, hf, h1.2, h2.2, lt_app]
      exact hgm _ _ (by omega) (by omega) (by omega)
    · obtain ⟨c, r, h, h1, h2⟩ := hl y hy
      have h3 := hm x hx
      obtain ⟨d, t, hd, hd2⟩ := hg (x % 16) (by omega) (by omega)
      rw [hf, h3.2, h, lt_app, hd]
      exact lt_head _ _ (by omega)
include ht hnd in
/-- from below, a last sign that sorts behind the letters -/
theorem under_rise {f : Int → List Nat} (g : Int → List Nat) (hf : ∀ x, f x = lw (x / 16) ++ g (x % 16)) (hg : ∀ r, 0 ≤ r → r < 16 → ∃ c t, g r = c :: t ∧ 80 < c) (hgm : ∀ r q, 0 ≤ r → r < q → q < 16 → ltCps (g r) (g q) = true) : ∀ (k : Nat) (n : Int), 0 ≤ n →
    (∀ x ∈ (wk tree k n).2.2.2, ∃ r, f x = lw n ++ r) ∧ (wk tree k n).2.2.2.Pairwise fun a b => ltCps (f a) (f b) = true
  | 0, n, _ => by simp [wk]
  | k + 1, n, hn => by
    have hm := fun m hm => near_kid ht hn (m := m) hm
    have hpre : ∀ m ∈ nearOf tree n, ∀ x ∈ (wk tree k m).2.2.2, ∃ r, f x = lw m ++ r := fun m hmm => (under_rise g hf hg hgm k m (by have := hm m hmm; omega)).1
    have hl := flat_letter hm hpre
    simp only [wk]
    refine ⟨fun x hx => ?_, List.pairwise_append.mpr ⟨flat_rise (near_lt hnd n) hm hpre fun m hmm => (under_rise g hf hg hgm k m (by have := hm m hmm; omega)).2, (near_lt hnd n).imp_of_mem fun {a b} ha hb hab => ?_, fun x hx y hy => ?_⟩⟩
    · rcases List.mem_append.mp hx with hx | hx
      · obtain ⟨c, r, h, _⟩ := hl x hx
        exact ⟨_, h⟩
      · exact ⟨g (x % 16), by rw [hf, (hm x hx).2]⟩
    · have h1 := hm a ha
      have h2 := hm b hb
      rw [hf, hf, h1.2, h2.2, lt_app]
      exact hgm _ _ (by omega) (by omega) (by omega)
    · obtain ⟨c, r, h, h1, h2⟩ := hl x hx
      have h3 := hm y hy
      obtain ⟨d, t, hd, hd2⟩ := hg (y % 16) (by omega) (by omega)
      rw [hf y, h3.2, h, lt_app, hd]
      exact lt_head _ _ (by omega)
end
theorem nodup_of_rise {f : Int → List Nat} {l : List Int} (h : l.Pairwise fun a b => ltCps (f a) (f b) = true) : l.Nodup :=
  h.imp fun {a b} hab e => by subst e; rw [lt_irrefl] at hab; cases hab
end Mine
end
-- P4
section
open PySem PySem.W PyProof.Rows PySem.Spec
set_option linter.unusedSimpArgs false
set_option linter.unusedVariables false
namespace Mine
section
variable {tree : List Int} (ht : ∀ x ∈ tree, 0 ≤ x) (hnd : tree.Nodup)
include ht hnd in
theorem wk_nodup (k : Nat) {n : Int} (hn : 0 ≤ n) : (wk tree k n).1.Nodup ∧ (wk tree k n).2.1.Nodup ∧ (wk tree k n).2.2.1.Nodup ∧ (wk tree k n).2.2.2.Nodup :=
  ⟨nodup_of_rise (down_rise ht hnd (f := fun x => lw x ++ []) [] (fun _ => rfl) (fun _ _ h => nomatch h) k n hn).2,
   nodup_of_rise (up_rise ht hnd (f := fun x => lw x ++ [100]) [100] (fun _ => rfl) ⟨100, [], rfl, by decide⟩ k n hn).2,
   nodup_of_rise (above_rise ht hnd (f := fun x => lw (x / 16) ++ [(1 + x % 16).toNat]) (fun r => [(1 + r).toNat]) (fun _ => rfl) (fun r h0 h1 => ⟨_, _, rfl, by omega⟩) (fun r q h0 h1 h2 => lt_head _ _ (by omega)) k n hn).2,
   nodup_of_rise (under_rise ht hnd (f := fun x => lw (x / 16) ++ [(193 + x % 16).toNat]) (fun r => [(193 + r).toNat]) (fun _ => rfl) (fun r h0 h1 => ⟨_, _, rfl, by omega⟩) (fun r q h0 h1 h2 => lt_head _ _ (by omega)) k n hn).2⟩
include ht hnd in
theorem wk_len (k : Nat) {n : Int} (hn : 0 ≤ n) : (wk tree k n).1.length ≤ tree.length + 1 ∧ (wk tree k n).2.1.length ≤ tree.length + 1 ∧ (wk tree k n).2.2.1.length ≤ tree.length + 1 ∧ (wk tree k n).2.2.2.length ≤ tree.length + 1 := by
  obtain ⟨n1, n2, n3, n4⟩ := wk_nodup ht hnd k hn
  obtain ⟨s1, s2, s3, s4⟩ := wk_sub tree k n
  have e : tree.length + 1 = (n :: tree).length := rfl
  rw [e]
  refine ⟨n1.length_le_of_subset fun x hx => List.mem_cons.mpr (s1 x hx), n2.length_le_of_subset fun x hx => List.mem_cons.mpr (s2 x hx), n3.length_le_of_subset fun x hx => List.mem_cons.mpr (.inr (s3 x hx)), n4.length_le_of_subset fun x hx => List.mem_cons.mpr (.inr (s4 x hx))⟩
theorem wk_self (k : Nat) (n : Int) : n ∈ (wk tree k n).1 := by cases k <;> simp [wk]
include ht in
theorem wk_kids : ∀ (k : Nat) (n : Int), 0 ≤ n → cnt tree n < k → ∀ y ∈ (wk tree k n).1, ∀ x ∈ tree, x ≠ 0 → x / 16 = y → x ∈ (wk tree k n).1
  | 0, n, _, h => absurd h (Nat.not_lt_zero _)
  | k + 1, n, hn, h => by
    intro y hy x hx hx0 hxy
    simp only [wk, List.mem_cons, List.mem_flatMap] at hy ⊢
    rcases hy with rfl | ⟨m, hm, hy⟩
    · exact .inr ⟨x, near_mem.mpr ⟨hx, hx0, hxy⟩, wk_self k x⟩
    · have h1 := near_gt hn ht hm
      have h2 := cnt_lt h1.1 h1.2.1
      exact .inr ⟨m, hm, wk_kids k m (by omega) (by omega) y hy x hx hx0 hxy⟩
include ht in
theorem wk_all {k : Nat} (hk : cnt tree 0 < k) (hcl : ∀ x ∈ tree, x / 16 ∈ tree) : ∀ x ∈ tree, x ∈ (wk tree k 0).1 := by
  have : ∀ (j : Nat) (x : Int), x.toNat = j → x ∈ tree → x ∈ (wk tree k 0).1 := by
    intro j
    induction j using Nat.strongRecOn with
    | ind j ih =>
      intro x hj hx
      have h0 := ht x hx
      by_cases hx0 : x = 0
      · subst hx0; exact wk_self k 0
      · exact wk_kids ht k 0 (by omega) hk (x / 16) (ih (x / 16).toNat (by omega) _ rfl (hcl x hx)) x hx hx0 rfl
  exact fun x hx => this _ x rfl hx
theorem wk_down_up : ∀ (k : Nat) (n : Int), ∀ x ∈ (wk tree k n).1, x ∈ (wk tree k n).2.1
  | 0, n => by simp [wk]
  | k + 1, n => by
    intro x hx
    simp only [wk, List.mem_cons, List.mem_append, List.mem_flatMap, List.mem_singleton] at hx ⊢
    rcases hx with rfl | ⟨m, hm, hx⟩
    · exact .inr (.inl rfl)
    · exact .inl ⟨m, hm, wk_down_up k m x hx⟩
theorem wk_down_above : ∀ (k : Nat) (n : Int), ∀ x ∈ (wk tree k n).1, x = n ∨ x ∈ (wk tree k n).2.2.1
  | 0, n => by simp [wk]
  | k + 1, n => by
    intro x hx
    simp only [wk, List.mem_cons, List.mem_append, List.mem_flatMap] at hx ⊢
    rcases hx with rfl | ⟨m, hm, hx⟩
    · exact .inl rfl
    · rcases wk_down_above k m x hx with rfl | h
      · exact .inr (.inl hm)
      · exact .inr (.inr ⟨m, hm, h⟩)
theorem wk_down_under : ∀ (k : Nat) (n : Int), ∀ x ∈ (wk tree k n).1, x = n ∨ x ∈ (wk tree k n).2.2.2
  | 0, n => by simp [wk]
  | k + 1, n => by
    intro x hx
    simp only [wk, List.mem_cons, List.mem_append, List.mem_flatMap] at hx ⊢
    rcases hx with rfl | ⟨m, hm, hx⟩
    · exact .inl rfl
    · rcases wk_down_under k m x hx with rfl | h
      · exact .inr (.inr hm)
      · exact .inr (.inl ⟨m, hm, h⟩)
end
/-- a walk's part that was written, and the written numbers: the same numbers -/
theorem part_perm {W wr : List Int} (h1 : W.Nodup) (h2 : wr.Nodup) (h : ∀ x ∈ wr, x ∈ W) : wr.Perm (W.filter fun x => decide (x ∈ wr)) := by
  rw [List.perm_ext_iff_of_nodup h2 (h1.sublist List.filter_sublist)]
  intro a
  rw [List.mem_filter]
  simp only [decide_eq_true_eq]
  exact ⟨fun ha => ⟨h a ha, ha⟩, fun ha => ha.2⟩
theorem row_eq {W wr : List Int} {f : Int → List Nat} (hW : W.Pairwise fun a b => ltCps (f a) (f b) = true) (h2 : wr.Nodup) (hm : ∀ x ∈ wr, x ∈ W) {ss : List Str} (hs : sortedS ss = true) (hp : ss.Perm (wr.map fun x => sL (f x))) :
    ss = (W.filter fun x => decide (x ∈ wr)).map fun x => sL (f x) := by
  have e : ((W.filter fun x => decide (x ∈ wr)).map fun x => sL (f x)) = ((W.filter fun x => decide (x ∈ wr)).map f).map sL := by simp
  rw [e]
  refine sorted_is hs (hp.trans ?_) ?_
  · rw [← e]; exact (part_perm (nodup_of_rise hW) h2 hm).map _
  · rw [List.pairwise_map]; exact hW.sublist List.filter_sublist

-- how the tree is built
def bstep (st : List Int × List Int) (d : Int) : List Int × List Int :=
  let x := 16 * st.1.getD (d / 64 % (st.1.length : Int)).toNat 0 + d % 16
  (if x ∈ st.1 then st.1 else st.1 ++ [x], if x ≠ 0 ∧ x ∉ st.2 ∧ d / 16 % 4 ≠ 3 then st.2 ++ [x] else st.2)
structure BOk (k : Nat) (st : List Int × List Int) : Prop where
  ne : 1 ≤ st.1.length
  le : st.1.length ≤ k + 1
  bound : ∀ x ∈ st.1, 0 ≤ x ∧ x < 16 ^ k
  nd : st.1.Nodup
  up : ∀ x ∈ st.1, x / 16 ∈ st.1
  sub : ∀ x ∈ st.2, x ∈ st.1 ∧ x ≠ 0
  wnd : st.2.Nodup
theorem bok_zero : BOk 0 ([0], []) := ⟨by simp, by simp, by simp, by simp, by simp, by simp, by simp⟩
theorem bok_step {k : Nat} {st : List Int × List Int} {d : Int} (h : BOk k st) (hd : 0 ≤ d) : BOk (k + 1) (bstep st d) := by
  obtain ⟨tree, wr⟩ := st
  obtain ⟨h1, h2, h3, h4, h5, h6, h7⟩ := h
  dsimp only at *
  have hl : 0 < (tree.length : Int) := by omega
  have hj : (d / 64 % (tree.length : Int)).toNat < tree.length := by
    have a := Int.emod_nonneg (d / 64) (Int.ne_of_gt hl)
    have b := Int.emod_lt_of_pos (d / 64) hl
    omega
  have hp : tree.getD (d / 64 % (tree.length : Int)).toNat 0 ∈ tree := by
    rw [List.getD_eq_getElem?_getD, List.getElem?_eq_getElem hj]; exact List.getElem_mem hj
  generalize hpe : tree.getD (d / 64 % (tree.length : Int)).toNat 0 = p at hp
  have hp3 := h3 p hp
  have hx16 : (16 * p + d % 16) / 16 = p := by omega
  have hpow : (16 : Int) ^ (k + 1) = 16 * 16 ^ k := by rw [Int.pow_succ]; omega
  have hpos : (0 : Int) < 16 ^ k := Int.pow_pos (by decide)
  have hxb : 0 ≤ 16 * p + d % 16 ∧ 16 * p + d % 16 < 16 ^ (k + 1) := by rw [hpow]; generalize (16 : Int) ^ k = q at *; omega
  have hup : ∀ x ∈ tree, 0 ≤ x ∧ x < 16 ^ (k + 1) := fun x hx => by have := h3 x hx; rw [hpow]; generalize (16 : Int) ^ k = q at *; omega
  simp only [bstep, hpe]
  generalize 16 * p + d % 16 = x at *
  have tmem : ∀ y, y ∈ (if x ∈ tree then tree else tree ++ [x]) ↔ y ∈ tree ∨ y = x := by
    intro y; split
    · rename_i hx; exact ⟨.inl, fun h => h.elim id fun e => e ▸ hx⟩
    · simp
  refine ⟨?_, ?_, ?_, ?_, ?_, ?_, ?_⟩
  · dsimp only; split <;> (try simp only [List.length_append, List.length_singleton]) <;> omega
  · dsimp only; split <;> (try simp only [List.length_append, List.length_singleton]) <;> omega
  · intro y hy
    rcases (tmem y).mp hy with hy | rfl
    · exact hup y hy
    · exact hxb
  · dsimp only; split
    · exact h4
    · rename_i hx
      rw [List.nodup_append]
      refine ⟨h4, by simp, fun a ha b hb => ?_⟩
      rw [List.mem_singleton.mp hb]
      rintro rfl; exact hx ha
  · intro y hy
    dsimp only at hy ⊢
    rcases (tmem y).mp hy with hy | rfl
    · exact (tmem _).mpr (.inl (h5 y hy))
    · rw [hx16]; exact (tmem _).mpr (.inl hp)
  · intro y hy
    dsimp only at hy ⊢
    split at hy
    · rename_i hc
      rcases List.mem_append.mp hy with hy | hy
      · exact ⟨(tmem _).mpr (.inl (h6 y hy).1), (h6 y hy).2⟩
      · rw [List.mem_singleton.mp hy]; exact ⟨(tmem _).mpr (.inr rfl), hc.1⟩
    · exact ⟨(tmem _).mpr (.inl (h6 y hy).1), (h6 y hy).2⟩
  · dsimp only; split
    · rename_i hc
      rw [List.nodup_append]
      refine ⟨h7, by simp, fun a ha b hb => ?_⟩
      rw [List.mem_singleton.mp hb]
      rintro rfl; exact hc.2.1 ha
    · exact h7
end Mine
namespace Mine
theorem flat_take_succ {α β : Type} {f : α → List β} {l : List α} {i : Nat} {a : α} (h : l[i]? = some a) : (l.take (i + 1)).flatMap f = (l.take i).flatMap f ++ f a := by
  rw [List.take_add_one, h]; simp
theorem flat_take_le {α β : Type} {f : α → List β} {l : List α} {i : Nat} : ((l.take i).flatMap f).length ≤ (l.flatMap f).length := by
  conv => rhs; rw [← List.take_append_drop i l, List.flatMap_append, List.length_append]
  omega
end Mine
end
-- A1
section
open PySem PySem.W PyProof.Rows
set_option Elab.async false
set_option maxRecDepth 100000
set_option maxHeartbeats 8000000
namespace Mine

noncomputable abbrev PR : Program := PySem.Challenge.rw_pg0030_01.row.prog

theorem fillK : PySem.Challenge.rw_pg0030_01 = PySem.Challenge.rw_pg0030_01 ∧ Mine.hd.heap_39 = Mine.hd.heap_39 := by
  k_fill
  exact ⟨rfl, rfl⟩

structure Rdy (w : World) (mg mb : Str → Option Value) (h : Heap) : Prop where
  k : (Mine.hd.heap_39 w.params).In h
  t : TopRead Mine.hd.view_39 (looseW Mine.hd.view_39 []) mg mb h

abbrev Kp (h h' : Heap) : Prop := ∀ b o, h.get? b = some o → h'.get? b = some o

theorem Rdy.keeps {w : World} {mg mb : Str → Option Value} {h h' : Heap} (r : Rdy w mg mb h) (k : Kp h h') : Rdy w mg mb h' := ⟨r.k.keeps k, r.t.keeps k⟩

def Ret (s : Shared) (R : Heap → Heap → Value → Prop) (v : Value) (s' : Shared) : Prop := Keeps s s' ∧ R s.heap s'.heap v
def Ret1 (s : Shared) (r : Tok → Value) (v : Value) (s' : Shared) : Prop := Keeps s s' ∧ ∃ t, v = r t
def Con (w : World) (mg mb : Str → Option Value) (f : Addr) (args : List Value) (d u : Nat) (P : Heap → Prop) (R : Heap → Heap → Value → Prop) : Prop :=
  ∀ (A : Around) (s : Shared) (E : Value → Shared → Prop), Rdy w mg mb s.heap → A.handled = none → A.depth + d < recursionLimit → A.units + u < cLine → P s.heap →
    wpAny (model PR w) A (call (.ref f) args) (Ret s R) E s
/-- the same for a def whose answer is a plain value -/
def Con1 (w : World) (mg mb : Str → Option Value) (f : Addr) (args : List Value) (d u : Nat) (P : Prop) (r : Tok → Value) : Prop :=
  ∀ (A : Around) (s : Shared) (E : Value → Shared → Prop), Rdy w mg mb s.heap → A.handled = none → A.depth + d < recursionLimit → A.units + u < cLine → P →
    wpAny (model PR w) A (call (.ref f) args) (Ret1 s r) E s

section
variable {w : World} {mg mb : Str → Option Value} {A : Around} {s : Shared} {E : Value → Shared → Prop} {Q : Value → Shared → Prop} {f : Addr} {args : List Value} {d u : Nat} {h₀ : Heap} {L : Addr} {m : Str → Option Value} {news : List (Addr × Obj)}

theorem Con.use {P : Heap → Prop} {R : Heap → Heap → Value → Prop} (C : Con w mg mb f args d u P R) (F : Fr h₀ L s.heap m) (N : News h₀ L s.heap news) (X : (Mine.hd.heap_39 w.params).In h₀) (T : TopRead Mine.hd.view_39 (looseW Mine.hd.view_39 []) mg mb h₀)
    (hh : A.handled = none) (hd : A.depth + d < recursionLimit) (hu : A.units + u < cLine) (hp : P s.heap)
    (h : ∀ v h' tk', Fr h₀ L h' m → News h₀ L h' news → Kp s.heap h' → R s.heap h' v → Q v { s with heap := h', toks := tk' }) : wpAny (model PR w) A (call (.ref f) args) Q E s := by
  refine wpAny_mono (C A s E ⟨X.keeps F.keep, T.keeps F.keep⟩ hh hd hu hp) (fun v s' hv => ?_) fun _ _ e => e
  obtain ⟨⟨h', tk', rfl, hk⟩, hr⟩ := hv
  exact h v h' tk' (F.keeps hk) (N.grown hk) hk hr

theorem Con1.use {P : Prop} {r : Tok → Value} (C : Con1 w mg mb f args d u P r) (F : Fr h₀ L s.heap m) (N : News h₀ L s.heap news) (X : (Mine.hd.heap_39 w.params).In h₀) (T : TopRead Mine.hd.view_39 (looseW Mine.hd.view_39 []) mg mb h₀)
    (hh : A.handled = none) (hd : A.depth + d < recursionLimit) (hu : A.units + u < cLine) (hp : P)
    (h : ∀ t h' tk', Fr h₀ L h' m → News h₀ L h' news → Kp s.heap h' → Q (r t) { s with heap := h', toks := tk' }) : wpAny (model PR w) A (call (.ref f) args) Q E s := by
  refine wpAny_mono (C A s E ⟨X.keeps F.keep, T.keeps F.keep⟩ hh hd hu hp) (fun v s' hv => ?_) fun _ _ e => e
  obtain ⟨⟨h', tk', rfl, hk⟩, t, rfl⟩ := hv
  exact h t h' tk' (F.keeps hk) (N.grown hk) hk

theorem Ret.intro {R : Heap → Heap → Value → Prop} {v : Value} {h' : Heap} {tk : Nat} (F : Fr s.heap L h' m) (hr : R s.heap h' v) : Ret s R v { s with heap := h', toks := tk } := ⟨⟨_, _, rfl, F.keep⟩, hr⟩
theorem Ret1.intI {r : Tok → Value} {i j : Int} {t : Tok} {h' : Heap} {tk : Nat} (F : Fr s.heap L h' m) (e : ∀ t, r t = .int j t) (hr : i = j) : Ret1 s r (.int i t) { s with heap := h', toks := tk } := ⟨⟨_, _, rfl, F.keep⟩, t, by rw [e, hr]⟩
theorem Ret1.intS {r : Tok → Value} {i j : Str} {t : Tok} {h' : Heap} {tk : Nat} (F : Fr s.heap L h' m) (e : ∀ t, r t = .str j t) (hr : i = j) : Ret1 s r (.str i t) { s with heap := h', toks := tk } := ⟨⟨_, _, rfl, F.keep⟩, t, by rw [e, hr]⟩
theorem Ret1.intB {r : Tok → Value} {i j : Bool} {h' : Heap} {tk : Nat} (F : Fr s.heap L h' m) (e : ∀ t, r t = .bool j) (hr : i = j) : Ret1 s r (.bool i) { s with heap := h', toks := tk } := ⟨⟨_, _, rfl, F.keep⟩, 0, by rw [e, hr]⟩
theorem Ret1.intY {r : Tok → Value} {i j : Array UInt8} {t : Tok} {h' : Heap} {tk : Nat} (F : Fr s.heap L h' m) (e : ∀ t, r t = .bytes j t) (hr : i = j) : Ret1 s r (.bytes i t) { s with heap := h', toks := tk } := ⟨⟨_, _, rfl, F.keep⟩, t, by rw [e, hr]⟩

theorem enterD {name qual : Str} {params : Arguments} {body : List Stmt} {scope : Scope} {dV kV doc pm cdv ct oc : Value} {an od : Option Addr} {osl : Array (Option Value)} {binds : List (Str × Value)}
    (r : Rdy w mg mb s.heap) (ho : (Mine.hd.heap_39 w.params).lookup f = some ⟨oc, od, .func (fnOf name qual params body scope dV kV doc pm an cdv ct), osl⟩) (hcd : codeIn (Mine.hd.heap_39 w.params) cdv qual = true) (hroom : A.depth < recursionLimit)
    (hbind : BindsTo s (fnOf name qual params body scope dV kV doc pm an cdv ct) ⟨args, []⟩ binds) (hloc : ∀ y ∈ binds, scope.names.lookup y.1 = some .local)
    (h : ∀ L' h₁, Fr s.heap L' h₁ (fun y => binds.reverse.lookup y) → News s.heap L' h₁ [] → (Mine.hd.heap_39 w.params).In s.heap → TopRead Mine.hd.view_39 (looseW Mine.hd.view_39 []) mg mb s.heap →
      wpAny (model PR w) (A.deeper (envOf qual scope L' f cdv)) (execs body (envOf qual scope L' f cdv)) (fun fl s' => Q (match fl with | .ret v => v | _ => .none) s') (fun _ _ => False) { s with heap := h₁, toks := s.toks + binds.length })
    (hco : scope.isCoroutine = false) (hgen : scope.isGenerator = false) (hk : scope.kind = .function)
    (hcell : ∀ x ∈ scope.names, x.2 ≠ .cell) : wpAny (model PR w) A (call (.ref f) args) Q E s := by
  refine wpAny_call (codeAny_call_def (fd := fnX name qual params body scope [] dV kV doc pm an cdv ct) (body := body) (binds := binds) hroom (r.k _ _ ho) rfl r.t.nolimit (codeRec_of r.k hcd) rfl hbind hcell hloc (fun h₁ hns hk₁ => ?_) hco hgen hk)
  exact wpAny_mono (h _ h₁ ⟨hns, hk₁, Nat.le_refl _⟩ News.nil r.k r.t) (fun fl s' hl => hl) fun _ _ y => y.elim
end
end Mine
end
-- C2
section
open PySem PySem.W PySem.Calls PyProof.Rows
set_option Elab.async false
set_option maxRecDepth 100000
set_option maxHeartbeats 8000000
namespace Mine
section
variable {M : Model} {A : Around} {E : Value → Shared → Prop} {s : Shared} {B : Heap} {C : Addr} {m : Str → Option Value} {scope : Scope} {cl : List (Str × Addr)} {env : Env} {x : Str} {pos : Pos} {v : Value} {Q : Value → Shared → Prop} {w : World} {mg mb : Str → Option Value} {K : Frag} {p : Program} {loose : List Str}
theorem ldC (F : Fr B C s.heap m) (hv : m x = some v) (h : Q v s) (hk : (compEnvC scope cl C env).scope.kind = .function) (hl : (compEnvC scope cl C env).kindOf x = some .local) (hd : (x == ("__debug__" : Str)) = false := by decide) :
    wpAny M A (eval (.Name x pos) (compEnvC scope cl C env)) Q E s := wpAny_Name (wpAny_loadName_local hk hl F.ns hv h) hd
theorem ldCK (F : Fr B C s.heap m) (X : K.In B) (T : TopRead p loose mg mb B) (e : nsIn K mainGlobals x = some (some v)) (h : Q v s) (hg : (compEnvC scope cl C env).globals = mainGlobals) (hk : (compEnvC scope cl C env).scope.kind = .function) (hx : (compEnvC scope cl C env).kindOf x = some .globalImplicit) (hd : (x == ("__debug__" : Str)) = false := by decide) :
    wpAny M A (eval (.Name x pos) (compEnvC scope cl C env)) Q E s :=
  Name_function_global hk hx (loadGlobal_global (by rw [hg]; exact T.g.keeps F.keep) (mg_of X T.g e) h) hd
theorem ldCB (F : Fr B C s.heap m) (X : K.In B) (T : TopRead p loose mg mb B) (e : nsIn K mainGlobals x = some none) (hv : bootBuiltins x = some v) (hn : x ≠ "__name__") (h : Q v s) (hg : (compEnvC scope cl C env).globals = mainGlobals) (hb : (compEnvC scope cl C env).builtins = builtinsNs) (hk : (compEnvC scope cl C env).scope.kind = .function) (hx : (compEnvC scope cl C env).kindOf x = some .globalImplicit) (hd : (x == ("__debug__" : Str)) = false := by decide) :
    wpAny M A (eval (.Name x pos) (compEnvC scope cl C env)) Q E s :=
  Name_function_global hk hx (loadGlobal_builtin (by rw [hg]; exact T.g.keeps F.keep) (mg_none_of X T.g e) (by rw [hb]; exact T.b.keeps F.keep) ((T.builtins x hn).trans hv) h) hd
/-- a captured name: its cell is an object that stood before -/
theorem ldCC {c : Addr} (F : Fr B C s.heap m) (hc : cl.lookup x = some c) (hi : B.IsCell c (some v)) (h : Q v s) (hk : (compEnvC scope cl C env).scope.kind = .function) (hx : (compEnvC scope cl C env).kindOf x = some .cell) (hd : (x == ("__debug__" : Str)) = false := by decide) :
    wpAny M A (eval (.Name x pos) (compEnvC scope cl C env)) Q E s := wpAny_Name (wpAny_loadName_cell hk hx hc (hi.keeps F.keep) h) hd
end

/-- values of one kind -/
inductive Are {α : Type} (mk : α → Tok → Value) : List Value → List α → Prop
  | nil : Are mk [] []
  | cons (a : α) (t : Tok) {vs as} : Are mk vs as → Are mk (mk a t :: vs) (a :: as)
section
variable {α : Type} {mk : α → Tok → Value}
theorem Are.length : ∀ {vs : List Value} {as : List α}, Are mk vs as → vs.length = as.length
  | _, _, .nil => rfl
  | _, _, .cons _ _ h => by rw [List.length_cons, List.length_cons, h.length]
theorem Are.snoc {a : α} {t : Tok} : ∀ {vs : List Value} {as : List α}, Are mk vs as → Are mk (vs ++ [mk a t]) (as ++ [a])
  | _, _, .nil => .cons a t .nil
  | _, _, .cons b u h => .cons b u h.snoc
theorem Are.get : ∀ {vs : List Value} {as : List α}, Are mk vs as → ∀ {i : Nat} {v : Value}, vs[i]? = some v → ∃ a t, as[i]? = some a ∧ v = mk a t
  | _, _, .nil, i, v, h => by simp at h
  | _, _, .cons b u r, 0, v, h => by simp at h; exact ⟨b, u, by simp, h.symm⟩
  | _, _, .cons b u r, i + 1, v, h => by simp at h; obtain ⟨a, t, h1, h2⟩ := r.get h; exact ⟨a, t, by simpa using h1, h2⟩
theorem Are.of_get : ∀ {vs : List Value} {as : List α}, vs.length = as.length → (∀ (i : Nat) v, vs[i]? = some v → ∃ a t, as[i]? = some a ∧ v = mk a t) → Are mk vs as
  | [], [], _, _ => .nil
  | v :: vs, a :: as, hl, h => by
    obtain ⟨a', t, h1, h2⟩ := h 0 v rfl
    simp at h1
    subst h1 h2
    exact .cons _ _ (Are.of_get (by simpa using hl) fun i v hv => h (i + 1) v hv)
  | [], _ :: _, hl, _ => by simp at hl
  | _ :: _, [], hl, _ => by simp at hl
theorem Are.append : ∀ {vs ws : List Value} {as bs : List α}, Are mk vs as → Are mk ws bs → Are mk (vs ++ ws) (as ++ bs)
  | _, _, _, _, .nil, h => h
  | _, _, _, _, .cons a t r, h => .cons a t (r.append h)
end
theorem take_succ_map {α β : Type} {f : α → β} {l : List α} {i : Nat} {a : α} (h : l[i]? = some a) : (l.take (i + 1)).map f = (l.take i).map f ++ [f a] := by
  rw [List.take_add_one, h]; simp
theorem Are.ints {vs : List Value} {ns : List Int} (h : Are Value.int vs ns) : IntsAre vs ns := by
  induction h with
  | nil => exact .nil
  | cons a t _ ih => exact .cons a t ih
theorem Are.of_ints {vs : List Value} {ns : List Int} (h : IntsAre vs ns) : Are Value.int vs ns := by
  induction h with
  | nil => exact .nil
  | cons a t _ ih => exact .cons a t ih
theorem Are.strs {vs : List Value} {ns : List Str} (h : Are Value.str vs ns) : StrsAre vs ns := by
  induction h with
  | nil => exact .nil
  | cons a t _ ih => exact .cons a t ih
end Mine
end
-- C3
section
open PySem PySem.W PySem.Calls PyProof.Rows
set_option Elab.async false
set_option maxRecDepth 100000
set_option maxHeartbeats 8000000
namespace Mine

def FEnd (h₀ : Heap) (L : Addr) (s : Shared) (own : List (Addr × Obj)) (I : Addr) (J : (Str → Option Value) → List (Addr × Obj) → Prop) (f : Flow) (s' : Shared) : Prop :=
  f = .next ∧ ∃ h tk m news, s' = { s with heap := h, toks := tk } ∧ Fr h₀ L h m ∧ News h₀ L h (own ++ news) ∧ (∀ p ∈ news, p.1 ≠ I) ∧ J m news
theorem FEnd.intro {h₀ : Heap} {L : Addr} {s : Shared} {own : List (Addr × Obj)} {I : Addr} {J : (Str → Option Value) → List (Addr × Obj) → Prop} {h : Heap} {tk : Nat} {m : Str → Option Value} (news : List (Addr × Obj)) {all : List (Addr × Obj)} (F : Fr h₀ L h m) (N : News h₀ L h all)
    (hs : ∀ p ∈ own ++ news, p ∈ all) (hI : ∀ p ∈ news, p.1 ≠ I) (j : J m news) : FEnd h₀ L s own I J .next { s with heap := h, toks := tk } := ⟨rfl, h, tk, m, news, rfl, F, fun p hp => N p (hs p hp), hI, j⟩

section
variable {prog : Program} {w : World} {A : Around} {E : Value → Shared → Prop} {env : Env} {h₀ : Heap} {x : Str} {px : Pos} {body : List Stmt} {s₂ : Shared}
def FTurn (prog : Program) (w : World) (A : Around) (env : Env) (h₀ : Heap) (x : Str) (body : List Stmt) (I : Addr) (n : Nat) (P : Nat → Value → Prop) (fpo : List (Addr × Obj)) (s₂ : Shared) (J : Nat → (Str → Option Value) → List (Addr × Obj) → Prop) : Prop :=
  ∀ (i : Nat) (v : Value) (m₁ : Str → Option Value) (news₁ : List (Addr × Obj)) (oI : Obj) (h : Heap) (tk : Nat) (E' : Value → Shared → Prop), i < n → P i v → J i m₁ news₁ → (∀ p ∈ news₁, p.1 ≠ I) →
    Fr h₀ env.locals h (fun y => if y = x then some v else m₁ y) → News h₀ env.locals h ((I, oI) :: (fpo ++ news₁)) →
    wpAny (model prog w) A (execs body env) (FEnd h₀ env.locals s₂ ((I, oI) :: fpo) I (J (i + 1))) E' { s₂ with heap := h, toks := tk }
theorem for_gen {R : Result → Shared → Prop} {I : Addr} {fp : List Addr} {n : Nat} {P : Nat → Value → Prop} {St : Nat → Heap → Prop} {m : Str → Option Value} {news fpo : List (Addr × Obj)} (W : Walks prog w A I fp [I] n P St)
    (hx : env.kindOf x = some .local) (hp : (env.scope.kind == .class || (env.scope.kind == .module && env.locals != env.globals)) = false)
    (hfp : ∀ b ∈ fp, b = I ∨ (∃ o, (b, o) ∈ fpo) ∨ ∃ o, h₀.get? b = some o) (hIo : ∀ i h, St i h → ∃ o, h.get? I = some o) (hI0 : h₀.get? I = none) (hIL : I ≠ env.locals) (hIf : ∀ p ∈ fpo, p.1 ≠ I)
    (hst : St 0 s₂.heap) (F : Fr h₀ env.locals s₂.heap m) (N : News h₀ env.locals s₂.heap (fpo ++ news)) (hIn : ∀ p ∈ news, p.1 ≠ I) (J : Nat → (Str → Option Value) → List (Addr × Obj) → Prop) (hj : J 0 m news)
    (turn : FTurn prog w A env h₀ x body I n P fpo s₂ J)
    (fin : ∀ h tk m₁ news₁, Fr h₀ env.locals h m₁ → News h₀ env.locals h (fpo ++ news₁) → J n m₁ news₁ → R (.ok .next) { s₂ with heap := h, toks := tk }) :
    codeAny (model prog w) A (.forLoop (.Name x px) (.ref I) body [] env) R s₂ := by
  have hLfp : env.locals ∉ fp := fun hm => by
    rcases hfp _ hm with h | ⟨o, ho⟩ | ⟨o, ho⟩
    · exact hIL h.symm
    · exact (N _ (List.mem_append.mpr (.inl ho))).2.1 rfl
    · exact absurd (Heap.lt_size ho) (Nat.not_lt.mpr F.above)
  refine codeAny_forLoop_any (fun k s' => ∃ h tk i m₁ news₁, s' = { s₂ with heap := h, toks := tk } ∧ i ≤ n ∧ k = n + 1 - i ∧ St i h ∧ Fr h₀ env.locals h m₁ ∧ News h₀ env.locals h (fpo ++ news₁) ∧ (∀ p ∈ news₁, p.1 ≠ I) ∧ J i m₁ news₁) ?_ (n + 1)
    ⟨_, _, 0, m, news, rfl, Nat.zero_le _, rfl, hst, F, N, hIn, hj⟩
  rintro k s' ⟨h, tk, i, m₁, news₁, rfl, hile, rfl, hst', F', N', hIn', hJ⟩
  have offI : ∀ p ∈ fpo ++ news₁, p.1 ≠ I := fun p hp => (List.mem_append.mp hp).elim (hIf p) (hIn' p)
  by_cases hlt : i < n
  · refine W.item i _ _ _ hlt hst' fun v h₂ tk₂ hPv hst₂ hk₂ => ?_
    have hk₂' : ∀ b o, b ≠ I → h.get? b = some o → h₂.get? b = some o := fun b o hb e => hk₂ b o (by simpa using hb) e
    have F₂ : Fr h₀ env.locals h₂ m₁ := ⟨F'.ns.at' fun o e => hk₂' _ o (Ne.symm hIL) e, fun b o e => hk₂' b o (by rintro rfl; rw [hI0] at e; cases e) (F'.keep b o e), F'.above⟩
    have N₂ : News h₀ env.locals h₂ (fpo ++ news₁) := fun p hp => ⟨hk₂' _ _ (offI p hp) (N' p hp).1, (N' p hp).2⟩
    refine wpAny_of_eq (show letOwnedTupleGo (.Name x px) (.ref I) v = pure () from rfl) ?_
    refine wpAny_assign_Name (wpAny_storeName_local hx F₂.ns (fun h₃ hn₃ hs₃ => ?_) hp)
    have F₃ : Fr h₀ env.locals h₃ (fun y => if y = x then some v else m₁ y) := F₂.set hn₃ hs₃
    have N₃ : News h₀ env.locals h₃ (fpo ++ news₁) := N₂.set hs₃
    have hst₃ : St (i + 1) h₃ := W.frame _ _ _ hst₂ fun b hb o e => hs₃.extBut b o (fun q => hLfp (q ▸ hb)) e
    obtain ⟨oI, heI⟩ := hIo _ _ hst₃
    refine wpAny_mono (turn i v m₁ news₁ oI h₃ _ _ hlt hPv hJ hIn' F₃ (fun p hp => ?_)) (fun f s₄ h₄ => ?_) fun _ _ e => e
    · rcases List.mem_cons.mp hp with rfl | hp
      · exact ⟨heI, hIL, hI0⟩
      · exact N₃ p hp
    · obtain ⟨rfl, h₅, tk₅, m₅, news₅, rfl, F₅, N₅, hI₅, J₅⟩ := h₄
      have zI := (N₅ (I, oI) (List.mem_cons_self ..)).1
      have N₆ : News h₀ env.locals h₅ (fpo ++ news₅) := fun p hp => N₅ p (List.mem_cons_of_mem _ hp)
      refine ⟨n + 1 - (i + 1), by omega, h₅, tk₅, i + 1, m₅, news₅, rfl, hlt, rfl, W.frame _ _ _ hst₃ (fun b hb o e => ?_), F₅, N₆, hI₅, J₅⟩
      rcases hfp b hb with rfl | ⟨o', ho'⟩ | ⟨o', ho'⟩
      · rw [heI] at e; cases e; exact zI
      · have e3 := (N₃ _ (List.mem_append.mpr (.inl ho'))).1
        rw [e] at e3; cases e3
        exact (N₆ _ (List.mem_append.mpr (.inl ho'))).1
      · have e3 := F₃.keep _ _ ho'
        rw [e] at e3; cases e3
        exact F₅.keep _ _ ho'
  · have hin : i = n := by omega
    subst hin
    refine W.done _ _ _ hst' fun h₂ tk₂ hk₂ => ?_
    have hk₂' : ∀ b o, b ≠ I → h.get? b = some o → h₂.get? b = some o := fun b o hb e => hk₂ b o (by simpa using hb) e
    refine wpAny_execs_nil (fin h₂ tk₂ m₁ news₁ ⟨F'.ns.at' fun o e => hk₂' _ o (Ne.symm hIL) e, fun b o e => hk₂' b o (by rintro rfl; rw [hI0] at e; cases e) (F'.keep b o e), F'.above⟩ (fun p hp => ⟨hk₂' _ _ (offI p hp) (N' p hp).1, (N' p hp).2⟩) hJ)

section
variable {Q : Flow → Shared → Prop} {m : Str → Option Value} {news : List (Addr × Obj)} {s : Shared}
theorem new_none {L : Addr} {h : Heap} (F : Fr h₀ L h m) : h₀.get? h.objs.size = none := by
  cases e : h₀.get? h.objs.size with
  | none => rfl
  | some o => exact absurd (Heap.lt_size (F.keep _ _ e)) (Nat.lt_irrefl _)
/-- a loop over bytes -/
theorem for_bytes {b : Array UInt8} {t : Tok} {R : Result → Shared → Prop} (J : Nat → (Str → Option Value) → List (Addr × Obj) → Prop) (hh : A.handled = none) (hx : env.kindOf x = some .local) (hp : (env.scope.kind == .class || (env.scope.kind == .module && env.locals != env.globals)) = false)
    (F : Fr h₀ env.locals s.heap m) (N : News h₀ env.locals s.heap news) (hj : J 0 m news)
    (turn : ∀ I, @LE.le Nat _ s.heap.objs.size I → FTurn prog w A env h₀ x body I b.size (fun i v => ∃ c u, b[i]? = some c ∧ v = .int (c.toNat : Int) u) [] s J)
    (fin : ∀ h tk m₁ news₁, Fr h₀ env.locals h m₁ → News h₀ env.locals h news₁ → J b.size m₁ news₁ → R (.ok .next) { s with heap := h, toks := tk }) :
    wpAny (model prog w) A (pyIter (.bytes b t)) (fun it s₂ => codeAny (model prog w) A (.forLoop (.Name x px) it body [] env) R s₂) E s := by
  refine KBw.pyIter_bytes ?_
  refine for_gen (fpo := []) (m := m) (news := news) (KBw.walks hh _ b t) hx hp (fun b' hb => .inl (List.mem_singleton.mp hb)) (fun i h st => let ⟨o, ho, _⟩ := st; ⟨o, ho⟩) (new_none F) (Nat.ne_of_gt F.ns.lt) (fun p hp => nomatch hp)
    ⟨_, Heap.get?_push_size _ rfl, rfl, rfl⟩ (F.push _) (News.pushKeep N _) (fun p hp => Nat.ne_of_lt (Heap.lt_size (N p hp).1)) J hj (turn _ (Nat.le_refl _)) fin
/-- a loop over a list that stood before the frame -/
theorem for_listB {ax : Addr} {items : Array Value} {R : Result → Shared → Prop} (J : Nat → (Str → Option Value) → List (Addr × Obj) → Prop) (hh : A.handled = none) (hx : env.kindOf x = some .local) (hp : (env.scope.kind == .class || (env.scope.kind == .module && env.locals != env.globals)) = false)
    (hl : h₀.IsList ax items) (F : Fr h₀ env.locals s.heap m) (N : News h₀ env.locals s.heap news) (hj : J 0 m news)
    (turn : ∀ I, @LE.le Nat _ s.heap.objs.size I → FTurn prog w A env h₀ x body I items.size (fun i v => items[i]? = some v) [] s J)
    (fin : ∀ h tk m₁ news₁, Fr h₀ env.locals h m₁ → News h₀ env.locals h news₁ → J items.size m₁ news₁ → R (.ok .next) { s with heap := h, toks := tk }) :
    wpAny (model prog w) A (pyIter (.ref ax)) (fun it s₂ => codeAny (model prog w) A (.forLoop (.Name x px) it body [] env) R s₂) E s := by
  obtain ⟨oa, hoa, _⟩ := id hl
  have hls : s.heap.IsList ax items := hl.at fun o e => F.keep ax o e
  have hax : ax < s.heap.objs.size := Heap.lt_size (F.keep _ _ hoa)
  refine wpAny_pyIter_list hls ?_
  refine for_gen (fpo := []) (m := m) (news := news) (Walks.list hh _ ax (Nat.ne_of_lt hax) items) hx hp (fun b hb => ?_) (fun i h st => let ⟨⟨o, ho, _⟩, _⟩ := st; ⟨o, ho⟩) (new_none F) (Nat.ne_of_gt F.ns.lt) (fun p hp => nomatch hp)
    ⟨⟨_, Heap.get?_push_size _ rfl, rfl, rfl⟩, hls.push _⟩ (F.push _) (News.pushKeep N _) (fun p hp => Nat.ne_of_lt (Heap.lt_size (N p hp).1)) J hj (turn _ (Nat.le_refl _)) fin
  rcases List.mem_cons.mp hb with rfl | hb
  · exact .inl rfl
  · rw [List.mem_singleton.mp hb]; exact .inr (.inr ⟨oa, hoa⟩)
/-- a loop over a list of the frame's own making -/
theorem for_listN {ax : Addr} {items : Array Value} {k : Nat} {R : Result → Shared → Prop} (J : Nat → (Str → Option Value) → List (Addr × Obj) → Prop) (hh : A.handled = none) (hx : env.kindOf x = some .local) (hp : (env.scope.kind == .class || (env.scope.kind == .module && env.locals != env.globals)) = false)
    (F : Fr h₀ env.locals s.heap m) (N : News h₀ env.locals s.heap ((ax, listOf items k) :: news)) (hj : J 0 m news)
    (turn : ∀ I, @LE.le Nat _ s.heap.objs.size I → FTurn prog w A env h₀ x body I items.size (fun i v => items[i]? = some v) [(ax, listOf items k)] s J)
    (fin : ∀ h tk m₁ news₁, Fr h₀ env.locals h m₁ → News h₀ env.locals h ((ax, listOf items k) :: news₁) → J items.size m₁ news₁ → R (.ok .next) { s with heap := h, toks := tk }) :
    wpAny (model prog w) A (pyIter (.ref ax)) (fun it s₂ => codeAny (model prog w) A (.forLoop (.Name x px) it body [] env) R s₂) E s := by
  have hN0 := N _ (List.mem_cons_self ..)
  have hls : s.heap.IsList ax items := ⟨_, hN0.1, rfl, k, rfl⟩
  have hax : ax < s.heap.objs.size := Heap.lt_size hN0.1
  refine wpAny_pyIter_list hls ?_
  refine for_gen (fpo := [(ax, listOf items k)]) (m := m) (news := news) (Walks.list hh _ ax (Nat.ne_of_lt hax) items) hx hp (fun b hb => ?_) (fun i h st => let ⟨⟨o, ho, _⟩, _⟩ := st; ⟨o, ho⟩) (new_none F) (Nat.ne_of_gt F.ns.lt) (fun p hp => ?_)
    ⟨⟨_, Heap.get?_push_size _ rfl, rfl, rfl⟩, hls.push _⟩ (F.push _) (News.pushKeep N _) (fun p hp => Nat.ne_of_lt (Heap.lt_size (N p (List.mem_cons_of_mem _ hp)).1)) J hj (turn _ (Nat.le_refl _)) fin
  · rcases List.mem_cons.mp hb with rfl | hb
    · exact .inl rfl
    · rw [List.mem_singleton.mp hb]; exact .inr (.inl ⟨_, List.mem_singleton.mpr rfl⟩)
  · rw [List.mem_singleton.mp hp]; exact Nat.ne_of_lt hax
end
end
end Mine
end
-- C4
section
open PySem PySem.W PySem.Calls PyProof.Rows
set_option Elab.async false
set_option maxRecDepth 100000
set_option maxHeartbeats 8000000
namespace Mine
section
variable {prog : Program} {w : World} {A : Around} {E : Value → Shared → Prop} {s : Shared} {h₀ : Heap} {L : Addr} {m : Str → Option Value} {news news' : List (Addr × Obj)}
theorem iadd_list {l b : Addr} {items items2 : Array Value} {n n2 : Nat} {Q : Value → Shared → Prop} (hl : s.heap.get? l = some (PySem.W.listOf items n)) (hb : s.heap.get? b = some (PySem.W.listOf items2 n2)) (hsz : items.size + items2.size ≤ sizeLine)
    (h : Q (.ref l) { s with heap := s.heap.update l (Obj.mapSeq fun x => x ++ items2) }) : wpAny (model prog w) A (inplaceOp .Add (.ref l) (.ref b)) Q E s := by
  have ha : s.TypeIs (.ref l) "list" := ⟨_, hl, rfl⟩
  have hbt : s.TypeIs (.ref b) "list" := ⟨_, hb, rfl⟩
  unfold inplaceOp
  refine wpAny_holding ?_
  have hlk : typeLookup (.type "list") (dunderI "add") = pure (some (.builtin "list.__iadd__")) := PySem.F.slot_list_iadd.lookup
  have hfi : fillsInplaceSlot (.type "list") "add" (Operator.Add == .Add) = pure false := by
    unfold fillsInplaceSlot
    show (typeLookup (.type "list") (dunderI "add") >>= fun fi => pure (fi.isSome && !isSeqSlot fi)) = pure false
    rw [hlk]; kernel_rfl
  have hsi : seqSlot? (.type "list") (dunderI "add") = pure (some (.builtin "list.__iadd__")) := by
    unfold seqSlot?
    rw [hlk]; kernel_rfl
  refine wpAny_bind (wpAny_typeOf ha (wpAny_bind (wpAny_of_eq hfi ?_)))
  show wpAny _ A (if false = true then _ else _) Q E s
  rw [if_neg Bool.false_ne_true]
  refine wpAny_bind (binaryOp1_none (nm := "add") ha hbt noFill_list_add ?_)
  refine wpAny_bind (wpAny_of_eq hsi ?_)
  refine wpAny_bind (wpAny_rule ?_)
  exact call_meets PySem.F.slot_list_iadd ha PySem.F.entry_list_iadd (PySem.F.args_list_iadd_2 _ _) (AutoSeq1.list___iadd___list_list_0 l items n b items2 n2 (extend_door hsz) (Nat.le_trans (Nat.le_add_right _ _) hsz) (Nat.le_succ_of_le hsz)) ⟨hl, hb, h⟩
theorem iadd_K {D b : Addr} {its its2 : Array Value} {n n2 : Nat} {Q : Value → Shared → Prop} (F : Fr h₀ L s.heap m) (N : News h₀ L s.heap news) (hb : s.heap.get? b = some (PySem.W.listOf its2 n2)) (U : Upd D (PySem.W.listOf its n) (PySem.W.listOf (its ++ its2) (if (its ++ its2).size == its.size then n else n + 1)) news news')
    (hsz : its.size + its2.size ≤ sizeLine) (h : ∀ h', Fr h₀ L h' m → News h₀ L h' news' → Q (.ref D) { s with heap := h' }) : wpAny (model prog w) A (inplaceOp .Add (.ref D) (.ref b)) Q E s := by
  obtain ⟨pre, post, rfl, rfl, a, b'⟩ := U.split
  have z := N (D, PySem.W.listOf its n) (List.mem_append.mpr (.inr (.head _)))
  have ho' : (s.heap.update D (Obj.mapSeq fun x => x ++ its2)).get? D = some (PySem.W.listOf (its ++ its2) (if (its ++ its2).size == its.size then n else n + 1)) := by
    rw [Heap.get?_update_self _ z.1 (by rw [mapSeq_app]; rfl), mapSeq_app]
  exact iadd_list z.1 hb hsz (h _ (F.change (Heap.SameBut.update ..) z.2.1 z.2.2) (news_set N a b' (Heap.SameBut.update ..) ho'))
end

section
variable {w : World} {mg mb : Str → Option Value} {A : Around} {s : Shared} {E : Value → Shared → Prop} {Q : Value → Shared → Prop} {f : Addr} {args : List Value}
theorem enterC {name qual : Str} {params : Arguments} {body : List Stmt} {scope : Scope} {dV kV doc pm cdv ct oc : Value} {an od : Option Addr} {osl : Array (Option Value)} {binds : List (Str × Value)}
    (r : Rdy w mg mb s.heap) (ho : (Mine.hd.heap_39 w.params).lookup f = some ⟨oc, od, .func (fnOf name qual params body scope dV kV doc pm an cdv ct), osl⟩) (hcd : codeIn (Mine.hd.heap_39 w.params) cdv qual = true) (hroom : A.depth < recursionLimit)
    (hbind : BindsTo s (fnOf name qual params body scope dV kV doc pm an cdv ct) ⟨args, []⟩ binds) (hkind : (binds.all fun y => scope.names.lookup y.1 == some .local || scope.names.lookup y.1 == some .cell) = true)
    (hnd : ((cellsFrom 0 scope.names []).map (·.1)).Nodup)
    (h : ∀ L' h₁ tk cells, Fr s.heap L' h₁ (bindL (envOfC qual scope L' f cdv).kindOf binds fun _ => none) → News s.heap L' h₁ cells → CellsAre (bindC (envOfC qual scope L' f cdv).kindOf binds fun _ => none) (cellsFrom (L' + 1) scope.names []) cells →
      (Mine.hd.heap_39 w.params).In s.heap → TopRead Mine.hd.view_39 (looseW Mine.hd.view_39 []) mg mb s.heap →
      wpAny (model PR w) (A.deeper (envOfC qual scope L' f cdv)) (execs body (envOfC qual scope L' f cdv)) (fun fl s' => Q (match fl with | .ret v => v | _ => .none) s') (fun _ _ => False) { s with heap := h₁, toks := tk })
    (hco : scope.isCoroutine = false) (hgen : scope.isGenerator = false) (hk : scope.kind = .function) : wpAny (model PR w) A (call (.ref f) args) Q E s := by
  refine wpAny_call ?_
  refine codeAny_call_function hroom (r.k _ _ ho) rfl hco hgen rfl (codeRec_of r.k hcd) (hbind _ _ _ _ ?_)
  refine wpAny_newFunctionEnv_cells hk (kindsX hkind _) fun env' he s' x => ?_
  subst he
  refine ⟨r.t.nolimit.keeps x.toInCall.keep, codeAny_func ?_⟩
  obtain ⟨h₁, tk, rfl, _⟩ := x.done
  have hk₁ := x.toInCall.keep
  obtain ⟨cells, NC, Y⟩ := Cl.news (h₀ := s.heap) (Nat.le_refl _) fun n c hm => ⟨x.cell n c (lookup_of_mem_nodup (cellsFrom_names scope.names 0 (s.heap.objs.size + 1) [] [] rfl ▸ hnd) hm), x.above n c hm⟩
  exact wpAny_mono (h s.heap.objs.size h₁ tk cells ⟨x.toInCall.ns, hk₁, Nat.le_refl _⟩ NC Y r.k r.t) (fun fl s' hl => hl) fun _ _ y => y.elim
end
end Mine
end
-- C5
section
open PySem PySem.W PySem.Calls PyProof.Rows
namespace Mine
theorem fresh_ne {h : Heap} {a b : Addr} {o : Obj} (ha : h.get? a = none) (hb : h.get? b = some o) : @Ne Nat a b := fun e => by have e' : a = b := e; rw [e', hb] at ha; cases ha
theorem news_add {h₀ h h' : Heap} {L a : Addr} {m : Str → Option Value} {news : List (Addr × Obj)} {o : Obj} (F : Fr h₀ L h m) (N : News h₀ L h' news) (ha : h.get? a = none) (e : h'.get? a = some o) : News h₀ L h' ((a, o) :: news) := by
  intro p hp
  rcases List.mem_cons.mp hp with rfl | hp
  · refine ⟨e, ?_, ?_⟩
    · rintro rfl
      obtain ⟨oL, _, _, hoL, _⟩ := F.ns
      have ha' : h.get? a = none := ha
      rw [hoL] at ha'; cases ha'
    · cases e0 : h₀.get? a with
      | none => rfl
      | some o' => rw [F.keep _ _ e0] at ha; cases ha
  · exact N p hp
theorem addl_K {prog : Program} {w : World} {A : Around} {E : Value → Shared → Prop} {s : Shared} {h₀ : Heap} {L : Addr} {m : Str → Option Value} {news : List (Addr × Obj)} {l b : Addr} {its its2 : Array Value} {n n2 : Nat} {Q : Value → Shared → Prop} (F : Fr h₀ L s.heap m) (N : News h₀ L s.heap news) (hl : s.heap.get? l = some (PySem.W.listOf its n)) (hb : s.heap.get? b = some (PySem.W.listOf its2 n2)) (hsz : its.size + its2.size ≤ sizeLine)
    (h : ∀ D h', Fr h₀ L h' m → News h₀ L h' ((D, PySem.W.listOf (its ++ its2) 0) :: news) → (∀ p ∈ news, p.1 < D) → Q (.ref D) { s with heap := h' }) : wpAny (model prog w) A (binaryOp .Add (.ref l) (.ref b)) Q E s :=
  P.add_list (hsz := hsz) hl hb (h _ _ (F.push _) (N.push F _) fun p hp => Heap.lt_size (N p hp).1)
theorem ldnG {M : Model} {A : Around} {E : Value → Shared → Prop} {s : Shared} {env : Env} {h₀ : Heap} {m : Str → Option Value} {x : Str} {v : Value} {Q : Value → Shared → Prop} (F : Fr h₀ env.locals s.heap m) (hv : m x = some v) (h : Q v s) (hk : env.scope.kind = .function) (hl : env.kindOf x = some .local) :
    wpAny M A (loadName env x) Q E s := wpAny_loadName_local hk hl F.ns hv h
end Mine
end
-- C6
section
open PySem PySem.W PySem.Calls PyProof.Rows PySem.Spec
set_option Elab.async false
set_option maxRecDepth 100000
set_option maxHeartbeats 8000000
namespace Mine
/-- the octets of a bytes, as numbers -/
def bN (b : Array UInt8) : List Nat := b.toList.map fun c => c.toNat
theorem order_lt : ∀ a b : List UInt8, (Builtin.Bytes.order a b == .lt) = ltCps (a.map fun c => c.toNat) (b.map fun c => c.toNat)
  | [], [] => rfl
  | [], _ :: _ => rfl
  | _ :: _, [] => rfl
  | x :: a, y :: b => by
    simp only [Builtin.Bytes.order, List.map_cons, ltCps]
    by_cases h1 : x < y
    · have h1' : x.toNat < y.toNat := h1
      simp [h1, h1']
    · have h1' : ¬ x.toNat < y.toNat := h1
      by_cases h2 : x > y
      · have h2' : y.toNat < x.toNat := h2
        have h3 : x.toNat ≠ y.toNat := by omega
        simp only [if_neg h1, if_pos h2]
        simp [h1', h3]
      · have h2' : ¬ y.toNat < x.toNat := h2
        have h3 : x.toNat = y.toNat := by omega
        simp only [if_neg h1, if_neg h2]
        simp [h3, order_lt a b]
theorem slot_bytes_lt : Slot "bytes" (cmpInfo .Lt).2.1 "bytes.__lt__" :=
  .of (owner := "bytes") (n := "__lt__") (by rw [typeLookup_type, builtinLookup_eq_fast]; kernel_rfl) (by decide +kernel) (by decide +kernel) (by decide +kernel)
    (by first | exact .inl (by decide +kernel) | exact .inr (by decide +kernel)) (by rw [isSubtype_type]; kernel_rfl)
theorem entry_bytes_lt : entryFor table "bytes.__lt__" = some Builtin.«bytes.__lt__» := entryFor_of_tree (by kernel_rfl)
theorem args_bytes_lt (a b : Value) : argsOk "bytes.__lt__" ⟨[a, b], []⟩ := by
  unfold argsOk; rw [signature?_of (id := "bytes.__lt__") (n := ['_', '_', 't', 'l', '_', '_']) (o := ['s', 'e', 't', 'y', 'b']) (by kernel_rfl) FB.owner_bytes]; kernel_rfl
section
variable {prog : Program} {w : World} {A : Around} {E : Value → Shared → Prop} {s : Shared}
theorem call_bytes_lt {a b : Array UInt8} {t u : Tok} {Q : Value → Shared → Prop} (h : Q (.bool (ltCps (bN a) (bN b))) s) :
    wpAny (model prog w) A (call (.builtin "bytes.__lt__") [.bytes a t, .bytes b u]) Q E s := by
  refine wpAny_call_entry slot_bytes_lt (typeIs_bytes s a t) entry_bytes_lt ?_ (args_bytes_lt _ _)
  show wpAny _ _ (isInstance (.bytes b u) (.type "bytes") >>= fun r => _) _ _ s
  refine wpAny_bind (wpAny_isInstance (typeIs_bytes s b u) F.sub_bytes_bytes ?_)
  exact wpAny_pure ⟨_, rfl, by unfold bN at h; rw [← order_lt] at h; exact h⟩
theorem oneLt_bytes {a b : Array UInt8} {t u : Tok} {Q : Bool → Shared → Prop} (h : Q (ltCps (bN a) (bN b)) s) : wpAny (model prog w) A (oneLt' true (.bytes a t) (.bytes b u)) Q E s := by
  rw [oneLt'_eq]
  simp only [if_true]
  refine wpAny_bind (wpAny_cRoomFor_byValue rfl ?_)
  refine wpAny_bind (wpAny_callSpecialIfBound?_slot (typeIs_bytes s a t) slot_bytes_lt (call_bytes_lt ?_))
  exact wpAny_truthy_bool h
end
abbrev bytesKind : PyProof.Rows.KeyKind where
  α := List Nat
  blt a b := ltCps a b
  irrefl a := lt_irrefl a
  trans a b c h1 h2 := lt_trans h1 h2
  negTrans a b c h := by
    cases hab : ltCps a b with
    | true => exact .inl rfl
    | false =>
      cases hbc : ltCps b c with
      | true => exact .inr rfl
      | false => rw [le_trans' hbc hab] at h; cases h
  total a b h1 h2 := lt_total a b h1 h2
  keyOf v := match v with | .bytes x _ => some (bN x) | _ => none
  dflt := []
theorem bytesKind_oneLt : bytesKind.OneLt := by
  intro prog w A E s x y a b Q ha hb h
  cases x <;> simp only [bytesKind, reduceCtorEq, Option.some.injEq] at ha
  cases y <;> simp only [bytesKind, reduceCtorEq, Option.some.injEq] at hb
  cases ha; cases hb
  exact oneLt_bytes h
abbrev ByAre := Are Value.bytes
def byOf : Value → Array UInt8
  | .bytes x _ => x
  | _ => #[]
theorem by_all {vs : List Value} {bs : List (Array UInt8)} (h : ByAre vs bs) : ∀ v, v ∈ vs → ∃ x t, v = .bytes x t := by
  induction h with
  | nil => intro v hv; cases hv
  | cons a t _ ih =>
    intro v hv
    rcases List.mem_cons.mp hv with rfl | hv
    · exact ⟨a, t, rfl⟩
    · exact ih v hv
theorem by_map {vs : List Value} {bs : List (Array UInt8)} (h : ByAre vs bs) : vs.map byOf = bs := by
  induction h with
  | nil => rfl
  | cons a t _ ih => rw [List.map_cons, ih]; rfl
theorem by_of_all : ∀ (vs : List Value), (∀ v, v ∈ vs → ∃ x t, v = .bytes x t) → ByAre vs (vs.map byOf)
  | [], _ => .nil
  | v :: vs, h => by
    obtain ⟨x, t, rfl⟩ := h v (List.mem_cons_self ..)
    exact .cons x t (by_of_all vs fun u hu => h u (List.mem_cons_of_mem _ hu))
theorem by_keysOf {vs : List Value} {bs : List (Array UInt8)} (hS : ByAre vs bs) : KeysOf bytesKind (pairsOf vs) := by
  intro p hp
  rw [pairsOf_toList] at hp
  obtain ⟨x, t, e⟩ := by_all hS _ (mem_zip_self hp).2
  exact ⟨bN x, by rw [e]⟩
theorem KK_by {xs : Array Keyed} {i : Nat} (hi : i < xs.size) {x : Array UInt8} {t : Tok} {q : Value} (hx : xs[i] = (.bytes x t, q)) : KK bytesKind xs i = bN x := by
  unfold KK; rw [getElem?_pos xs i hi, hx]; rfl
theorem mapM_first_by {vs : List Value} {bs : List (Array UInt8)} (h : ByAre vs bs) : vs.mapM firstOfTuple' = pure (vs.map fun _ => none) := by
  induction h with
  | nil => simp
  | cons x t _ ih => rw [List.mapM_cons, show firstOfTuple' (.bytes x t) = pure none from rfl, ih]; simp
theorem mapM_typeOf_by {vs : List Value} {bs : List (Array UInt8)} (h : ByAre vs bs) : vs.mapM typeOf = pure (vs.map fun _ => Value.type "bytes") := by
  induction h with
  | nil => simp
  | cons x t _ ih =>
    rw [List.mapM_cons, ih]
    show (pure (Value.type "bytes") >>= fun b => pure _ >>= fun bs => pure (b :: bs)) = _
    simp
theorem keyKind_by {v₁ v₂ : Value} {vs : List Value} {bs : List (Array UInt8)} (hS : ByAre (v₁ :: v₂ :: vs) bs) : keyKind' (v₁ :: v₂ :: vs).toArray = pure oneType' := by
  rw [keyKind'_eq, List.mapM_toArray, mapM_first_by hS]
  simp only [map_pure, pure_bind]
  rw [if_neg (by simp), if_neg (by simp)]
  rw [oneTypeOnly'_eq, List.mapM_toArray, mapM_typeOf_by hS]
  simp only [map_pure, pure_bind]
  have hall : ((List.map (fun _ => Value.type "bytes") (v₁ :: v₂ :: vs)).toArray.all fun x => x == Value.type "bytes") = true := by
    simp only [List.all_toArray, List.all_map, List.all_eq_true]
    intro _ _
    rfl
  have h0 : (List.map (fun _ => Value.type "bytes") (v₁ :: v₂ :: vs)).toArray[0]? = some (Value.type "bytes") := by simp
  rw [h0]
  simp only [hall, if_true, pure_bind, Option.isSome_some]
theorem sorted_out_by {vs : List Value} {bs : List (Array UInt8)} (hS : ByAre vs bs) {xs : Array Keyed} (hp : xs.Perm (pairsOf vs)) (hs : SortedToK bytesKind xs (pairsOf vs).size) :
    ∃ bs', ByAre (xs.map (·.2)).toList bs' ∧ bs'.Perm bs ∧ bs'.Pairwise fun a b => ltCps (bN b) (bN a) = false := by
  have hl : xs.toList.Perm (vs.zip vs) := by rw [← pairsOf_toList]; exact Array.perm_iff_toList_perm.mp hp
  have hmem : ∀ p, p ∈ xs.toList → p.1 = p.2 ∧ p.1 ∈ vs := fun p hp' => mem_zip_self (hl.mem_iff.mp hp')
  refine ⟨xs.toList.map (fun p => byOf p.1), ?_, ?_, ?_⟩
  · have e : (xs.map (·.2)).toList = xs.toList.map (·.1) := by
      rw [Array.toList_map]; exact List.map_congr_left fun p hp' => (hmem p hp').1.symm
    rw [e]
    have h1 := by_of_all (xs.toList.map (·.1)) (by
      intro v hv
      obtain ⟨p, hp', rfl⟩ := List.mem_map.mp hv
      exact by_all hS _ (hmem p hp').2)
    rwa [List.map_map] at h1
  · have h1 := hl.map (fun p => byOf p.1)
    have e2 : (vs.zip vs).map (fun p => byOf p.1) = bs := by
      have : (vs.zip vs).map (fun p => byOf p.1) = ((vs.zip vs).map Prod.fst).map byOf := by rw [List.map_map]; rfl
      rw [this, List.map_fst_zip (Nat.le_refl _), by_map hS]
    rwa [e2] at h1
  · rw [List.pairwise_iff_getElem]
    intro i j hi hj hij
    have hi' : i < xs.size := by simpa using hi
    have hj' : j < xs.size := by simpa using hj
    have h1 := hs i j (Nat.le_of_lt hij) (by rw [← hp.size_eq]; exact hj')
    obtain ⟨x, t, ex⟩ := by_all hS _ (hmem xs[i] (by simp)).2
    obtain ⟨y, u, ey⟩ := by_all hS _ (hmem xs[j] (by simp)).2
    rw [KK_by hi' (x := x) (t := t) (q := xs[i].2) (Prod.ext ex rfl), KK_by hj' (x := y) (t := u) (q := xs[j].2) (Prod.ext ey rfl)] at h1
    simp only [List.getElem_map, Array.getElem_toList]
    rw [show byOf xs[i].1 = x by rw [ex]; rfl, show byOf xs[j].1 = y by rw [ey]; rfl]
    exact h1
section
variable {prog : Program} {w : World} {A : Around} {E : Value → Shared → Prop} {s : Shared}
theorem sorted_N_by {h₀ : Heap} {L : Addr} {m : Str → Option Value} {news : List (Addr × Obj)} {l : Addr} {vs : List Value} {bs : List (Array UInt8)} {Q : Value → Shared → Prop}
    (F : Fr h₀ L s.heap m) (N : News h₀ L s.heap news) (hl : s.heap.IsList l vs.toArray) (hS : ByAre vs bs) (h64 : vs.length < 64)
    (h : ∀ (h' : Heap) (vs' : List Value) (bs' : List (Array UInt8)) (e : Nat), Fr h₀ L h' m → News h₀ L h' ((s.heap.objs.size + 1, PySem.W.listOf vs'.toArray e) :: news) →
      ByAre vs' bs' → bs'.Perm bs → (bs'.Pairwise fun a b => ltCps (bN b) (bN a) = false) → Q (.ref (s.heap.objs.size + 1)) { s with heap := h' }) :
    wpAny (model prog w) A (call (.builtin "sorted") [.ref l]) Q E s := by
  refine sortedK bytesKind_oneLt hl (by_keysOf hS) (fun v₁ v₂ rest e => keyKind_by (by rw [← e]; exact hS)) h64 fun st' hp hs => ?_
  obtain ⟨bs', a1, a2, a3⟩ := sorted_out_by hS hp hs
  obtain ⟨e, he⟩ := sortedAll_at s.heap vs ((arrOf st').map (·.2))
  exact h _ ((arrOf st').map (·.2)).toList bs' e (F.kept fun _ _ => sortedAll_old) (N.kept_cons F (fun _ _ => sortedAll_old) (Nat.le_succ _) he) a1 a2 a3
end
/-- the one rising row of bytes -/
theorem sorted_by_is {bs : List (Array UInt8)} {cs : List (Array UInt8)} (h : bs.Pairwise fun a b => ltCps (bN b) (bN a) = false) (hp : bs.Perm cs) (hs : cs.Pairwise fun a b => ltCps (bN a) (bN b) = true) : bs = cs := by
  refine List.Perm.eq_of_pairwise (le := fun a b : Array UInt8 => ltCps (bN b) (bN a) = false) ?_ h (hs.imp fun h => lt_asymm h) hp
  intro a b _ _ h1 h2
  have e := lt_total _ _ h2 h1
  obtain ⟨a⟩ := a
  obtain ⟨b⟩ := b
  congr 1
  unfold bN at e
  exact (List.map_inj_right (fun x y h => UInt8.toNat_inj.mp h)).mp e
end Mine
end
-- C7
section
open PySem PySem.W PySem.Calls PyProof.Rows PySem.Spec
set_option Elab.async false
set_option maxRecDepth 100000
set_option maxHeartbeats 2000000
namespace Mine
theorem slot_bytes_join : Slot "bytes" "join" "bytes.join" :=
  .of (owner := "bytes") (n := "join") (by rw [typeLookup_type, builtinLookup_eq_fast]; kernel_rfl) (by decide +kernel) (by decide +kernel) (by decide +kernel)
    (by first | exact .inl (by decide +kernel) | exact .inr (by decide +kernel)) (by rw [isSubtype_type]; kernel_rfl)
theorem entry_bytes_join : entryFor table "bytes.join" = some Builtin.«bytes.join» := entryFor_of_tree (by kernel_rfl)
theorem args_bytes_join (a b : Value) : argsOk "bytes.join" ⟨[a, b], []⟩ := by
  unfold argsOk; rw [signature?_of (id := "bytes.join") (n := ['n', 'i', 'o', 'j']) (o := ['s', 'e', 't', 'y', 'b']) (by kernel_rfl) FB.owner_bytes]; kernel_rfl
theorem take_buf {id : String} (b : Array UInt8) (t : Tok) : Builtin.Bytes.takeBufferQuiet? id (.bytes b t) 0 = pure (some (b, none)) := by
  have h1 : Builtin.Bytes.takeBuffer? id (.bytes b t) 0 = pure (some (b, none)) := by
    unfold Builtin.Bytes.takeBuffer?
    rw [KBy.special_eq KBy.look_buffer, pure_bind]
    simp only [KBy.own_buffer, pure_bind, Bool.not_true, Bool.false_eq_true, if_false]
    show (do let r ← Builtin.Bytes.buffer? id (.bytes b t) (full := false); pure (r.map (·, none))) = _
    rw [KBy.buffer_eq, pure_bind]; rfl
  unfold Builtin.Bytes.takeBufferQuiet?
  rw [h1]; rfl
theorem joined_fold (l : List (Array UInt8 × Nat)) (out : Array UInt8) : l.foldl (fun out (p : Array UInt8 × Nat) => (if p.2 > 0 then out ++ #[] else out) ++ p.1) out = out ++ (l.flatMap fun p => p.1.toList).toArray := by
  induction l generalizing out with
  | nil => simp
  | cons p r ih =>
    obtain ⟨⟨q⟩, k⟩ := p
    rw [List.foldl_cons, ih]
    split <;> simp
theorem joined_nil (bs : List (Array UInt8)) : Builtin.Bytes.joined #[] bs = (bs.flatMap fun b => b.toList).toArray := by
  unfold Builtin.Bytes.joined
  show bs.zipIdx.foldl (fun out (p : Array UInt8 × Nat) => (if p.2 > 0 then out ++ #[] else out) ++ p.1) #[] = _
  rw [joined_fold]
  have e : (bs.zipIdx.flatMap fun p => p.1.toList) = bs.flatMap fun b => b.toList := by
    have : (fun p : Array UInt8 × Nat => p.1.toList) = (fun b : Array UInt8 => b.toList) ∘ Prod.fst := rfl
    rw [this]
    simp [List.flatMap_def, ← List.map_map]
  rw [e]; simp
theorem joined_size (bs : List (Array UInt8)) : (Builtin.Bytes.joined #[] bs).size ≤ (bs.map (·.size)).sum := by
  rw [joined_nil, List.size_toArray, List.length_flatMap]
  simp
theorem joinM_many {β : Type} (vs : List Value) (h : vs.length ≠ 1) (f : Value → β) (g : Array Value → β) : Builtin.Bytes.joinM.match_1 (motive := fun _ => β) vs.toArray f g = g vs.toArray := by
  match vs, h with
  | [], _ => rfl
  | [_], h => exact absurd rfl h
  | _ :: _ :: _, _ => rfl
theorem joinM_one {β : Type} (vs : List Value) (v : Value) (h : vs = [v]) (f : Value → β) (g : Array Value → β) : Builtin.Bytes.joinM.match_1 (motive := fun _ => β) vs.toArray f g = f v := by
  subst h; rfl
theorem by_one {vs : List Value} {bs : List (Array UInt8)} (h : ByAre vs bs) (h1 : vs.length = 1) : ∃ b u, vs = [.bytes b u] ∧ bs = [b] := by
  cases h with
  | nil => cases h1
  | cons b u r =>
    cases r with
    | nil => exact ⟨b, u, rfl, rfl⟩
    | cons _ _ _ => simp at h1
section
variable {prog : Program} {w : World} {A : Around} {E : Value → Shared → Prop} {s : Shared}
theorem letGo_any {M : Model} {Q : Unit → Shared → Prop} : ∀ (l keep : List Value), Q () s → wpAny M A (PySem.letGo l keep) Q E s
  | [], _, h => wpAny_pure h
  | _ :: rest, keep, h => by
    unfold PySem.letGo
    exact wpAny_bind (wpAny_holding (wpAny_point (letGo_any rest keep h)))
theorem joinLetGo_any {M : Model} {Q : Unit → Shared → Prop} : ∀ (l : List (Value × Option Value)) (keep : List Value), (∀ p ∈ l, p.2 = none) → Q () s → wpAny M A (Builtin.Bytes.joinLetGo l keep) Q E s
  | [], _, _, h => wpAny_pure h
  | (x, o) :: rest, keep, hl, h => by
    have ho : o = none := hl (x, o) (List.mem_cons_self ..)
    subst ho
    unfold Builtin.Bytes.joinLetGo
    exact wpAny_bind (letGo_any _ _ (joinLetGo_any rest keep (fun p hp => hl p (List.mem_cons_of_mem _ hp)) h))
theorem join_by {D : Addr} {vs : List Value} {bs : List (Array UInt8)} {t : Tok} {Q : Value → Shared → Prop} (hl : s.heap.IsList D vs.toArray) (hB : ByAre vs bs) (hsz : (bs.map (·.size)).sum ≤ 16777216)
    (h : ∀ t' k, Q (.bytes (Builtin.Bytes.joined #[] bs) t') { s with toks := k }) : wpAny (model prog w) A (call (.builtin "bytes.join") [.bytes #[] t, .ref D]) Q E s := by
  refine wpAny_call_entry slot_bytes_join (typeIs_bytes s #[] t) entry_bytes_join ?_ (args_bytes_join _ _)
  unfold Builtin.«bytes.join» Builtin.Bytes.joinM
  refine wpAny_bind (wpAny_of_eq (a := (Value.bytes #[] t, Value.ref D)) rfl ?_)
  dsimp only
  obtain ⟨o, ho, hc, k, hd⟩ := id hl
  have hT : s.TypeIs (.ref D) "list" := ⟨o, ho, hc⟩
  refine wpAny_ite (KBc.ite_yes rfl ?_)
  refine wpAny_bind ?_
  unfold Builtin.Bytes.joinItems
  refine wpAny_bind (wpAny_typeOf hT ?_)
  refine wpAny_ite (KBc.ite_yes rfl ?_)
  refine wpAny_pure ?_
  refine wpAny_bind (wpAny_seqItems ho hd ?_)
  dsimp only
  refine wpAny_ite (KBc.ite_yes rfl ?_)
  by_cases h1 : vs.length = 1
  · obtain ⟨b, u, hv, hb⟩ := by_one hB h1
    rw [joinM_one vs (.bytes b u) hv]
    refine wpAny_bind (wpAny_of_eq (a := Value.type "bytes") rfl ?_)
    refine wpAny_ite (KBc.ite_yes rfl ?_)
    refine wpAny_bind (wpAny_rule ?_)
    have e : Builtin.Bytes.joined #[] bs = b := by rw [hb]; simp [joined_nil]
    refine wpAny_pure ⟨_, rfl, ?_⟩
    have h' := h u s.toks
    rw [e] at h'
    exact h'
  · rw [joinM_many vs h1]
    refine wpAny_bind ?_
    rw [Std.Legacy.Range.forIn_eq_forIn_range']
    refine wpAny_forIn_list _ (fun l st s' => s' = s ∧ ∃ i, l = List.range' i (vs.length - i) ∧ i ≤ vs.length ∧ st.1 = (bs.take i).toArray ∧ ∀ p ∈ st.2, p.1.onHeap = false ∧ p.2 = none) _ ?_ ?_ _ _ ⟨rfl, 0, ?_, Nat.zero_le _, by simp, fun p hp => nomatch hp⟩
    · rintro x rest ⟨parts, taken⟩ s' ⟨rfl, i, hr, hi, hp, ht⟩
      dsimp only at hp ht
      have hin : i < vs.length := by
        rcases Nat.lt_or_ge i vs.length with h | h
        · exact h
        · rw [Nat.sub_eq_zero_of_le h] at hr; cases hr
      obtain ⟨j, hj⟩ : ∃ j, vs.length - i = j + 1 := ⟨vs.length - i - 1, by omega⟩
      rw [hj, List.range'_succ] at hr
      cases hr
      obtain ⟨b, u, hb, hv⟩ := hB.get (i := x) (v := vs[x]) (by simp [hin])
      have hx : vs.toArray.getD x Value.none = .bytes b u := by rw [← hv]; simp [Array.getD, hin]
      refine wpAny_bind (wpAny_seqItems ho hd ?_)
      dsimp only
      rw [hx]
      have hno : ¬ ((Builtin.Bytes.Kind.bytes == Builtin.Bytes.Kind.bytearray || taken.any fun x => x.fst.onHeap) = true) := by
        rw [show (Builtin.Bytes.Kind.bytes == Builtin.Bytes.Kind.bytearray) = false from rfl, Bool.false_or, Bool.not_eq_true, List.any_eq_false]
        intro p hp; rw [(ht p hp).1]; exact Bool.false_ne_true
      refine wpAny_ite (KBy.ite_no hno ?_)
      refine wpAny_bind (wpAny_holding (wpAny_of_eq (take_buf b u) ?_))
      dsimp only
      refine wpAny_bind (wpAny_seqItems ho hd ?_)
      dsimp only
      refine wpAny_ite (KBy.ite_no (by simp) ?_)
      refine wpAny_pure ⟨rfl, x + 1, ?_, hin, ?_, ?_⟩
      · congr 1; omega
      · rw [hp, List.take_add_one, hb]; simp
      · intro p hp'
        rcases List.mem_append.mp hp' with hp' | hp'
        · exact ht p hp'
        · rw [List.mem_singleton.mp hp']; exact ⟨rfl, rfl⟩
    · rintro ⟨parts, taken⟩ s' ⟨rfl, i, hr, hi, hp, ht⟩
      dsimp only at hp ht
      have hin : i = vs.length := by
        have := congrArg List.length hr
        simp at this
        omega
      subst hin
      have hbl : vs.length = bs.length := hB.length
      rw [hbl, List.take_of_length_le (Nat.le_refl _)] at hp
      subst hp
      refine wpAny_bind (wpAny_of_eq (a := #[]) rfl ?_)
      have hfold : ∀ (l : List (Array UInt8)) (a : Nat), l.foldl (fun x1 x2 => x1 + x2.size) a = a + (l.map (·.size)).sum := by
        intro l
        induction l with
        | nil => intro a; simp
        | cons y r ih => intro a; rw [List.foldl_cons, ih, List.map_cons, List.sum_cons]; omega
      refine wpAny_ite (KBy.ite_no ?_ ?_)
      · rw [Bool.not_eq_true]
        refine KBy.tooLong_not ?_
        dsimp only
        rw [List.foldl_toArray, hfold]
        simp only [List.size_toArray, List.length_nil, Nat.zero_mul, Nat.zero_add]
        exact hsz
      · have hjs : (Builtin.Bytes.joined #[] bs).size ≤ sizeLine := by rw [sizeLine_eq]; exact Nat.le_trans (joined_size bs) hsz
        refine wpAny_bind (wpAny_mkBytes ?_ hjs)
        refine wpAny_bind (wpAny_holding (wpAny_point ?_))
        refine wpAny_bind (joinLetGo_any _ _ (fun p hp => (ht p hp).2) ?_)
        exact wpAny_pure ⟨_, rfl, h _ _⟩
    · simp
end
end Mine
end
-- C8
section
open PySem PySem.W PySem.Calls PyProof.Rows
set_option Elab.async false
set_option maxRecDepth 100000
set_option maxHeartbeats 8000000
namespace Mine
section
variable {prog : Program} {w : World} {A : Around} {E : Value → Shared → Prop} {s : Shared} {R : Result → Shared → Prop}
theorem compLoop_all {elt target iter : Expr} {ifs : List Expr} {scope : Scope} {pos : Pos} {it acc : Value} {env : Env} (I : Nat → Shared → Prop)
    (turn : ∀ n s, I n s → wpAny (model prog w) A (pyNext it) (fun r s₁ => match r with
      | none => R (.ok .next) s₁
      | some v => wpAny (model prog w) A (letOwnedTupleGo target it v) (fun _ s₀ => wpAny (model prog w) A (assign target env v) (fun _ s₂ =>
          wpAny (model prog w) A (testsOf ifs env) (fun ok s₃ =>
            if ok = true then wpAny (model prog w) A (eval elt env) (fun x s₄ =>
              wpAny (model prog w) A (call (.builtin "list.append") [acc, x]) (fun _ s₅ => ∃ m, m < n ∧ I m s₅) (notedBy (model prog w) A env fun e s' => R (.error e) s') s₄) (notedBy (model prog w) A env fun e s' => R (.error e) s') s₃
            else ∃ m, m < n ∧ I m s₃) (notedBy (model prog w) A env fun e s' => R (.error e) s') s₂) (notedBy (model prog w) A env fun e s' => R (.error e) s') s₀) (notedBy (model prog w) A env fun e s' => R (.error e) s') s₁) (notedBy (model prog w) A env fun e s' => R (.error e) s') s)
    (n : Nat) (h : I n s) :
    codeAny (model prog w) A (.compLoop (.ListComp elt [⟨target, iter, ifs, 0⟩] scope pos) 0 it acc env) R s := by
  refine codeAny_loop rfl I (fun n s hI => ?_) n h
  show wpAny _ A ((compTurn (.ListComp elt [⟨target, iter, ifs, 0⟩] scope pos) 0 it acc env).onRaise (fun x => do noteFrame x env; theTreesLotGoes x)) _ _ s
  refine wpAny_noted ?_
  rw [compTurn_list]
  refine wpAny_bind (wpAny_standAt (wpAny_bind (wpAny_mono (turn n s hI) (fun r s₁ h₁ => ?_) fun _ _ h' => h')))
  cases r with
  | none => exact wpAny_pure h₁
  | some v =>
    refine wpAny_bind (wpAny_mono h₁ (fun _ s₀ h₀ => ?_) fun _ _ h' => h')
    refine wpAny_bind (wpAny_mono h₀ (fun _ s₂ h₂ => wpAny_bind (wpAny_mono h₂ (fun ok s₃ h₃ => ?_) fun _ _ h' => h')) fun _ _ h' => h')
    cases ok with
    | false => exact wpAny_pure ⟨rfl, h₃⟩
    | true =>
      exact wpAny_bind (wpAny_bind (wpAny_mono h₃ (fun x s₄ h₄ => wpAny_bind (wpAny_mono h₄ (fun _ s₅ h₅ => wpAny_pure (wpAny_pure ⟨rfl, h₅⟩)) fun _ _ h' => h')) fun _ _ h' => h'))
end
def CTurnP (prog : Program) (w : World) (A : Around) (env : Env) (scope : Scope) (cl : List (Str × Addr)) (x y : Str) (ifs : List Expr) (elt : Expr) (wr : List Addr) (n : Nat) (Pt : Nat → Array Value → Prop) (s₂ : Shared) (Inv : Nat → List Value → List (Addr × Obj) → Prop) : Prop :=
  ∀ (B : Heap) (C : Addr) (i : Nat) (va vb : Value) (ys : List Value) (news : List (Addr × Obj)) (s₃ : Shared) (m₃ : Str → Option Value) (E' : Value → Shared → Prop), s₂.heap.objs.size ≤ C → (∀ b o, b ∉ wr → s₂.heap.get? b = some o → B.get? b = some o) → i < n → Pt i #[va, vb] → Inv i ys news →
    Fr B C s₃.heap m₃ → News B C s₃.heap news → m₃ x = some va → m₃ y = some vb →
    wpAny (model prog w) A (testsOf ifs (compEnvC scope cl C env)) (fun ok s₄ => if ok = true then wpAny (model prog w) A (eval elt (compEnvC scope cl C env)) (CEnd B C s₃ (fun y news' => Inv (i + 1) (ys ++ [y]) news')) E' s₄
      else CEnd B C s₃ (fun _ news' => Inv (i + 1) ys news') .none s₄) E' s₃
section
variable {prog : Program} {w : World} {A : Around} {E : Value → Shared → Prop} {env : Env}
theorem comp_blockP {elt iter : Expr} {x y : Str} {px py tp : Pos} {kk : Nat} {ifs : List Expr} {scope : Scope} {cl : List (Str × Addr)} {pos : Pos} {s₂ : Shared} {I : Addr} {fp wr : List Addr} {n : Nat} {Pt : Nat → Array Value → Prop}
    {St : Nat → Heap → Prop} {Mid : Nat → Addr → Heap → Prop} (W : WalksU prog w A I fp wr n Pt St Mid) (hPt : ∀ i vals, Pt i vals → ∃ va vb, vals = #[va, vb]) (hh : A.handled = none) (hxy : x ≠ y) (hsz : n ≤ sizeLine) {RR : Value → Addr → Result → Shared → Prop} (Inv : Nat → List Value → List (Addr × Obj) → Prop)
    (hcell : ∀ y ∈ scope.names, y.2 ≠ .cell) (hkind : scope.kind = .function) (hx : scope.names.lookup x = some .local) (hy : scope.names.lookup y = some .local) (hst : St 0 s₂.heap) (hfp : ∀ b ∈ fp, b < s₂.heap.objs.size)
    (h0 : Inv 0 [] []) (hi : ∀ i ys news, Inv i ys news → ys.length ≤ i)
    (turn : CTurnP prog w A env scope cl x y ifs elt wr n Pt s₂ Inv)
    (hRR : ∀ D C h' tk m' ys news, @LE.le Nat _ s₂.heap.objs.size D → s₂.heap.get? D = none → s₂.heap.get? C = none → D ≠ C → h'.Ns C m' → h'.PlainList D ys.toArray → (∀ p ∈ news, h'.get? p.1 = some p.2 ∧ s₂.heap.get? p.1 = none ∧ p.1 ≠ D ∧ p.1 ≠ C) → Inv n ys news →
      (∀ b o, b ∉ wr → s₂.heap.get? b = some o → h'.get? b = some o) → RR (.ref D) C (.ok .next) { s₂ with heap := h', toks := tk }) :
    wpAny (model prog w) A (newList []) (fun acc s₃ => wpAny (model prog w) A (newFunctionEnv scope env.globals cl [] env.qual none .none (some env)) (fun cenv s₄ =>
      codeAny (model prog w) A (.compStart (.ListComp elt [⟨.Tuple [.Name x px, .Name y py] kk tp, iter, ifs, 0⟩] scope pos) 0 (.ref I) acc { cenv with scope := relabel scope env }) (RR acc cenv.locals) s₄) E s₃) E s₂ := by
  refine wpAny_newObj_type (wpAny_newFunctionEnv hcell (by intro y hy; simp at hy) (fun h₁ hns₁ hsb₁ => ?_) hkind)
  dsimp only at hns₁ hsb₁ ⊢
  generalize hH2 : s₂.heap.push { cls := .type "list", dict := none, data := .seq ([] : List Value).toArray } = H2 at hns₁ hsb₁ ⊢
  have hC : H2.objs.size = s₂.heap.objs.size + 1 := by rw [← hH2, Heap.size_push]
  have hDC : s₂.heap.objs.size ≠ H2.objs.size := by rw [hC]; exact Nat.ne_of_lt (Nat.lt_succ_self _)
  have hDltC : s₂.heap.objs.size < H2.objs.size := by rw [hC]; exact Nat.lt_succ_self _
  have below : ∀ b, b < s₂.heap.objs.size → b ≠ H2.objs.size ∧ b ≠ s₂.heap.objs.size := fun b hb => ⟨by rw [hC]; exact Nat.ne_of_lt (Nat.lt_succ_of_lt hb), Nat.ne_of_lt hb⟩
  have old : ∀ b o, s₂.heap.get? b = some o → h₁.get? b = some o := fun b o e => hsb₁.extBut b o (below b (Heap.lt_size e)).1 (Heap.get?_push_of_some _ (hH2 ▸ Heap.get?_push_of_some _ e))
  have hacc : h₁.PlainList s₂.heap.objs.size #[] := ⟨_, hsb₁.extBut _ _ hDC (Heap.get?_push_of_some _ (hH2 ▸ Heap.get?_push_size _ rfl))⟩
  have hst₁ : St 0 h₁ := W.frame _ _ _ hst fun b _ o e => old b o e
  have fresh : ∀ a, s₂.heap.objs.size ≤ a → s₂.heap.get? a = none := fun a ha => by
    cases e : s₂.heap.get? a with
    | none => rfl
    | some o' => exact absurd (Heap.lt_size e) (Nat.not_lt.mpr ha)
  have hwlt : ∀ b ∈ wr, b < s₂.heap.objs.size := fun b hb => hfp b (W.sub b hb)
  generalize hCe : H2.objs.size = C at *
  generalize hDe : s₂.heap.objs.size = D at *
  have hCN := eqN hC
  have hCw : ∀ b, @LE.le Nat _ D b → b ∉ wr := fun b hb hm => by have := ltN (hwlt b hm); omega
  have loop : ∀ s₃ : Shared, s₃ = { s₂ with heap := h₁, toks := s₂.toks + ([] : List (Str × Value)).length } →
      codeAny (model prog w) A (.compLoop (.ListComp elt [⟨.Tuple [.Name x px, .Name y py] kk tp, iter, ifs, 0⟩] scope pos) 0 (.ref I) (.ref D) (compEnvC scope cl C env))
        (RR (.ref D) C) s₃ := by
    rintro s₃ rfl
    refine compLoop_all
      (fun k s' => ∃ h' tk i ys m' news', s' = { s₂ with heap := h', toks := tk } ∧ i ≤ n ∧ k = n + 1 - i ∧ St i h' ∧ h'.Ns C m' ∧ h'.PlainList D ys.toArray ∧
        (∀ p ∈ news', h'.get? p.1 = some p.2 ∧ @LT.lt Nat _ C p.1) ∧ Inv i ys news' ∧ (∀ b o, b ∉ wr → s₂.heap.get? b = some o → h'.get? b = some o)) ?_ (n + 1)
      ⟨h₁, _, 0, [], _, [], rfl, Nat.zero_le _, rfl, hst₁, hns₁, hacc, fun p hp => (by cases hp), h0, fun b o _ e => old b o e⟩
    rintro k s' ⟨h', tk, i, ys, m', news', rfl, hile, rfl, hst', hn', hacc', hN', hInv, hk⟩
    have hIC : C ∉ wr := hCw C (by omega)
    have hID : D ∉ wr := hCw D (by omega)
    by_cases hlt : i < n
    · refine W.item i _ _ _ hlt hst' fun T vals h₀ tk₂ hPv hT hMid hk₀ => ?_
      obtain ⟨va, vb, rfl⟩ := hPt i vals hPv
      refine W.go _ _ _ i T _ _ _ hMid fun h₂ hst₂ hk₀₂ => ?_
      have hk₂' : ∀ b o, b ∉ wr → h'.get? b = some o → h₂.get? b = some o := fun b o hb e => hk₀₂ b o hb (hk₀ b o hb e)
      have hT₂ : h₂.IsTuple T #[va, vb] := let ⟨o, ho, r⟩ := hT; ⟨o, hk₀₂ _ _ (W.apart i T h₀ hMid) ho, r⟩
      refine kcp_assign (env := compEnvC scope cl C env) hh hT₂ (lookup_relabel_local hx) (lookup_relabel_local hy) (by simp [compEnvC, relabel, hkind]) (hn'.at' fun o e => hk₂' _ o hIC e) (fun h₃ tk₃ hn₃ hs₃ => ?_)
      have hn₃' : h₃.Ns C (fun z => if z = y then some vb else if z = x then some va else m' z) := hn₃
      have hs₃' : ∀ b o, b ≠ C → h₂.get? b = some o → h₃.get? b = some o := fun b o hb e => hs₃ b o hb e
      have hst₃ : St (i + 1) h₃ := W.frame _ _ _ hst₂ fun b hb o e => hs₃' b o (neN (by have := ltN (hfp b hb); omega)) e
      have hacc₃ : h₃.PlainList D ys.toArray := let ⟨nn, e⟩ := hacc'; ⟨nn, hs₃' _ _ hDC (hk₂' _ _ hID e)⟩
      have N₃ : News (cutH C h₃) C h₃ news' := fun p hp => ⟨hs₃' _ _ (neN (by have := (hN' p hp).2; omega)) (hk₂' _ _ (hCw _ (by have := (hN' p hp).2; omega)) (hN' p hp).1), neN (by have := (hN' p hp).2; omega), cutH_none (Nat.le_of_lt (hN' p hp).2)⟩
      have sB : ∀ b o, b ∉ wr → s₂.heap.get? b = some o → (cutH C h₃).get? b = some o := fun b o hb e => by
        have hbD : @LT.lt Nat _ b D := by rw [← hDe]; exact Heap.lt_size e
        exact cutH_get.mpr ⟨ltN (by omega), hs₃' _ _ (neN (by omega)) (hk₂' _ _ hb (hk b o hb e))⟩
      refine wpAny_mono (turn (cutH C h₃) C i va vb ys news' { s₂ with heap := h₃, toks := tk₃ } _ _ (by rw [hDe]; exact Nat.le_of_lt hDltC) sB hlt hPv hInv (cutH_fr hn₃') N₃ (by simp [hxy]) (by simp)) (fun ok s₄ h₄ => ?_) fun _ _ e => e
      have done : ∀ (ys' : List Value) (h₅ h₆ : Heap) (tk₅ : Nat) (m₅ : Str → Option Value) (news₅ : List (Addr × Obj)), Fr (cutH C h₃) C h₅ m₅ → News (cutH C h₃) C h₅ news₅ → (∀ p ∈ news₅, @LT.lt Nat _ C p.1) → Inv (i + 1) ys' news₅ → Heap.SameBut D h₅ h₆ → h₆.PlainList D ys'.toArray →
          ∃ m, m < n + 1 - i ∧ ∃ h' tk i ys m' news', ({ s₂ with heap := h₆, toks := tk₅ } : Shared) = { s₂ with heap := h', toks := tk } ∧ i ≤ n ∧ m = n + 1 - i ∧ St i h' ∧ h'.Ns C m' ∧ h'.PlainList D ys.toArray ∧
            (∀ p ∈ news', h'.get? p.1 = some p.2 ∧ @LT.lt Nat _ C p.1) ∧ Inv i ys news' ∧ (∀ b o, b ∉ wr → s₂.heap.get? b = some o → h'.get? b = some o) := fun ys' h₅ h₆ tk₅ m₅ news₅ F₅ N₅ C₅ I₅ S₅ P₅ => by
        have k₅ : ∀ b o, b ≠ D → (cutH C h₃).get? b = some o → h₆.get? b = some o := fun b o hb e => S₅.extBut b o hb (F₅.keep b o e)
        refine ⟨n + 1 - (i + 1), by omega, h₆, tk₅, i + 1, ys', m₅, news₅, rfl, hlt, rfl, W.frame _ _ _ hst₃ (fun b hb o e => ?_), F₅.ns.sameBut S₅ (Ne.symm hDC), P₅, fun p hp => ⟨S₅.extBut _ _ (neN (by have := C₅ p hp; omega)) (N₅ p hp).1, C₅ p hp⟩, I₅, fun b o hb e => ?_⟩
        · have := ltN (hfp b hb)
          exact k₅ b o (neN (by omega)) (cutH_get.mpr ⟨ltN (by omega), e⟩)
        · have hbD : @LT.lt Nat _ b D := by rw [← hDe]; exact Heap.lt_size e
          exact k₅ b o (neN (by omega)) (sB b o hb e)
      cases ok with
      | false =>
        simp only [Bool.false_eq_true, if_false] at h₄ ⊢
        obtain ⟨h₅, tk₅, m₅, news₅, rfl, F₅, N₅, C₅, I₅⟩ := h₄
        exact done ys h₅ h₅ tk₅ m₅ news₅ F₅ N₅ C₅ I₅ (Heap.SameBut.refl _ _) (let ⟨nn, e⟩ := hacc₃; ⟨nn, F₅.keep _ _ (cutH_get.mpr ⟨hDltC, e⟩)⟩)
      | true =>
        simp only [if_true] at h₄ ⊢
        refine wpAny_mono h₄ (fun y s₅ h₅ => ?_) fun _ _ e => e
        obtain ⟨h₅, tk₅, m₅, news₅, rfl, F₅, N₅, C₅, I₅⟩ := h₅
        have hacc₅ : h₅.PlainList D ys.toArray := let ⟨nn, e⟩ := hacc₃; ⟨nn, F₅.keep _ _ (cutH_get.mpr ⟨hDltC, e⟩)⟩
        obtain ⟨nn, e₅⟩ := hacc₅
        refine append_at (hsz := by show ys.toArray.size ≤ sizeLine; rw [List.size_toArray]; exact Nat.le_trans (hi _ _ _ hInv) (Nat.le_trans hile hsz)) e₅ fun h₆ hs₆ hD₆ => ?_
        exact done (ys ++ [y]) h₅ h₆ tk₅ m₅ news₅ F₅ N₅ C₅ I₅ hs₆ ⟨nn + 1, by rw [hD₆]; simp [List.push_toArray]⟩
    · have hin : i = n := by omega
      subst hin
      refine W.done _ _ _ hst' fun h₂ tk₂ hk₂ => ?_
      refine hRR D C h₂ tk₂ m' ys news' (Nat.le_refl _) (fresh _ (Nat.le_refl _)) (fresh _ (Nat.le_of_lt hDltC)) hDC (hn'.at' fun o e => hk₂ _ o hIC e) (let ⟨nn, e⟩ := hacc'; ⟨nn, hk₂ _ _ hID e⟩) (fun p hp => ?_) hInv fun b o hb e => hk₂ b o hb (hk b o hb e)
      have hp1 := hN' p hp
      exact ⟨hk₂ _ _ (hCw _ (by omega)) hp1.1, fresh _ (Nat.le_of_lt (ltN (by omega))), neN (by omega), neN (by omega)⟩
  exact codeAny_compStart_list (loop _ rfl) (W.self 0 _ _ _ hst₁ (loop _ rfl))

def LcSrcP (prog : Program) (w : World) (A : Around) (env : Env) (scope : Scope) (cl : List (Str × Addr)) (x y : Str) (ifs : List Expr) (elt : Expr) (Q : Value → Shared → Prop) (it : Value) (s₂ : Shared) : Prop :=
  ∃ I fp wr n Pt St Mid Inv, it = .ref I ∧ WalksU prog w A I fp wr n Pt St Mid ∧ (∀ i vals, Pt i vals → ∃ va vb, vals = #[va, vb]) ∧ n ≤ sizeLine ∧ St 0 s₂.heap ∧ (∀ b ∈ fp, b < s₂.heap.objs.size) ∧ Inv 0 [] [] ∧ (∀ i ys news, Inv i ys news → ys.length ≤ i) ∧
    CTurnP prog w A env scope cl x y ifs elt wr n Pt s₂ Inv ∧
    (∀ D h' tk ys news, @LE.le Nat _ s₂.heap.objs.size D → s₂.heap.get? D = none → h'.PlainList D ys.toArray → (∀ p ∈ news, h'.get? p.1 = some p.2 ∧ s₂.heap.get? p.1 = none ∧ p.1 ≠ D) → Inv n ys news →
      (∀ b o, b ∉ wr → s₂.heap.get? b = some o → h'.get? b = some o) → Q (.ref D) { s₂ with heap := h', toks := tk })
theorem lcp_eval {s : Shared} {elt iter : Expr} {x y : Str} {px py tp : Pos} {kk : Nat} {ifs : List Expr} {scope : Scope} {cl : List (Str × Addr)} {pos : Pos} {Q : Value → Shared → Prop}
    (hclos : closureFor scope env = pure cl) (hcell : ∀ y ∈ scope.names, y.2 ≠ .cell) (hkind : scope.kind = .function)
    (hnames : ∀ y ∈ scope.names, y.2 = .local → scope.names.lookup y.1 = some .local) (hx : scope.names.lookup x = some .local) (hy : scope.names.lookup y = some .local) (hxy : x ≠ y) (hh : A.handled = none)
    (h : wpAny (model prog w) A (eval iter env) (fun xv s₁ => wpAny (model prog w) A (pyIter xv) (LcSrcP prog w A env scope cl x y ifs elt Q) E s₁) E s)
    (hs : ∀ x, foldedSetIterable iter env x = pure x := by intro _; rfl) :
    wpAny (model prog w) A (eval (.ListComp elt [⟨.Tuple [.Name x px, .Name y py] kk tp, iter, ifs, 0⟩] scope pos) env) Q E s := by
  rw [eval_ListComp]
  refine wpAny_comprehension_free (use := none) rfl hs hclos hkind hnames (wpAny_mono h (fun xv s₁ h₁ => wpAny_mono h₁ (fun it s₂ h₂ => ?_) fun _ _ e => e) fun _ _ e => e)
  obtain ⟨I, fp, wr, n, Pt, St, Mid, Inv, rfl, W, hPt, hsz, hst, hfp, h0, hlen, hq, hQ⟩ := h₂
  refine comp_blockP (RR := fun acc C => compPost (model prog w) A E none Q acc C) W hPt hh hxy hsz Inv hcell hkind hx hy hst hfp h0 hlen hq ?_
  intro D C h' tk m' ys news hDs hD hC hDC hn hpl hN hInv hk
  exact ⟨m', hn, fun h'' hs'' => hQ D h'' tk ys news hDs hD (hpl.extBut hs''.extBut hDC) (fun p hp => ⟨hs''.extBut _ _ (hN p hp).2.2.2 (hN p hp).1, (hN p hp).2.1, (hN p hp).2.2.1⟩) hInv fun b o hb e => hs''.extBut b o (by rintro rfl; rw [hC] at e; cases e) (hk b o hb e)⟩
def LcSrcPA (prog : Program) (w : World) (A : Around) (env : Env) (scope : Scope) (cl : List (Str × Addr)) (x y z : Str) (ifs : List Expr) (elt : Expr) (Q : Flow → Shared → Prop) (it : Value) (s₂ : Shared) : Prop :=
  ∃ I fp wr n Pt St Mid Inv m, it = .ref I ∧ WalksU prog w A I fp wr n Pt St Mid ∧ (∀ i vals, Pt i vals → ∃ va vb, vals = #[va, vb]) ∧ n ≤ sizeLine ∧ St 0 s₂.heap ∧ (∀ b ∈ fp, b < s₂.heap.objs.size) ∧ Inv 0 [] [] ∧ (∀ i ys news, Inv i ys news → ys.length ≤ i) ∧
    CTurnP prog w A env scope cl x y ifs elt wr n Pt s₂ Inv ∧ env.locals ∉ wr ∧ s₂.heap.Ns env.locals m ∧
    (∀ D h' tk ys news, @LE.le Nat _ s₂.heap.objs.size D → s₂.heap.get? D = none → h'.PlainList D ys.toArray → (∀ p ∈ news, h'.get? p.1 = some p.2 ∧ s₂.heap.get? p.1 = none ∧ p.1 ≠ D) → Inv n ys news →
      h'.Ns env.locals (fun k => if k = z then some (.ref D) else m k) → (∀ b o, b ≠ env.locals → b ∉ wr → s₂.heap.get? b = some o → h'.get? b = some o) → Q .next { s₂ with heap := h', toks := tk })
theorem lcp_assign {s : Shared} {elt iter : Expr} {x y z : Str} {px py pz tp : Pos} {kk : Nat} {ifs : List Expr} {scope : Scope} {cl : List (Str × Addr)} {pos spos : Pos} {Q : Flow → Shared → Prop}
    (hsw : swapsWith (.ListComp elt [⟨.Tuple [.Name x px, .Name y py] kk tp, iter, ifs, 0⟩] scope pos) (some (.Name z pz)) spos.line env = pure true)
    (hclos : closureFor scope env = pure cl) (hcell : ∀ y ∈ scope.names, y.2 ≠ .cell) (hkind : scope.kind = .function)
    (hnames : ∀ y ∈ scope.names, y.2 = .local → scope.names.lookup y.1 = some .local) (hx : scope.names.lookup x = some .local) (hy : scope.names.lookup y = some .local) (hxy : x ≠ y) (hh : A.handled = none)
    (hz : env.kindOf z = some .local) (hp : (env.scope.kind == .class || (env.scope.kind == .module && env.locals != env.globals)) = false)
    (h : wpAny (model prog w) A (eval iter env) (fun xv s₁ => wpAny (model prog w) A (pyIter xv) (LcSrcPA prog w A env scope cl x y z ifs elt Q) E s₁) E s)
    (hs : ∀ x, foldedSetIterable iter env x = pure x := by intro _; rfl) :
    wpAny (model prog w) A (exec (.Assign [.Name z pz] (.ListComp elt [⟨.Tuple [.Name x px, .Name y py] kk tp, iter, ifs, 0⟩] scope pos) spos) env) Q E s := by
  rw [exec_Assign_Name_used _ _ _ _ hsw]
  refine wpAny_bind (wpAny_standAt (wpAny_bind ?_))
  show wpAny _ A (do let _ ← comprehension (.ListComp elt [⟨.Tuple [.Name x px, .Name y py] kk tp, iter, ifs, 0⟩] scope pos) scope env _ (newList []) false (eval iter env) (some (assign (.Name z pz) env))) _ _ s
  refine wpAny_bind (wpAny_mono (wpAny_comprehension_free (use := some (assign (.Name z pz) env)) (Q := fun _ s' => Q .next s') rfl hs hclos hkind hnames
    (wpAny_mono h (fun xv s₁ h₁ => wpAny_mono h₁ (fun it s₂ h₂ => ?_) fun _ _ e => e) fun _ _ e => e)) (fun _ s' hq => wpAny_pure (wpAny_pure hq)) fun _ _ e => e)
  obtain ⟨I, fp, wr, n, Pt, St, Mid, Inv, m, rfl, W, hPt, hsz, hst, hfp, h0, hlen, hq, hLI, hnL, hQ⟩ := h₂
  refine comp_blockP (RR := fun acc C => compPost (model prog w) A E (some (assign (.Name z pz) env)) (fun _ s' => Q .next s') acc C) W hPt hh hxy hsz Inv hcell hkind hx hy hst hfp h0 hlen hq ?_
  intro D C h' tk m' ys news hDs hD hC hDC hn hpl hN hInv hk
  obtain ⟨oL, _, _, hoL, _⟩ := id hnL
  have hLC : env.locals ≠ C := by rintro rfl; rw [hC] at hoL; cases hoL
  have hLD : env.locals ≠ D := by rintro rfl; rw [hD] at hoL; cases hoL
  show wpAny _ A (assign (.Name z pz) env (.ref D)) _ _ _
  refine wpAny_assign_Name (wpAny_storeName_local hz (hnL.at' fun o e => hk _ o hLI e) (fun h₂ hn₂ hs₂ => ?_) hp)
  refine ⟨m', hn.sameBut hs₂ (Ne.symm hLC), fun h₃ hs₃ => ?_⟩
  refine hQ D h₃ _ ys news hDs hD ((hpl.extBut hs₂.extBut (Ne.symm hLD)).extBut hs₃.extBut hDC) (fun p hp => ⟨?_, (hN p hp).2.1, (hN p hp).2.2.1⟩) hInv (hn₂.sameBut hs₃ hLC) fun b o hbL hb e => hs₃.extBut b o (by rintro rfl; rw [hC] at e; cases e) (hs₂.extBut b o hbL (hk b o hb e))
  have hpL : p.1 ≠ env.locals := by intro e; have := (hN p hp).2.1; rw [e, hoL] at this; cases this
  exact hs₃.extBut _ _ (hN p hp).2.2.2 (hs₂.extBut _ _ hpL (hN p hp).1)
end
end Mine
end
-- R1
section
open PySem PySem.W PySem.Calls PyProof.Rows
set_option Elab.async false
set_option maxRecDepth 100000
set_option maxHeartbeats 8000000
namespace Mine
section
variable {prog : Program} {w : World} {A : Around} {E : Value → Shared → Prop} {s : Shared}
theorem itemL {value slice : Expr} {l : Addr} {its : Array Value} {k : Int} {u : Tok} {v : Value} {Q : Value → Shared → Prop} (hl : s.heap.IsList l its) (h0 : 0 ≤ k) (hhi : k < 2 ^ 63) (hx : its.toList[k.toNat]? = some v) (h : Q v s)
    (hs : subscripted slice false (.ref l) (.int k u) = operate [.ref l, .int k u] (getItem (.ref l) (.int k u))) : wpAny (model prog w) A (subscriptTail value slice (.ref l) (.int k u)) Q E s :=
  tail_any hl.typeIs slot_list_getitem.lookup (wpAny_getItem_list hl h0 hhi (by simpa using hx) h) hs
theorem any_mem (ns : List Int) (k : Int) : ns.any (· == k) = decide (k ∈ ns) := by
  rw [Bool.eq_iff_iff, List.any_eq_true, decide_eq_true_iff]
  constructor
  · rintro ⟨x, hx, e⟩; rw [← beq_iff_eq.mp e]; exact hx
  · intro h; exact ⟨k, h, by simp⟩
theorem inL {l : Addr} {its : Array Value} {ns : List Int} {k : Int} {t : Tok} {Q : Value → Shared → Prop} (hl : s.heap.IsList l its) (hA : Are Value.int its.toList ns) (h : Q (.bool (decide (k ∈ ns))) s) :
    wpAny (model prog w) A (compareOp .In (.int k t) (.ref l)) Q E s := in_list_ints (vs := its.toList) hl hA.ints (by rw [any_mem]; exact h)
theorem notinL {l : Addr} {its : Array Value} {ns : List Int} {k : Int} {t : Tok} {Q : Value → Shared → Prop} (hl : s.heap.IsList l its) (hA : Are Value.int its.toList ns) (h : Q (.bool (!decide (k ∈ ns))) s) :
    wpAny (model prog w) A (compareOp .NotIn (.int k t) (.ref l)) Q E s := notin_list_ints (vs := its.toList) hl hA.ints (by rw [any_mem]; exact h)
end
section
variable {prog : Program} {w : World} {A : Around} {E : Value → Shared → Prop} {s₁ : Shared} {env : Env} {elt : Expr} {x y : Str} {ifs : List Expr} {scope : Scope} {cl : List (Str × Addr)} (Inv : Nat → List Value → List (Addr × Obj) → Prop)
theorem lc_tuple {Q : Value → Shared → Prop} {ax : Addr} {items : Array Value} (hh : A.handled = none) (hl : s₁.heap.IsTuple ax items) (hn : items.size ≤ sizeLine) (h0 : Inv 0 [] []) (hlen : ∀ i ys news, Inv i ys news → ys.length ≤ i)
    (turn : UTurn prog w A env scope cl x ifs elt items.size (fun i v => items[i]? = some v) s₁ Inv) (fin : UFin Q items.size s₁ Inv) :
    wpAny (model prog w) A (pyIter (.ref ax)) (LcSrc prog w A env scope cl x ifs elt Q) E s₁ := by
  have hax : ax < s₁.heap.objs.size := by obtain ⟨_, e, _⟩ := hl; exact Heap.lt_size e
  refine wpAny_pyIter_tuple hl (src_walk Inv (Walks.tuple hh _ ax (Nat.ne_of_lt hax) items) hn ⟨⟨_, Heap.get?_push_size _ rfl, rfl, rfl⟩, hl.push _⟩ (fun b hb => ?_) h0 hlen turn fin)
  rcases List.mem_cons.mp hb with rfl | hb
  · exact Nat.le_refl _
  · rw [List.mem_singleton.mp hb]; exact Nat.le_of_lt hax
end
end Mine
end
-- R2
section
open PySem PySem.W PySem.Calls PyProof.Rows
set_option Elab.async false
set_option maxRecDepth 100000
set_option maxHeartbeats 8000000
namespace Mine
section
variable {prog : Program} {w : World} {A : Around} {E : Value → Shared → Prop} {env : Env} {h₀ : Heap} {body : List Stmt} {s : Shared} {m : Str → Option Value} {news : List (Addr × Obj)}
/-- a loop with a tuple for its target, over a list of the frame's own making; the assignment is the turn's own -/
theorem for_listT {elts : List Expr} {kk : Nat} {tp : Pos} {ax : Addr} {items : Array Value} {k : Nat} {R : Result → Shared → Prop} (J : Nat → (Str → Option Value) → List (Addr × Obj) → Prop) (hh : A.handled = none) (hT : ∀ (i : Nat) v, items[i]? = some v → ∃ T, v = .ref T)
    (F : Fr h₀ env.locals s.heap m) (N : News h₀ env.locals s.heap ((ax, listOf items k) :: news)) (hj : J 0 m news)
    (turn : ∀ I, @LE.le Nat _ s.heap.objs.size I → ∀ (i : Nat) (v : Value) (m₁ : Str → Option Value) (news₁ : List (Addr × Obj)) (oI : Obj) (h : Heap) (tk : Nat) (E' : Value → Shared → Prop), i < items.size → items[i]? = some v → J i m₁ news₁ → (∀ p ∈ news₁, p.1 ≠ I) → @Ne Nat ax I →
      Fr h₀ env.locals h m₁ → News h₀ env.locals h ((I, oI) :: (ax, listOf items k) :: news₁) →
      wpAny (model prog w) A (assign (.Tuple elts kk tp) env v) (fun _ s' => wpAny (model prog w) A (execs body env) (FEnd h₀ env.locals s [(I, oI), (ax, listOf items k)] I (J (i + 1))) E' s') E' { s with heap := h, toks := tk })
    (fin : ∀ h tk m₁ news₁, Fr h₀ env.locals h m₁ → News h₀ env.locals h ((ax, listOf items k) :: news₁) → J items.size m₁ news₁ → R (.ok .next) { s with heap := h, toks := tk }) :
    wpAny (model prog w) A (pyIter (.ref ax)) (fun it s₂ => codeAny (model prog w) A (.forLoop (.Tuple elts kk tp) it body [] env) R s₂) E s := by
  have hN0 := N _ (List.mem_cons_self ..)
  have hls : s.heap.IsList ax items := ⟨_, hN0.1, rfl, k, rfl⟩
  have hax : ax < s.heap.objs.size := Heap.lt_size hN0.1
  refine wpAny_pyIter_list hls ?_
  have W := Walks.list (prog := prog) (w := w) (A := A) hh s.heap.objs.size ax (Nat.ne_of_lt hax) items
  have F0 := F.push { cls := .type "list_iterator", data := .fields #[.ref ax, rawInt 0] }
  have N0 := News.pushKeep N { cls := .type "list_iterator", data := .fields #[.ref ax, rawInt 0] }
  have hI0 : h₀.get? s.heap.objs.size = none := new_none F
  have hIL : s.heap.objs.size ≠ env.locals := Nat.ne_of_gt F.ns.lt
  have hIn0 : ∀ p ∈ news, p.1 ≠ s.heap.objs.size := fun p hp => Nat.ne_of_lt (Heap.lt_size (N p (List.mem_cons_of_mem _ hp)).1)
  have haI : ax ≠ s.heap.objs.size := Nat.ne_of_lt hax
  have tI := turn s.heap.objs.size (Nat.le_refl _)
  have hst : (s.heap.push { cls := .type "list_iterator", data := .fields #[.ref ax, rawInt 0] }).IsListIter s.heap.objs.size ax 0 ∧ (s.heap.push { cls := .type "list_iterator", data := .fields #[.ref ax, rawInt 0] }).IsList ax items := ⟨⟨_, Heap.get?_push_size _ rfl, rfl, rfl⟩, hls.push _⟩
  show codeAny (model prog w) A (.forLoop (.Tuple elts kk tp) (.ref s.heap.objs.size) body [] env) R { s with heap := s.heap.push { cls := .type "list_iterator", data := .fields #[.ref ax, rawInt 0] } }
  generalize s.heap.objs.size = I at *
  generalize s.heap.push { cls := .type "list_iterator", data := .fields #[.ref ax, rawInt 0] } = hp0 at *
  refine codeAny_forLoop_any (fun q s' => ∃ h tk i m₁ news₁, s' = { s with heap := h, toks := tk } ∧ i ≤ items.size ∧ q = items.size + 1 - i ∧ (h.IsListIter I ax i ∧ h.IsList ax items) ∧ Fr h₀ env.locals h m₁ ∧ News h₀ env.locals h ((ax, listOf items k) :: news₁) ∧ (∀ p ∈ news₁, p.1 ≠ I) ∧ J i m₁ news₁) ?_ (items.size + 1)
    ⟨_, _, 0, m, news, rfl, Nat.zero_le _, rfl, hst, F0, N0, hIn0, hj⟩
  rintro q s' ⟨h, tk, i, m₁, news₁, rfl, hile, rfl, hst', F', N', hIn', hJ⟩
  have offI : ∀ p ∈ (ax, listOf items k) :: news₁, p.1 ≠ I := fun p hp => by
    rcases List.mem_cons.mp hp with rfl | hp
    · exact haI
    · exact hIn' p hp
  by_cases hlt : i < items.size
  · refine W.item i _ _ _ hlt hst' fun v h₂ tk₂ hPv hst₂ hk₂ => ?_
    have hk₂' : ∀ b o, b ≠ I → h.get? b = some o → h₂.get? b = some o := fun b o hb e => hk₂ b o (by simpa using hb) e
    have F₂ : Fr h₀ env.locals h₂ m₁ := ⟨F'.ns.at' fun o e => hk₂' _ o (Ne.symm hIL) e, fun b o e => hk₂' b o (by rintro rfl; rw [hI0] at e; cases e) (F'.keep b o e), F'.above⟩
    have N₂ : News h₀ env.locals h₂ ((ax, listOf items k) :: news₁) := fun p hp => ⟨hk₂' _ _ (offI p hp) (N' p hp).1, (N' p hp).2⟩
    obtain ⟨T, rfl⟩ := hT i v hPv
    refine wpAny_letOwnedTupleGo_listiter hst₂.1 ?_
    obtain ⟨oI, heI, hcI⟩ := id hst₂.1
    refine wpAny_mono (tI i _ m₁ news₁ oI h₂ _ _ hlt hPv hJ hIn' haI F₂ (fun p hp => ?_)) (fun _ s₃ h₃ => wpAny_mono h₃ (fun f s₄ h₄ => ?_) fun _ _ e => e) fun _ _ e => e
    · rcases List.mem_cons.mp hp with rfl | hp
      · exact ⟨heI, hIL, hI0⟩
      · exact N₂ p hp
    · obtain ⟨rfl, h₅, tk₅, m₅, news₅, rfl, F₅, N₅, hI₅, J₅⟩ := h₄
      have zI := (N₅ (I, oI) (List.mem_cons_self ..)).1
      have za := (N₅ (ax, listOf items k) (List.mem_cons_of_mem _ (List.mem_cons_self ..))).1
      have N₆ : News h₀ env.locals h₅ ((ax, listOf items k) :: news₅) := fun p hp => N₅ p (List.mem_cons_of_mem _ hp)
      exact ⟨items.size + 1 - (i + 1), by omega, h₅, tk₅, i + 1, m₅, news₅, rfl, hlt, rfl, ⟨⟨oI, zI, hcI⟩, ⟨_, za, rfl, k, rfl⟩⟩, F₅, N₆, hI₅, J₅⟩
  · have hin : i = items.size := by omega
    subst hin
    refine W.done _ _ _ hst' fun h₂ tk₂ hk₂ => ?_
    have hk₂' : ∀ b o, b ≠ I → h.get? b = some o → h₂.get? b = some o := fun b o hb e => hk₂ b o (by simpa using hb) e
    refine wpAny_execs_nil (fin h₂ tk₂ m₁ news₁ ⟨F'.ns.at' fun o e => hk₂' _ o (Ne.symm hIL) e, fun b o e => hk₂' b o (by rintro rfl; rw [hI0] at e; cases e) (F'.keep b o e), F'.above⟩ (fun p hp => ⟨hk₂' _ _ (offI p hp) (N' p hp).1, (N' p hp).2⟩) hJ)
end
end Mine
end
-- R3
section
open PySem PySem.W PySem.Calls PyProof.Rows
set_option Elab.async false
set_option maxRecDepth 100000
set_option maxHeartbeats 8000000
namespace Mine
theorem rd {dp k : Nat} (hd : dp + 20 < recursionLimit) (hk : k ≤ 18) : dp + 1 + k < recursionLimit := by omega
theorem ru {un k : Nat} (hu : un + 600 < cLine) (hk : k ≤ 500) : un + 3 + k < cLine := by omega
theorem mem_of {α : Type} {p : α} {new old : List α} (hp : p ∈ new) (hs : ∀ q ∈ new, q ∈ old) : p ∈ old := hs p hp
theorem type_bytes_join : typeOf (.builtin "bytes.join") = pure (.type "method_descriptor") := by show builtinType _ = _; rw [builtinType_eq_fast]; kernel_rfl
section
variable {prog : Program} {w : World} {A : Around} {E : Value → Shared → Prop} {s : Shared}
theorem getm_join {M : Model} {b : Array UInt8} {t : Tok} {pl : Sem Bool} {Q : Value × List Value → Shared → Prop} (h : Q (.builtin "bytes.join", [.bytes b t]) s) : wpAny M A (getMethod (.bytes b t) (Str.ofString "join") pl) Q E s :=
  getMethod_builtin (typeIs_bytes _ _ _) FB.plainAttrs_bytes slot_bytes_join type_bytes_join (fun _ e => nomatch e) h
theorem join_byL {D : Addr} {its : Array Value} {bs : List (Array UInt8)} {t : Tok} {Q : Value → Shared → Prop} (hl : s.heap.IsList D its) (hB : ByAre its.toList bs) (hsz : (bs.map (·.size)).sum ≤ 16777216)
    (h : ∀ t' k, Q (.bytes (Builtin.Bytes.joined #[] bs) t') { s with toks := k }) : wpAny (model prog w) A (call (.builtin "bytes.join") [.bytes #[] t, .ref D]) Q E s :=
  join_by (vs := its.toList) hl hB hsz h
theorem ne_same {a b : Addr} {xs ys : Array Value} {ns : List Int} {Q : Value → Shared → Prop} (hl : s.heap.IsList a xs) (hi : Are Value.int xs.toList ns) (hl' : s.heap.IsList b ys) (hi' : Are Value.int ys.toList ns) (hu : A.units + 64 < cLine)
    (h : Q (.bool false) s) : wpAny (model prog w) A (compareOp .NotEq (.ref a) (.ref b)) Q E s :=
  ne_intsK (vs := xs.toList) (us := ys.toList) hl hi.ints hl' hi'.ints hu (by simpa using h)
-- texts
theorem readsAll_of_strs {h : Heap} : ∀ {vs : List Value} {ns : List Str}, Are Value.str vs ns → ReadsAll h vs (ns.map PyData.str) []
  | _, _, .nil => .nil
  | _, _, .cons k t r => by
    have := ReadsAll.cons (Reads.str (h := h) k t) (readsAll_of_strs (h := h) r)
    simpa using this
theorem reads_of_strs {h : Heap} {a : Addr} {its : Array Value} {ns : List Str} (hl : h.IsList a its) (hi : Are Value.str its.toList ns) : Reads h (.ref a) (.list (ns.map PyData.str)) [a] := by
  obtain ⟨o, ho, hc, n, hd⟩ := hl
  exact Reads.list ho hc hd (by simpa using readsAll_of_strs hi)
theorem canLayAll0_strs : ∀ ns : List Str, (∀ x ∈ ns, PyData.strOk x = true) → PyData.canLayAll0 (ns.map PyData.str) = true
  | [], _ => by simp [PyData.canLayAll0]
  | n :: r, h => by simp [PyData.canLayAll0, PyData.canLay0, h n (List.mem_cons_self ..), canLayAll0_strs r fun x hx => h x (List.mem_cons_of_mem _ hx)]
theorem depthAll_strs : ∀ ns : List Str, PyData.depthAll (ns.map PyData.str) ≤ 1
  | [] => by simp [PyData.depthAll]
  | n :: r => by
    have := depthAll_strs r
    simp only [List.map_cons, PyData.depthAll, PyData.depth]
    omega
theorem shaped_strs (ns : List Str) (h : ∀ x ∈ ns, PyData.strOk x = true) : SeqAt.shaped (.list (ns.map PyData.str)) = true := by
  have h1 := depthAll_strs ns
  have h2 : PyData.depth (.list (ns.map PyData.str)) ≤ 64 := by simp only [PyData.depth]; omega
  show (PyData.canLay0 (.list (ns.map PyData.str)) && decide (PyData.depth (.list (ns.map PyData.str)) ≤ 64)) = true
  rw [Bool.and_eq_true]
  exact ⟨by simp only [PyData.canLay0]; exact canLayAll0_strs ns h, decide_eq_true h2⟩
theorem noMix_strs : ∀ ns ms : List Str, SeqAt.noMixAll (ns.map PyData.str) (ms.map PyData.str) = true
  | [], [] => by simp [SeqAt.noMixAll]
  | [], _ :: _ => by simp [SeqAt.noMixAll]
  | _ :: _, [] => by simp [SeqAt.noMixAll]
  | _ :: r, _ :: q => by simp [SeqAt.noMixAll, SeqAt.noMix, noMix_strs r q]
theorem same_strs : ∀ ns : List Str, PySem.Spec.sameAll (ns.map PyData.str) (ns.map PyData.str) = true
  | [] => by simp [PySem.Spec.sameAll]
  | n :: r => by simp [PySem.Spec.sameAll, PySem.Spec.same, same_strs r]
theorem ne_sameS {a b : Addr} {xs ys : Array Value} {ns : List Str} {Q : Value → Shared → Prop} (hl : s.heap.IsList a xs) (hi : Are Value.str xs.toList ns) (hl' : s.heap.IsList b ys) (hi' : Are Value.str ys.toList ns) (hz : ∀ x ∈ ns, PyData.strOk x = true) (hu : A.units + 64 < cLine)
    (h : Q (.bool false) s) : wpAny (model prog w) A (compareOp .NotEq (.ref a) (.ref b)) Q E s :=
  ne_dataH_same (reads_of_strs hl hi) (reads_of_strs hl' hi') (shaped_strs ns hz) (shaped_strs ns hz) hu (by simp only [SeqAt.noMix]; exact noMix_strs ns ns) (by simp only [PySem.Spec.same]; rw [same_strs]; exact h)
end
end Mine
end
-- L0
section
open PySem PySem.W PySem.Calls PyProof.Rows
set_option Elab.async false
set_option maxRecDepth 100000
set_option maxHeartbeats 8000000
namespace Mine
noncomputable def lawDef : List Stmt × Scope := match PySem.Challenge.pw_pg0030_01.main.body.getLast? with
  | some (.FunctionDef _ _ b _ _ _ s _ _ _) => (b, s)
  | _ => ([], { kind := .function, names := [], isGenerator := false, isCoroutine := false })
noncomputable def lawBody : List Stmt := lawDef.1
noncomputable def lawScope : Scope := lawDef.2
theorem lawBody_len : lawBody.length = 17 := by rfl
noncomputable def st (i : Nat) : Stmt := (lawBody[i]?).getD (.Pass ⟨0, 0, 0, 0⟩)
theorem lawBody_st : lawBody = [st 0, st 1, st 2, st 3, st 4, st 5, st 6, st 7, st 8, st 9, st 10, st 11, st 12, st 13, st 14, st 15, st 16] := by rfl
noncomputable abbrev lawEnv (L : Addr) : Env := envOfC (Str.ofString "law") lawScope L 104 (.ref 103)
theorem kind_x (L : Addr) : (lawEnv L).kindOf (Str.ofString "mark") = some .local := by rfl
end Mine
end
-- L1b
section
open PySem PySem.W PyProof.Rows
set_option Elab.async false
set_option maxRecDepth 100000
set_option maxHeartbeats 8000000
set_option pp.deepTerms false
set_option pp.deepTerms.threshold 8
namespace Mine

section
variable {M : Model} {A : Around} {E : Value → Shared → Prop} {s : Shared} {h₀ : Heap} {m : Str → Option Value} {env : Env} {x : Str} {v : Value} {news : List (Addr × Obj)} {c : Addr} {o : Obj} {pos : Pos}
theorem stC {Q : Unit → Shared → Prop} {L : Addr} {g : Obj → List (Addr × Obj)} {v₀ : Option Value} (F : Fr h₀ L s.heap m) (N : News h₀ L s.heap news) (hc : env.cells.lookup x = some c) (U : UpdF c o news g) (hd : o.data = .cell v₀)
    (h : ∀ h' o', Fr h₀ L h' m → News h₀ L h' (g o') → o'.data = .cell (some v) → Q () { s with heap := h' })
    (hk : env.scope.kind = .function) (hx : env.kindOf x = some .cell) : wpAny M A (storeName env x v) Q E s := by
  obtain ⟨own, rest, rfl, hg, h1, h2⟩ := U.split
  have hmem := N (c, o) (List.mem_append_right _ (.head _))
  refine wpAny_storeName_cell hk hx hc ⟨o, hmem.1, hd⟩ fun h' hv hs => ?_
  obtain ⟨o', ho', hd'⟩ := hv
  refine h h' o' ⟨F.ns.sameBut hs (Ne.symm hmem.2.1), fun b ob e => (hs.2 b (fun q => ?_)).trans (F.keep b ob e), F.above⟩ (hg o' ▸ N.setAt h1 h2 hs ho') hd'
  rw [q, hmem.2.2] at e; cases e
theorem ldE {Q : Value → Shared → Prop} (F : Fr h₀ env.locals s.heap m) (hv : m x = some v) (h : Q v s) (hk : env.scope.kind = .function) (hl : env.kindOf x = some .local) (hb : (x == ("__debug__" : Str)) = false := by decide) :
    wpAny M A (eval (.Name x pos) env) Q E s := wpAny_Name (wpAny_loadName_local hk hl F.ns hv h) hb
theorem ldEC {Q : Value → Shared → Prop} (N : News h₀ env.locals s.heap news) (hc : env.cells.lookup x = some c) (hm : (c, o) ∈ news) (hd : o.data = .cell (some v)) (h : Q v s) (hk : env.scope.kind = .function) (hx : env.kindOf x = some .cell) (hb : (x == ("__debug__" : Str)) = false := by decide) :
    wpAny M A (eval (.Name x pos) env) Q E s := wpAny_Name (wpAny_loadName_cell hk hx hc ⟨o, N.get hm, hd⟩ h) hb
theorem ldNC {Q : Value → Shared → Prop} (N : News h₀ env.locals s.heap news) (hc : env.cells.lookup x = some c) (hm : (c, o) ∈ news) (hd : o.data = .cell (some v)) (h : Q v s) (hk : env.scope.kind = .function) (hx : env.kindOf x = some .cell) :
    wpAny M A (loadName env x) Q E s := wpAny_loadName_cell hk hx hc ⟨o, N.get hm, hd⟩ h
end
theorem tokAny {β : Type} {M : Model} {A : Around} {t : Sem β} {Q : β → Shared → Prop} {E : Value → Shared → Prop} {s : Shared} (h : ∀ tk, wpAny M A t Q E { s with toks := tk }) : wpAny M A t Q E s := h s.toks
theorem law_fn (L : Addr) : (lawEnv L).scope.kind = .function := by rfl
theorem law_cells (L : Addr) : (lawEnv L).cells.lookup (Str.ofString "written") = some (L + 2) := by rfl
theorem law_cellg (L : Addr) : (lawEnv L).cells.lookup (Str.ofString "given") = some (L + 3) := by rfl
theorem law_w (L : Addr) : (lawEnv L).kindOf (Str.ofString "written") = some .cell := by rfl
theorem law_g (L : Addr) : (lawEnv L).kindOf (Str.ofString "given") = some .cell := by rfl
end Mine
end
-- the walk
open PySem PySem.W PyProof.Rows
set_option maxRecDepth 100000
set_option maxHeartbeats 8000000
set_option linter.unusedVariables false
set_option linter.unusedSimpArgs false
namespace Mine
local macro_rules | `(tactic| k_ne) => `(tactic| with_reducible (first | assumption | (apply Ne.symm; assumption)))
local macro_rules | `(tactic| walk_at "my enter") => `(tactic| (refine' enterD ?k1 ?k2 ?k3 ?k4 ?k5 ?k6 ?_ ?c2 ?c3 ?c4 ?c5; (case k1 => assumption); (case k2 => k_is); (case k3 => k_is); (case k4 => (simp only [recursionLimit] at *; omega)); (case k5 => exact BindsTo.of_eq rfl); (case c5 => decide); (case k6 => exact locs rfl); (case c2 => exact rfl); (case c3 => exact rfl); (case c4 => exact rfl); k_whole; intro L' h' F' N' X' T'; (try dsimp only)))
local macro_rules | `(tactic| walk_at "my open1") => `(tactic| (intro A s E hr hh hd hu hp; obtain ⟨Ah, dp, fr, gd, un⟩ := A; dsimp only at hh hd hu; subst hh; w_on; k_dflt (walk_at "my enter")))
local macro_rules | `(tactic| walk_at "my end1") => `(tactic| (first | (refine Ret1.intI (by assumption) (fun _ => rfl) ?_) | (refine Ret1.intS (by assumption) (fun _ => rfl) ?_) | (refine Ret1.intB (by assumption) (fun _ => rfl) ?_) | (refine Ret1.intY (by assumption) (fun _ => rfl) ?_)))
local macro_rules | `(tactic| walk_at "my use1") => `(tactic| ((case k1 => k_asm); (case k2 => k_asm); (case k3 => k_asm); (case k4 => k_asm); (case k5 => exact rfl); (case k6 => (simp only [recursionLimit, depth_deeper] at *; omega)); (case k7 => (simp only [cLine, units_deeper] at *; omega)); (case k8 => first | trivial | assumption | omega | (refine ⟨?_, ?_⟩ <;> omega)); k_whole; intro t' h' tk' F' N' k'; (try dsimp only); (try k_sweep)))
local macro_rules | `(tactic| walk_at "eval Name") => `(tactic| (k_here; (with_reducible show wpAny _ _ (eval (Expr.Name _ _) (compEnvC _ _ _ _)) _ _ _); k_dflt (first
  | (refine' ldC ?k1 ?k2 ?_ ?a ?b; (case a => rfl); (case b => rfl); (case k1 => k_asm); (case k2 => first | exact rfl | assumption); k_whole)
  | (refine' ldCK ?k1 ?k2 ?k3 ?k4 ?_ ?a ?b ?c; (case a => rfl); (case b => rfl); (case c => rfl); (case k1 => k_asm); (case k2 => k_asm); (case k3 => k_asm); (case k4 => k_is); k_whole)
  | (refine' ldCB ?k1 ?k2 ?k3 ?k4 ?k5 ?k6 ?_ ?a ?b ?c ?d; (case a => rfl); (case b => rfl); (case c => rfl); (case d => rfl); (case k1 => k_asm); (case k2 => k_asm); (case k3 => k_asm); (case k4 => k_is); (case k5 => boot_by_name); (case k6 => decide); k_whole)
  | (refine' ldCC ?k1 ?k2 ?k3 ?_ ?a ?b; (case a => rfl); (case b => rfl); (case k1 => k_asm); (case k2 => rfl); (case k3 => assumption); k_whole))))
local macro_rules | `(tactic| walk_at "my guard") => `(tactic| ((fail_if_success (with_reducible show wpAny _ _ (exec (Stmt.While _ _ _ _) _) _ _ _)); (fail_if_success (with_reducible show wpAny _ _ (exec (Stmt.For _ _ _ _ _) _) _ _ _)); (fail_if_success (with_reducible show wpAny _ _ (pyIter _) _ _ _)); (fail_if_success (with_reducible show wpAny _ _ (call (Value.builtin "sorted") _) _ _ _)); (fail_if_success (with_reducible show wpAny _ _ (eval (Expr.ListComp _ _ _ _) _) _ _ _)); (fail_if_success (with_reducible show wpAny _ _ (exec (Stmt.Assign _ (Expr.ListComp _ _ _ _) _) _) _ _ _)); first | (with_reducible show wpAny _ _ _ _ _ _) | (with_reducible show ite _ _ _) | (with_reducible show (Frag.In _ _ ∧ _))))
local macro_rules | `(tactic| walk_at "my steps") => `(tactic| (repeat' (first | (walk_at "my guard"; walk1) | (dsimp only; walk_at "my guard"; walk1))))
local macro_rules | `(tactic| walk_at "my comp") => `(tactic| (k_dflt (refine' lc_eval ?a ?b ?c ?d ?e ?_; (case a => with_unfolding_all rfl); (case b => decide); (case c => rfl); (case d => decide); (case e => rfl))))
local macro_rules | `(tactic| walk_at "loadName") => `(tactic| (k_here; k_dflt (refine' ldnG ?k1 ?k2 ?_ ?k3 ?k4; (case k3 => rfl); (case k4 => rfl); (case k1 => k_asm); (case k2 => first | exact rfl | assumption); k_whole)))
local macro_rules | `(tactic| walk_at "eval Name") => `(tactic| (k_here; (fail_if_success (with_reducible show wpAny _ _ (eval (Expr.Name _ _) (compEnvC _ _ _ _)) _ _ _)); k_dflt (first
  | (refine' nameX_L ?F ?v ?_ ?a ?b; (case F => k_asm); (case a => rfl); (case b => rfl); (case v => first | exact rfl | assumption); k_whole)
  | (refine' nameX_C ?N ?c ?m ?d ?_ ?a ?b; (case a => rfl); (case b => rfl); (case N => k_asm); (case c => rfl); (case m => k_mem); (case d => k_asm); k_whole))))
local macro_rules | `(tactic| walk_at "subscriptTail Name Slice ref ref") => `(tactic| (k_here; (with_reducible show wpAny _ _ (subscriptTail _ (Expr.Slice _ _ none _) (Value.ref _) (Value.ref _)) _ _ _); k_dflt (refine' kmk_slice ?F ?N ?l ?p ?q ?_ ?s ?t ?z; (case F => k_asm); (case N => k_asm); (case l => kmk_list); (case p => kmk_part); (case q => kmk_part); (case s => with_unfolding_all rfl); (case t => kmk_pure); (case z => assumption)); intro D' h' F' N' l1; (try k_lt l1); (try k_sweep)))
local macro_rules | `(tactic| walk_at "inplaceOp Add ref ref") => `(tactic| (k_here; (with_reducible show wpAny _ _ (inplaceOp Operator.Add (Value.ref _) (Value.ref _)) _ _ _); k_dflt (refine' iadd_K ?k1 ?k2 ?k3 ?k4 ?k5 ?_; (case k1 => k_asm); (case k2 => k_asm); (case k3 => exact News.get (by k_asm) (by k_mem)); (case k4 => k_upd); (case k5 => assumption)); intro h' F' N'; (try k_sweep)))
local macro_rules | `(tactic| walk_at "binaryOp Add ref ref") => `(tactic| (k_here; (with_reducible show wpAny _ _ (binaryOp Operator.Add (Value.ref _) (Value.ref _)) _ _ _); k_dflt (refine' addl_K ?k1 ?k2 ?k3 ?k4 ?k5 ?_; (case k1 => k_asm); (case k2 => k_asm); (case k3 => exact News.get (by k_asm) (by k_mem)); (case k4 => exact News.get (by k_asm) (by k_mem)); (case k5 => first | assumption | (simp only [List.size_toArray, List.length_cons, List.length_nil]; assumption))); intro D' h' F' N' l1; (try k_lt l1); (try k_sweep)))
local macro_rules | `(tactic| walk_at "my enterC") => `(tactic| (refine' enterC ?k1 ?k2 ?k3 ?k4 ?k5 ?k6 ?k7 ?_ ?c2 ?c3 ?c4; (case k1 => assumption); (case k2 => k_is); (case k3 => k_is); (case k4 => (simp only [recursionLimit] at *; omega)); (case k5 => exact BindsTo.of_eq rfl); (case k6 => exact rfl); (case k7 => decide +kernel); (case c2 => exact rfl); (case c3 => exact rfl); (case c4 => exact rfl); k_whole; intro L' h' tk' cells' F' N' Y' X' T'; (try dsimp only); k_cells Y'; (try simp only [List.cons_append, List.nil_append] at N')))
-- A2
theorem fillK2 : PySem.Challenge.rw_pg0030_01 = PySem.Challenge.rw_pg0030_01 ∧ Mine.hd.heap_39 = Mine.hd.heap_39 := by
  k_fill
  exact ⟨rfl, rfl⟩
theorem ctoi_con {w : World} {mg mb : Str → Option Value} (c : Int) (t : Tok) : Con1 w mg mb 21 [.int c t] 1 8 True (fun t => .int c t) := by
  walk_at "my open1"
  k_steps
  all_goals (walk_at "my end1"; rfl)
local macro_rules | `(tactic| walk_at "call ref") => `(tactic| (k_here; k_dflt (refine' Con1.use (ctoi_con _ _) ?k1 ?k2 ?k3 ?k4 ?k5 ?k6 ?k7 ?k8 ?_; walk_at "my use1")))
theorem isprint_con {w : World} {mg mb : Str → Option Value} (c : Int) (t : Tok) : Con1 w mg mb 28 [.int c t] 2 16 True (fun _ => .bool (decide (32 ≤ c ∧ c ≤ 126))) := by
  walk_at "my open1"
  k_steps
  all_goals (walk_at "my end1"; rw [decide_eq_decide]; omega)
theorem isupper_con {w : World} {mg mb : Str → Option Value} (c : Int) (t : Tok) : Con1 w mg mb 35 [.int c t] 2 16 True (fun _ => .bool (decide (65 ≤ c ∧ c ≤ 90))) := by
  walk_at "my open1"
  k_steps
  all_goals (walk_at "my end1"; rw [decide_eq_decide]; omega)
theorem bits_nat : ∀ n : Fin 256, Builtin.bitAnd (n.val : Int) 31 = ((n.val % 32 : Nat) : Int) ∧ Builtin.bitAnd (n.val : Int) 127 = ((n.val % 128 : Nat) : Int) ∧ Builtin.bitOr (n.val : Int) 128 = ((n.val % 128 + 128 : Nat) : Int) ∧
    Builtin.bitAnd (n.val : Int) 128 = ((n.val / 128 * 128 : Nat) : Int) ∧ (0 ≤ Builtin.bitOr (Builtin.bitAnd (n.val : Int) 127) 32 ∧ Builtin.bitOr (Builtin.bitAnd (n.val : Int) 127) 32 < 256) := by decide +kernel
theorem bits_int {c : Int} (h : 0 ≤ c ∧ c < 256) : Builtin.bitAnd c 31 = c % 32 ∧ Builtin.bitAnd c 127 = c % 128 ∧ Builtin.bitOr c 128 = c % 128 + 128 ∧ Builtin.bitAnd c 128 = c / 128 * 128 ∧
    (0 ≤ Builtin.bitOr (Builtin.bitAnd c 127) 32 ∧ Builtin.bitOr (Builtin.bitAnd c 127) 32 < 256) := by
  obtain ⟨n, rfl⟩ := Int.eq_ofNat_of_zero_le h.1
  have := bits_nat ⟨n, by omega⟩
  simpa using this
theorem ctrl_con {w : World} {mg mb : Str → Option Value} (c : Int) (t : Tok) : Con1 w mg mb 42 [.int c t] 2 16 (0 ≤ c ∧ c < 256) (fun t => .int (c % 32) t) := by
  walk_at "my open1"
  k_steps
  all_goals (walk_at "my end1"; exact (bits_int (by assumption)).1)
theorem alt_con {w : World} {mg mb : Str → Option Value} (c : Int) (t : Tok) : Con1 w mg mb 49 [.int c t] 2 16 (0 ≤ c ∧ c < 256) (fun t => .int (c % 128 + 128) t) := by
  walk_at "my open1"
  k_steps
  all_goals (walk_at "my end1"; exact (bits_int (by assumption)).2.2.1)
local macro_rules | `(tactic| walk_at "call ref") => `(tactic| (k_here; k_dflt (refine' Con1.use (isprint_con _ _) ?k1 ?k2 ?k3 ?k4 ?k5 ?k6 ?k7 ?k8 ?_; walk_at "my use1")))
def unctrlS (c : Int) : Str :=
  if Builtin.bitAnd c 128 ≠ 0 then Str.ofString "!" ++ (if c = 127 then Str.ofString "^?" else if 32 ≤ Builtin.bitAnd c 127 ∧ Builtin.bitAnd c 127 ≤ 126 then ⟨#[(Builtin.bitAnd c 127).toNat]⟩ else Str.ofString "^" ++ ⟨#[(Builtin.bitOr (Builtin.bitAnd c 127) 32 + 32).toNat]⟩)
  else (if c = 127 then Str.ofString "^?" else if 32 ≤ Builtin.bitAnd c 127 ∧ Builtin.bitAnd c 127 ≤ 126 then ⟨#[(Builtin.bitAnd c 127).toNat]⟩ else Str.ofString "^" ++ ⟨#[(Builtin.bitOr (Builtin.bitAnd c 127) 32 + 32).toNat]⟩)
theorem unctrl_con {w : World} {mg mb : Str → Option Value} (c : Int) (t : Tok) : Con1 w mg mb 56 [.int c t] 3 24 (0 ≤ c ∧ c < 256) (fun t => .str (unctrlS c) t) := by
  walk_at "my open1"
  rename (0 ≤ c ∧ c < 256) => hc
  have hb := (bits_int hc).2.2.2.2
  obtain ⟨hb1, hb2⟩ := hb
  k_steps
  all_goals walk_at "my end1"
  all_goals (unfold unctrlS; (repeat' split) <;> first | rfl | (exfalso; omega))
def signS (c : Int) : Str :=
  if c.fmod 128 < 32 then (if c > 127 then Str.ofString "!" else Str.ofString "") ++ Str.ofString "^" ++ ⟨#[(c.fmod 128 + 64).toNat]⟩
  else if c.fmod 128 < 127 then (if c > 127 then Str.ofString "!" else Str.ofString "") ++ ⟨#[(c.fmod 128).toNat]⟩
  else if c = 127 then Str.ofString "^?" else Str.ofString "!^" ++ ⟨#[159]⟩
theorem sign_con {w : World} {mg mb : Str → Option Value} (c : Int) (t : Tok) : Con1 w mg mb 82 [.int c t] 3 24 (0 ≤ c ∧ c < 256) (fun t => .str (signS c) t) := by
  walk_at "my open1"
  k_steps
  all_goals walk_at "my end1"
  all_goals (unfold signS; (repeat' split) <;> first | rfl | (exfalso; omega))
-- A3
def LI (s : Shared) (L : Addr) (x : Int) (n : Nat) (s' : Shared) : Prop := ∃ h tk y v vi m t1 t2 t3, s' = { s with heap := h, toks := tk } ∧ Fr s.heap L h m ∧ m (Str.ofString "num") = some (.int y t1) ∧ m (Str.ofString "val") = some (.bytes v t2) ∧ m (Str.ofString "AP") = some (.bytes #[65, 66, 67, 68, 69, 70, 71, 72, 73, 74, 75, 76, 77, 78, 79, 80] t3) ∧
    0 ≤ y ∧ n = y.toNat ∧ KBw.bInts v = vi ∧ wd y ++ vi = wd x
theorem ap_cut {b : Array UInt8} {y : Int} (h : KBw.bInts b = ([65, 66, 67, 68, 69, 70, 71, 72, 73, 74, 75, 76, 77, 78, 79, 80].drop (clipAt 16 (y.fmod 16))).take (clipAt 16 (y.fmod 16 + 1) - clipAt 16 (y.fmod 16))) : KBw.bInts b = [65 + y % 16] := by
  rw [h]
  have e : y.fmod 16 = y % 16 := Int.fmod_eq_emod_of_nonneg _ (by decide)
  rw [e]
  have h0 : 0 ≤ y % 16 := by omega
  have h1 : y % 16 < 16 := by omega
  generalize y % 16 = z at h0 h1
  obtain ⟨n, rfl⟩ := Int.eq_ofNat_of_zero_le h0
  have hn : n < 16 := by omega
  have : ∀ k : Fin 16, (([65, 66, 67, 68, 69, 70, 71, 72, 73, 74, 75, 76, 77, 78, 79, 80] : List Int).drop (clipAt 16 (k.val : Int))).take (clipAt 16 ((k.val : Int) + 1) - clipAt 16 (k.val : Int)) = [65 + (k.val : Int)] := by decide +kernel
  exact this ⟨n, hn⟩
theorem int2ap_con {w : World} {mg mb : Str → Option Value} (x : Int) (t : Tok) : Con1 w mg mb 63 [.int x t] 1 20 (0 ≤ x ∧ x < 16 ^ 8) (fun t => .bytes (byteArr (wd x)) t) := by
  walk_at "my open1"
  rename_i s E hr hp dp fr gd un hd hu L h F N X T
  walk_at "my steps"
  rename Fr _ _ _ _ => F1
  simp only [if_neg (show ¬ x < 0 by omega)] at F1
  refine wpAny_While (codeAny_whileLoop (LI s L x) ?_ x.toNat ⟨_, _, x, _, [], _, _, _, _, rfl, F1, rfl, rfl, rfl, hp.1, rfl, rfl, List.append_nil _⟩)
  rintro n s' ⟨h2, tk2, y, v, vi, m, t1, t2, t3, rfl, F2, hm1, hm2, hm3, hy0, rfl, hvi, hv⟩
  have N2 : News s.heap L h2 [] := News.nil
  have hlen : vi.length ≤ 8 := by
    have h1 := wd_len (k := 8) hp.2
    rw [← hv, List.length_append] at h1
    omega
  have hAP : KBw.bInts #[65, 66, 67, 68, 69, 70, 71, 72, 73, 74, 75, 76, 77, 78, 79, 80] = [65, 66, 67, 68, 69, 70, 71, 72, 73, 74, 75, 76, 77, 78, 79, 80] := by decide
  walk_at "my steps"
  · rename Fr _ _ _ _ => F3
    rename (KBw.bInts (_ ++ v) = _) => hA
    rename (KBw.bInts (KBy.picked _ _ _) = _) => hK
    rename (y ≠ 0) => hy
    have hd1 : y.fdiv 16 = y / 16 := Int.fdiv_eq_ediv_of_nonneg _ (by decide)
    have hK' := ap_cut hK
    rw [← hK, hK'] at hA
    dsimp only
    refine ⟨(y.fdiv 16).toNat, ?_, _, _, y.fdiv 16, _, [65 + y % 16] ++ vi, _, _, _, _, rfl, F3, rfl, rfl, hm3, ?_, rfl, hA, ?_⟩
    · rw [hd1]; omega
    · rw [hd1]; omega
    · rw [hd1, ← hv, wd_pos (show 0 < y by omega), List.append_assoc]
  · rename (y = 0) => hy
    subst hy
    dsimp only
    refine Ret1.intY F2 (fun _ => rfl) (bytes_of_ints (hvi.trans ?_))
    rw [← hv, wd_zero, List.nil_append]
-- A4
theorem text_con {w : World} {mg mb : Str → Option Value} (b : Array UInt8) (t : Tok) : Con1 w mg mb 87 [.bytes b t] 1 20 (b.size ≤ 1000) (fun t => .str (sL (b.toList.map fun c => c.toNat)) t) := by
  walk_at "my open1"
  rename_i s E hr hp dp fr gd un hd hu L h F N X T
  walk_at "my steps"
  walk_at "my comp"
  walk_at "my steps"
  have hbs : b.size = b.toList.length := by simp
  refine lc_bytes (fun i ys news => news = [] ∧ Are Value.str ys ((b.toList.take i).map fun c => sL [c.toNat])) rfl (by rw [sizeLine_eq]; omega) ⟨rfl, .nil⟩ (fun i ys news hI => by rw [hI.2.length, List.length_map, List.length_take]; omega) ?_ ?_
  · intro B C i v ys news s₃ m₃ E' hC hB hi hP hI F3 N3 hx
    obtain ⟨c, u, hc, rfl⟩ := hP
    obtain ⟨rfl, hA⟩ := hI
    have X3 : (Mine.hd.heap_39 w.params).In B := (X.keeps F.keep).keeps hB
    have T3 := (T.keeps F.keep).keeps hB
    have hc1 : (c.toNat : Int) < 256 := by have := c.toNat_lt; omega
    have hc0 : 0 ≤ (c.toNat : Int) := by omega
    refine wpAny_tests_nil ?_
    simp only [if_true]
    walk_at "my steps"
    rename Fr B _ _ _ => F4
    refine CEnd.pure F4 ⟨rfl, ?_⟩
    have hg : b.toList[i]? = some c := by simpa using hc
    rw [take_succ_map hg]
    exact hA.snoc
  · intro D h' tk ys news hDs hD hpl hN hI hk
    obtain ⟨rfl, hA⟩ := hI
    rw [List.take_of_length_le (Nat.le_of_eq hbs.symm)] at hA
    have F5 := F.keeps hk
    have N5 := N.grown hk
    have hl : h'.IsList D ys.toArray := let ⟨n, e⟩ := hpl; ⟨_, e, rfl, n, rfl⟩
    clear F N
    walk_at "my steps"
    refine join_listW hl (show StrsAre ys.toArray.toList _ from hA.strs) (by decide) ?_ fun t' k => ?_
    · rw [List.length_map, List.map_map, ← hbs]
      have : ∀ l : List UInt8, (l.map ((fun y : Str => y.length) ∘ fun c : UInt8 => sL [c.toNat])).sum = l.length := by
        intro l
        induction l with
        | nil => rfl
        | cons a r ih => rw [List.map_cons, List.sum_cons, ih]; simp [sL_len]; omega
      rw [this]; omega
    · refine Ret1.intS F5 (fun _ => rfl) ?_
      have : (b.toList.map fun c => sL [c.toNat]) = (b.toList.map fun c => [c.toNat]).map sL := by simp
      rw [this, join_sL]
      rw [flat_single]
local macro_rules | `(tactic| walk_at "call ref") => `(tactic| (k_here; k_dflt (refine' Con1.use (unctrl_con _ _) ?k1 ?k2 ?k3 ?k4 ?k5 ?k6 ?k7 ?k8 ?_; walk_at "my use1")))
def unL (c : Nat) : List Nat := (unctrlS (c : Int)).cps.toList
theorem unL_eq (c : Nat) : unctrlS (c : Int) = sL (unL c) := by unfold sL unL; rfl
theorem unL_len : ∀ c : Fin 256, (unL c.val).length ≤ 3 := by decide +kernel
theorem shown_con {w : World} {mg mb : Str → Option Value} (b : Array UInt8) (t : Tok) : Con1 w mg mb 92 [.bytes b t] 4 40 (b.size ≤ 1000) (fun t => .str (sL (b.toList.flatMap fun c => unL c.toNat)) t) := by
  walk_at "my open1"
  rename_i s E hr hp dp fr gd un hd hu L h F N X T
  walk_at "my steps"
  walk_at "my comp"
  walk_at "my steps"
  have hbs : b.size = b.toList.length := by simp
  refine lc_bytes (fun i ys news => news = [] ∧ Are Value.str ys ((b.toList.take i).map fun c => sL (unL c.toNat))) rfl (by rw [sizeLine_eq]; omega) ⟨rfl, .nil⟩ (fun i ys news hI => by rw [hI.2.length, List.length_map, List.length_take]; omega) ?_ ?_
  · intro B C i v ys news s₃ m₃ E' hC hB hi hP hI F3 N3 hx
    obtain ⟨c, u, hc, rfl⟩ := hP
    obtain ⟨rfl, hA⟩ := hI
    have X3 : (Mine.hd.heap_39 w.params).In B := (X.keeps F.keep).keeps hB
    have T3 := (T.keeps F.keep).keeps hB
    have hc1 : (c.toNat : Int) < 256 := by have := c.toNat_lt; omega
    have hc0 : 0 ≤ (c.toNat : Int) := by omega
    refine wpAny_tests_nil ?_
    simp only [if_true]
    walk_at "my steps"
    rename Fr B _ _ _ => F4
    rw [unL_eq]
    refine CEnd.pure F4 ⟨rfl, ?_⟩
    have hg : b.toList[i]? = some c := by simpa using hc
    rw [take_succ_map hg]
    exact hA.snoc
  · intro D h' tk ys news hDs hD hpl hN hI hk
    obtain ⟨rfl, hA⟩ := hI
    rw [List.take_of_length_le (Nat.le_of_eq hbs.symm)] at hA
    have F5 := F.keeps hk
    have N5 := N.grown hk
    have hl : h'.IsList D ys.toArray := let ⟨n, e⟩ := hpl; ⟨_, e, rfl, n, rfl⟩
    clear F N
    walk_at "my steps"
    refine join_listW hl (show StrsAre ys.toArray.toList _ from hA.strs) (by decide) ?_ fun t' k => ?_
    · rw [List.length_map, List.map_map, ← hbs]
      have : ∀ l : List UInt8, (l.map ((fun y : Str => y.length) ∘ fun c : UInt8 => sL (unL c.toNat))).sum ≤ 3 * l.length := by
        intro l
        induction l with
        | nil => simp
        | cons a r ih =>
          have h3 : (unL a.toNat).length ≤ 3 := unL_len ⟨a.toNat, a.toNat_lt⟩
          rw [List.map_cons, List.sum_cons, List.length_cons]
          simp only [Function.comp, sL_len] at ih ⊢
          omega
      have := this b.toList
      omega
    · refine Ret1.intS F5 (fun _ => rfl) ?_
      have : (b.toList.map fun c => sL (unL c.toNat)) = (b.toList.map fun c => unL c.toNat).map sL := by simp
      rw [this, join_sL]
      rw [List.flatMap_def]
-- A5
local macro_rules | `(tactic| walk_at "call ref") => `(tactic| (k_here; k_dflt (first | (refine' Con1.use (ctrl_con _ _) ?k1 ?k2 ?k3 ?k4 ?k5 ?k6 ?k7 ?k8 ?_; walk_at "my use1") | (refine' Con1.use (isupper_con _ _) ?k1 ?k2 ?k3 ?k4 ?k5 ?k6 ?k7 ?k8 ?_; walk_at "my use1"))))
def readStep (st : Int × List Int) (c : Int) : Int × List Int :=
  if 65 ≤ c ∧ c ≤ 90 then (16 * st.1 + c % 32 - 1, st.2) else (0, st.2 ++ [16 * st.1 + c % 32 - 1])
def readTo (bs : List Int) (i : Nat) : Int × List Int := (bs.take i).foldl readStep (0, [])
theorem readTo_succ {bs : List Int} {i : Nat} {c : Int} (h : bs[i]? = some c) : readTo bs (i + 1) = readStep (readTo bs i) c := by
  unfold readTo
  rw [List.take_add_one, h]; simp
theorem readTo_len (bs : List Int) (i : Nat) : (readTo bs i).2.length ≤ i := by
  induction i with
  | zero => simp [readTo]
  | succ i ih =>
    cases h : bs[i]? with
    | none =>
      have : bs.take (i + 1) = bs.take i := by rw [List.take_add_one, h]; simp
      unfold readTo at ih ⊢
      rw [this]; omega
    | some c =>
      rw [readTo_succ h]
      unfold readStep
      split
      · simp; omega
      · simp; omega
def readR (b : Array UInt8) (h h' : Heap) (v : Value) : Prop := ∃ D ys, v = .ref D ∧ h.get? D = none ∧ h'.PlainList D ys ∧ Are Value.int ys.toList (readTo (KBw.bInts b) b.size).2
theorem read_con {w : World} {mg mb : Str → Option Value} (b : Array UInt8) (t : Tok) : Con w mg mb 99 [.bytes b t] 3 40 (fun _ => b.size ≤ 1000 ∧ ∀ i, -(2 ^ 60) < (readTo (KBw.bInts b) i).1 ∧ (readTo (KBw.bInts b) i).1 < 2 ^ 60) (readR b) := by
  walk_at "my open1"
  rename_i s E hr hp dp fr gd un hd hu L h F N X T
  walk_at "my steps"
  rename Fr _ _ _ _ => F1
  rename News _ _ _ _ => N1
  rename_i D h2 l1 h1 tkb h0
  refine wpAny_For ?_
  walk_at "my steps"
  have hlen : (KBw.bInts b).length = b.size := KBw.ints_length b
  refine for_bytes (fun i m news => ∃ ys t k, news = [(D, W.listOf ys k)] ∧ m (Str.ofString "read") = some (.ref D) ∧ m (Str.ofString "n") = some (.int (readTo (KBw.bInts b) i).1 t) ∧ Are Value.int ys.toList (readTo (KBw.bInts b) i).2) rfl rfl rfl F1 N1 ⟨#[], _, _, rfl, rfl, rfl, .nil⟩ ?_ ?_
  · intro I hI i v m₁ news₁ oI h₁ tk₁ E' hi hP hJ hIn F2 N2
    obtain ⟨c, u, hc, rfl⟩ := hP
    obtain ⟨ys, t1, k1, rfl, hm1, hm2, hA⟩ := hJ
    have hID : @Ne Nat D I := hIn _ (List.mem_singleton.mpr rfl)
    have hc1 : (c.toNat : Int) < 256 := by have := c.toNat_lt; omega
    have hc0 : 0 ≤ (c.toNat : Int) := by omega
    have hg : (KBw.bInts b)[i]? = some (c.toNat : Int) := KBw.ints_get hc
    have hb := hp.2 i
    have hys : ys.size ≤ 1000 := by rw [← Array.length_toList, hA.length]; have := readTo_len (KBw.bInts b) i; omega
    generalize hst : readTo (KBw.bInts b) i = st at *
    obtain ⟨st1, st2⟩ := st
    dsimp only at *
    walk_at "my steps"
    · rename Fr _ _ _ _ => F3
      rename News _ _ _ _ => N3
      rename (65 ≤ _ ∧ _) => hu
      refine' FEnd.intro [(D, W.listOf ys k1)] F3 N3 (fun p hp => hp) hIn ⟨ys, _, _, rfl, hm1, ?_, ?_⟩
      rotate_left
      · rw [readTo_succ hg, hst]; simp only [readStep, if_pos hu]; rfl
      · rw [readTo_succ hg, hst]; simp only [readStep, if_pos hu]; exact hA
    · rename Fr _ _ _ _ => F3
      rename News _ _ _ _ => N3
      rename (¬ (65 ≤ _ ∧ _)) => hu
      refine' FEnd.intro _ F3 N3 (fun p hp => hp) (fun p hp => by rw [List.mem_singleton.mp hp]; exact hID) ⟨_, _, _, rfl, hm1, ?_, ?_⟩
      rotate_left
      · rw [readTo_succ hg, hst]; simp only [readStep, if_neg hu]; rfl
      · rw [readTo_succ hg, hst]; simp only [readStep, if_neg hu, Array.toList_push]; exact hA.snoc
  · intro h₁ tk₁ m₁ news₁ F2 N2 hJ
    obtain ⟨ys, t1, k1, rfl, hm1, hm2, hA⟩ := hJ
    dsimp only
    walk_at "my steps"
    dsimp only
    exact Ret.intro F2 ⟨D, ys, rfl, (N2 _ (List.mem_singleton.mpr rfl)).2.2, ⟨k1, (N2 _ (List.mem_singleton.mpr rfl)).1⟩, hA⟩
-- A6
theorem chr_sL (a : Nat) : ({ cps := #[a] } : Str) = sL [a] := rfl
def spR (al : List Nat) (st : Int) (bl : List Nat) (xs : List Int) (h h' : Heap) (v : Value) : Prop := ∃ D ys, v = .ref D ∧ h.get? D = none ∧ h'.PlainList D ys ∧ Are Value.str ys.toList (xs.map fun x => sL (spellL al st bl x))
def spI (s : Shared) (h₀ : Heap) (L : Addr) (led : List (Addr × Obj)) (m₀ : Str → Option Value) (z : Int) (n : Nat) (s' : Shared) : Prop := ∃ h tk y hd m t1 t2, s' = { s with heap := h, toks := tk } ∧ Fr h₀ L h m ∧ News h₀ L h led ∧ m (Str.ofString "rest") = some (.int y t1) ∧ m (Str.ofString "head") = some (.str (sL hd) t2) ∧
    (∀ k, k ≠ Str.ofString "rest" → k ≠ Str.ofString "head" → m k = m₀ k) ∧ 0 ≤ y ∧ n = y.toNat ∧ lw y ++ hd = lw z
theorem spelled_con {w : World} {mg mb : Str → Option Value} (Wa : Addr) (items : Array Value) (xs : List Int) (al bl : List Nat) (st : Int) (t1 t2 t3 : Tok) : Con w mg mb 75 [.ref Wa, .str (sL al) t1, .int st t2, .str (sL bl) t3] 1 20
    (fun h => h.IsList Wa items ∧ Are Value.int items.toList xs ∧ xs.length ≤ 1000 ∧ (∀ x ∈ xs, 0 ≤ x ∧ x < 16 ^ 8) ∧ -64 ≤ st ∧ st ≤ 200 ∧ al.length ≤ 10 ∧ bl.length ≤ 10) (spR al st bl xs) := by
  walk_at "my open1"
  rename_i s E hr hp dp fr gd un hd hu L h F N X T
  obtain ⟨hl, hA, hn, hxs, hs1, hs2, hal, hbl⟩ := hp
  walk_at "my steps"
  rename Fr _ _ _ _ => F1
  rename News _ _ _ _ => N1
  rename_i D h2 l1 h0
  have hlen : items.size = xs.length := by rw [← hA.length]; simp
  refine wpAny_For ?_
  walk_at "my steps"
  refine for_listB (fun i m news => ∃ ys k, news = [(D, PySem.W.listOf ys k)] ∧ m (Str.ofString "rows") = some (.ref D) ∧ m (Str.ofString "ahead") = some (.str (sL al) t1) ∧ m (Str.ofString "step") = some (.int st t2) ∧ m (Str.ofString "behind") = some (.str (sL bl) t3) ∧
    Are Value.str ys.toList ((xs.take i).map fun x => sL (spellL al st bl x))) rfl rfl rfl hl F1 N1 ⟨#[], _, rfl, rfl, rfl, rfl, rfl, .nil⟩ ?_ ?_
  · intro I hI i v m₁ news₁ oI h₁ tk₁ E' hi hP hJ hIn F2 N2
    obtain ⟨x, u, hx, rfl⟩ := hA.get (i := i) (v := v) (by simpa using hP)
    obtain ⟨ys, k1, rfl, hm1, hm2, hm3, hm4, hAy⟩ := hJ
    have hID : @Ne Nat D I := hIn _ (List.mem_singleton.mpr rfl)
    have hx01 := hxs x (List.mem_of_getElem? hx)
    simp only [List.nil_append] at N2
    have hys : ys.size ≤ 1000 := by rw [← Array.length_toList, hAy.length, List.length_map, List.length_take]; omega
    walk_at "my steps"
    rename Fr _ _ _ _ => F3
    rename News _ _ _ _ => N3
    have hf : x.fdiv 16 = x / 16 := Int.fdiv_eq_ediv_of_nonneg _ (by decide)
    have he : Str.ofString "" = sL [] := by decide
    simp only [hf, he] at F3
    refine wpAny_While (codeAny_whileLoop (spI { s with heap := h0, toks := 0 } s.heap L _ _ (x / 16)) ?_ (x / 16).toNat ⟨_, _, x / 16, [], _, _, _, rfl, F3, N3, rfl, rfl, fun k _ _ => rfl, by omega, rfl, List.append_nil _⟩)
    rintro n s' ⟨h4, tk4, y, hd, m4, u1, u2, rfl, F4, N4, hn1, hn2, hn3, hy0, rfl, hw⟩
    have q1 : m4 (Str.ofString "rows") = some (.ref D) := (hn3 _ (by decide) (by decide)).trans hm1
    have q2 : m4 (Str.ofString "ahead") = some (.str (sL al) t1) := (hn3 _ (by decide) (by decide)).trans hm2
    have q3 : m4 (Str.ofString "step") = some (.int st t2) := (hn3 _ (by decide) (by decide)).trans hm3
    have q4 : m4 (Str.ofString "behind") = some (.str (sL bl) t3) := (hn3 _ (by decide) (by decide)).trans hm4
    have q5 : m4 (Str.ofString "x") = some (.int x u) := (hn3 _ (by decide) (by decide)).trans rfl
    have hlw : hd.length ≤ 8 := by
      have h1 := lw_len (x := x / 16) (k := 8) (by omega)
      rw [← hw, List.length_append] at h1
      omega
    have l1 : (sL hd).length ≤ 8 := by rw [sL_len]; exact hlw
    have l2 : (sL al).length ≤ 10 := by rw [sL_len]; exact hal
    have l3 : (sL bl).length ≤ 10 := by rw [sL_len]; exact hbl
    walk_at "my steps"
    · rename Fr _ _ _ _ => F5
      rename News _ _ _ _ => N5
      rename (0 < y) => hy
      have hd1 : y.fdiv 16 = y / 16 := Int.fdiv_eq_ediv_of_nonneg _ (by decide)
      have hd2 : y.fmod 16 = y % 16 := Int.fmod_eq_emod_of_nonneg _ (by decide)
      simp only [hd1, hd2, chr_sL, sL_app] at F5
      dsimp only
      refine ⟨(y / 16).toNat, by omega, _, _, y / 16, [(65 + y % 16).toNat] ++ hd, _, _, _, rfl, F5, N5, rfl, rfl, fun k h1 h2 => ?_, by omega, rfl, ?_⟩
      · rw [if_neg h1, if_neg h2]; exact hn3 k h1 h2
      · rw [← List.append_assoc, ← lw_pos hy, hw]
    · rename Fr _ _ _ _ => F5
      rename News _ _ _ _ => N5
      rename (¬ 0 < y) => hy
      have hy1 : y = 0 := by omega
      subst hy1
      rw [lw_zero, List.nil_append] at hw
      have hd2 : x.fmod 16 = x % 16 := Int.fmod_eq_emod_of_nonneg _ (by decide)
      refine' FEnd.intro _ F5 N5 (fun p hp => hp) (fun p hp => by rw [List.mem_singleton.mp hp]; exact hID) ⟨_, _, rfl, q1, q2, q3, q4, ?_⟩
      simp only [hd2, chr_sL, sL_app, Array.toList_push]
      rw [take_succ_map hx, hw]
      exact hAy.snoc
  · intro h₁ tk₁ m₁ news₁ F2 N2 hJ
    obtain ⟨ys, k1, rfl, hm1, hm2, hm3, hm4, hAy⟩ := hJ
    dsimp only
    walk_at "my steps"
    dsimp only
    rw [hlen, List.take_of_length_le (Nat.le_refl _)] at hAy
    exact Ret.intro F2 ⟨D, ys, rfl, (N2 _ (List.mem_singleton.mpr rfl)).2.2, ⟨k1, (N2 _ (List.mem_singleton.mpr rfl)).1⟩, hAy⟩
-- A7
local macro_rules | `(tactic| walk_at "my sub") => `(tactic| first | exact List.forall_mem_nil _ | (refine List.forall_mem_cons.mpr ⟨?_, ?_⟩; (· k_mem); (· walk_at "my sub")) | (intro q hq; (repeat (first | exact hq | refine List.Mem.tail _ ?_))))
theorem flt_end {tree : List Int} {i : Nat} {x n : Int} {u : Tok} {ys : List Value} (hAy : Are Value.int ys ((tree.take i).filter fun x => decide (x ≠ 0 ∧ x / 16 = n))) (hx : tree[i]? = some x) (b : Bool) (hb : (x ≠ 0 ∧ x / 16 = n) ↔ b = true) :
    Are Value.int (if b then ys ++ [.int x u] else ys) ((tree.take (i + 1)).filter fun x => decide (x ≠ 0 ∧ x / 16 = n)) := by
  rw [take_succ_filter _ _ _ _ hx]
  cases b with
  | true =>
    have hb' : decide (x ≠ 0 ∧ x / 16 = n) = true := decide_eq_true (hb.mpr rfl)
    rw [hb']; exact hAy.snoc
  | false =>
    have hb' : decide (x ≠ 0 ∧ x / 16 = n) = false := decide_eq_false (fun h => Bool.false_ne_true (hb.mp h))
    rw [hb']; simp only [Bool.false_eq_true, if_false, List.append_nil]; exact hAy
abbrev tupO (vs : Array Value) (e : Nat) : Obj := { cls := .type "tuple", data := .seq vs e }
def wkR (tree : List Int) (k : Nat) (n : Int) (h h' : Heap) (v : Value) : Prop := ∃ tp d1 d2 d3 d4 i1 i2 i3 i4 e e1 e2 e3 e4, v = .ref tp ∧ h.get? tp = none ∧ h'.get? tp = some (tupO #[.ref d1, .ref d2, .ref d3, .ref d4] e) ∧
  (h.get? d1 = none ∧ h'.get? d1 = some (PySem.W.listOf i1 e1)) ∧ (h.get? d2 = none ∧ h'.get? d2 = some (PySem.W.listOf i2 e2)) ∧ (h.get? d3 = none ∧ h'.get? d3 = some (PySem.W.listOf i3 e3)) ∧ (h.get? d4 = none ∧ h'.get? d4 = some (PySem.W.listOf i4 e4)) ∧
  Are Value.int i1.toList (wk tree k n).1 ∧ Are Value.int i2.toList (wk tree k n).2.1 ∧ Are Value.int i3.toList (wk tree k n).2.2.1 ∧ Are Value.int i4.toList (wk tree k n).2.2.2
theorem walks_step {w : World} {mg mb : Str → Option Value} (Ta : Addr) (items : Array Value) (tree : List Int) (hA : Are Value.int items.toList tree) (hn : tree.length ≤ 20) (hxs : ∀ x ∈ tree, 0 ≤ x) (hnd : tree.Nodup) (k : Nat)
    (ih : ∀ (n : Int) (t : Tok), 0 ≤ n → cnt tree n < k → Con w mg mb 68 [.int n t, .ref Ta] (k + 1) (20 * k + 20) (fun h => h.IsList Ta items) (wkR tree k n)) (n : Int) (t : Tok) (hn0 : 0 ≤ n) (hk : cnt tree n < k + 1) :
    Con w mg mb 68 [.int n t, .ref Ta] (k + 2) (20 * (k + 1) + 20) (fun h => h.IsList Ta items) (wkR tree (k + 1) n) := by
  intro A s E hr hh hd hu hl
  obtain ⟨Ah, dp, fr, gd, un⟩ := A
  dsimp only at hh hd hu
  subst hh
  w_on
  k_dflt (walk_at "my enterC")
  rename_i L h tk F X T oc hoc N
  have hoc : oc.data = .cell (some (.int n t)) := hoc
  have F : Fr s.heap L h (fun y => if y = Str.ofString "tree" then some (.ref Ta) else none) := F
  rename_i hoc0 F0
  clear hoc0 F0
  walk_at "my steps"
  have hlen : items.size = tree.length := by rw [← hA.length]; simp
  walk_at "my comp"
  walk_at "my steps"
  refine lc_list (fun i ys news => news = [] ∧ Are Value.int ys ((tree.take i).filter fun x => decide (x ≠ 0 ∧ x / 16 = n))) rfl (hl.at fun o e => F.keep _ o e) (by rw [sizeLine_eq]; omega) ⟨rfl, .nil⟩ (fun i ys news hI => by rw [hI.2.length]; exact Nat.le_trans (List.length_filter_le _ _) (by rw [List.length_take]; omega)) ?_ ?_
  · intro B C i v ys news s₃ m₃ E' hC hB hi hP hI F3 N3 hx
    obtain ⟨x, u, hx', rfl⟩ := hA.get (i := i) (v := v) (by simpa using hP)
    obtain ⟨rfl, hAy⟩ := hI
    have X3 : (Mine.hd.heap_39 w.params).In B := (X.keeps F.keep).keeps hB
    have T3 := (T.keeps F.keep).keeps hB
    have hcell : B.IsCell (L + 1) (some (.int n t)) := ⟨oc, hB _ _ (N _ (List.mem_singleton.mpr rfl)).1, hoc⟩
    refine wpAny_tests_one ?_
    have hfd : x.fdiv 16 = x / 16 := Int.fdiv_eq_ediv_of_nonneg _ (by decide)
    walk_at "my steps"
    · exact CEnd.pure F3 ⟨rfl, flt_end hAy hx' true (by simp; omega)⟩
    · exact CEnd.pure F3 ⟨rfl, flt_end (u := u) hAy hx' false (by simp; omega)⟩
    · exact CEnd.pure F3 ⟨rfl, flt_end (u := u) hAy hx' false (by simp; omega)⟩
  · intro D h' tk ys news hDs hD hpl hN hI hk
    obtain ⟨rfl, hAy⟩ := hI
    rw [hlen, List.take_of_length_le (Nat.le_refl _)] at hAy
    have hlD : h'.IsList D ys.toArray := let ⟨k, e⟩ := hpl; ⟨_, e, rfl, k, rfl⟩
    have F5 := F.keeps hk
    have N5 := N.grown hk
    clear F N
    walk_at "my steps"
    refine sorted_N F5 N5 hlD hAy.ints (by rw [hAy.length]; exact Nat.lt_of_le_of_lt (List.length_filter_le _ _) (by omega)) ?_
    intro h6 vs6 ns6 e6 F6 N6 hi6 hp6 hs6
    clear F5 N5
    generalize hne : h'.objs.size + 1 = ne at *
    have N6 : News s.heap L h6 [(ne, PySem.W.listOf vs6.toArray e6), (L + 1, oc)] := N6
    rename_i N60
    clear N60
    have hz6 : vs6.toArray.size ≤ sizeLine := by
      rw [List.size_toArray, hi6.length, hp6.length_eq, sizeLine_eq]
      exact Nat.le_trans (List.length_filter_le _ _) (by omega)
    have hns := near_is hp6 hs6
    subst hns
    generalize hns : nearOf tree n = ns at *
    have hnlen : ns.length ≤ 20 := by rw [hp6.length_eq]; exact Nat.le_trans (List.length_filter_le _ _) hn
    have hnw : ∀ m ∈ ns, m ∈ tree ∧ n < m := fun m hm => by
      have := near_gt hn0 hxs (hns ▸ hm)
      exact ⟨this.1, this.2.1⟩
    walk_at "my steps"
    rename Fr _ _ _ _ => F7
    rename News _ _ _ _ => N7
    rename_i dn g1 q1 g2 g3 up g4 q2 g5 g6 ab g7 q3 g8 ud g9 q4 g10
    rw [slicePick_all] at N7
    have N8 : News s.heap L g10 ((ne, PySem.W.listOf vs6.toArray e6) :: [(ud, PySem.W.listOf #[] 0), (ab, PySem.W.listOf vs6.toArray 0), (up, PySem.W.listOf #[] 0), (dn, PySem.W.listOf #[Value.int n t] 0), (L + 1, oc)]) := fun p hp => N7 p (mem_of hp (by walk_at "my sub"))
    clear N7
    have hA6 : Are Value.int vs6 ns := Are.of_ints hi6
    have hlen6 : vs6.toArray.size = ns.length := by rw [List.size_toArray, hA6.length]
    refine wpAny_For ?_
    walk_at "my steps"
    refine for_listN (fun i m news => ∃ i1 i2 i3 i4 e1 e2 e3 e4, news = [(ud, PySem.W.listOf i4 e4), (ab, PySem.W.listOf i3 e3), (up, PySem.W.listOf i2 e2), (dn, PySem.W.listOf i1 e1), (L + 1, oc)] ∧
      m (Str.ofString "under") = some (.ref ud) ∧ m (Str.ofString "above") = some (.ref ab) ∧ m (Str.ofString "up") = some (.ref up) ∧ m (Str.ofString "down") = some (.ref dn) ∧ m (Str.ofString "near") = some (.ref ne) ∧ m (Str.ofString "tree") = some (.ref Ta) ∧
      Are Value.int i1.toList (n :: (ns.take i).flatMap fun m => (wk tree k m).1) ∧ Are Value.int i2.toList ((ns.take i).flatMap fun m => (wk tree k m).2.1) ∧ Are Value.int i3.toList (ns ++ (ns.take i).flatMap fun m => (wk tree k m).2.2.1) ∧ Are Value.int i4.toList ((ns.take i).flatMap fun m => (wk tree k m).2.2.2))
      rfl rfl rfl F7 N8 ⟨_, _, _, _, _, _, _, _, rfl, rfl, rfl, rfl, rfl, rfl, rfl, .cons n t .nil, .nil, by simpa using hA6, .nil⟩ ?_ ?_
    · intro I hI i v m₁ news₁ oI h₁ tk₁ E' hi hP hJ hIn F2 N2
      obtain ⟨x, u, hx, rfl⟩ := hA6.get (i := i) (v := v) (by simpa using hP)
      obtain ⟨i1, i2, i3, i4, e1, e2, e3, e4, rfl, m1, m2, m3, m4, m5, m6, a1, a2, a3, a4⟩ := hJ
      have hxm := hnw x (List.mem_of_getElem? hx)
      have hx0 : 0 ≤ x := by omega
      have hcx := cnt_lt hxm.1 hxm.2
      have hlx := wk_len hxs hnd k hx0
      simp only [List.cons_append, List.nil_append] at N2
      have hL1 := wk_len hxs hnd (k + 1) hn0
      simp only [wk, hns] at hL1
      rw [List.length_cons, List.length_append, List.length_append, List.length_append] at hL1
      have t1 := flat_take_le (f := fun m => (wk tree k m).1) (l := ns) (i := i + 1)
      have t2 := flat_take_le (f := fun m => (wk tree k m).2.1) (l := ns) (i := i + 1)
      have t3 := flat_take_le (f := fun m => (wk tree k m).2.2.1) (l := ns) (i := i + 1)
      have t4 := flat_take_le (f := fun m => (wk tree k m).2.2.2) (l := ns) (i := i + 1)
      rw [flat_take_succ hx, List.length_append] at t1 t2 t3 t4
      walk_at "my steps"
      refine Con.use (ih x u hx0 (by omega)) F2 N2 X T rfl (by show dp + 1 + (k + 1) < recursionLimit; omega) (by show un + 3 + (20 * k + 20) < cLine; omega) (hl.at fun o e => F2.keep _ o e) ?_
      intro v9 h9 tk9 F9 N9 k9 r9
      obtain ⟨tp, d1, d2, d3, d4, j1, j2, j3, j4, f0, f1, f2, f3, f4, rfl, c0, o0, ⟨c1, o1⟩, ⟨c2, o2⟩, ⟨c3, o3⟩, ⟨c4, o4⟩, b1, b2, b3, b4⟩ := r9
      have N10 := news_add F2 (news_add F2 (news_add F2 (news_add F2 (news_add F2 N9 c4 o4) c3 o3) c2 o2) c1 o1) c0 o0
      have hud := (N2 (ud, PySem.W.listOf i4 e4) (by k_mem)).1
      have hab := (N2 (ab, PySem.W.listOf i3 e3) (by k_mem)).1
      have hup := (N2 (up, PySem.W.listOf i2 e2) (by k_mem)).1
      have hdn := (N2 (dn, PySem.W.listOf i1 e1) (by k_mem)).1
      have y00 := fresh_ne c0 hud
      have y01 := fresh_ne c0 hab
      have y02 := fresh_ne c0 hup
      have y03 := fresh_ne c0 hdn
      have y10 := fresh_ne c1 hud
      have y11 := fresh_ne c1 hab
      have y12 := fresh_ne c1 hup
      have y13 := fresh_ne c1 hdn
      have y20 := fresh_ne c2 hud
      have y21 := fresh_ne c2 hab
      have y22 := fresh_ne c2 hup
      have y23 := fresh_ne c2 hdn
      have y30 := fresh_ne c3 hud
      have y31 := fresh_ne c3 hab
      have y32 := fresh_ne c3 hup
      have y33 := fresh_ne c3 hdn
      have y40 := fresh_ne c4 hud
      have y41 := fresh_ne c4 hab
      have y42 := fresh_ne c4 hup
      have y43 := fresh_ne c4 hdn
      have yI0 : @Ne Nat ud I := hIn (ud, PySem.W.listOf i4 e4) (by k_mem)
      have yI1 : @Ne Nat ab I := hIn (ab, PySem.W.listOf i3 e3) (by k_mem)
      have yI2 : @Ne Nat up I := hIn (up, PySem.W.listOf i2 e2) (by k_mem)
      have yI3 : @Ne Nat dn I := hIn (dn, PySem.W.listOf i1 e1) (by k_mem)
      have sz1 : i1.size + j1.size ≤ sizeLine := by rw [← Array.length_toList, ← Array.length_toList, a1.length, b1.length, sizeLine_eq, List.length_cons]; omega
      have sz2 : i2.size + j2.size ≤ sizeLine := by rw [← Array.length_toList, ← Array.length_toList, a2.length, b2.length, sizeLine_eq]; omega
      have sz3 : i3.size + j3.size ≤ sizeLine := by rw [← Array.length_toList, ← Array.length_toList, a3.length, b3.length, sizeLine_eq, List.length_append]; omega
      have sz4 : i4.size + j4.size ≤ sizeLine := by rw [← Array.length_toList, ← Array.length_toList, a4.length, b4.length, sizeLine_eq]; omega
      clear F2 N2 N9
      walk_at "my steps"
      rename Fr _ _ _ _ => F3
      rename News _ _ _ _ => N3
      refine' FEnd.intro _ F3 N3 (fun p hp => List.mem_cons_of_mem _ (List.mem_cons_of_mem _ (List.mem_cons_of_mem _ (List.mem_cons_of_mem _ (List.mem_cons_of_mem _ hp))))) (fun p hp => ?_) ⟨i1 ++ j1, i2 ++ j2, i3 ++ j3, i4 ++ j4, _, _, _, _, rfl, rfl, rfl, rfl, rfl, m5, m6, ?_, ?_, ?_, ?_⟩
      · have yI4 : @Ne Nat (L + 1) I := hIn (L + 1, oc) (by k_mem)
        simp only [List.mem_cons, List.not_mem_nil, or_false] at hp
        rcases hp with h | h | h | h | h <;> rw [h] <;> assumption
      · rw [Array.toList_append, flat_take_succ hx]; exact a1.append b1
      · rw [Array.toList_append, flat_take_succ hx]; exact a2.append b2
      · rw [Array.toList_append, flat_take_succ hx, ← List.append_assoc]; exact a3.append b3
      · rw [Array.toList_append, flat_take_succ hx]; exact a4.append b4
    · intro h₁ tk₁ m₁ news₁ F2 N2 hJ
      obtain ⟨i1, i2, i3, i4, e1, e2, e3, e4, rfl, m1, m2, m3, m4, m5, m6, a1, a2, a3, a4⟩ := hJ
      rw [hlen6, List.take_of_length_le (Nat.le_refl _)] at a1 a2 a3 a4
      have hL1 := wk_len hxs hnd (k + 1) hn0
      simp only [wk, hns] at hL1
      rw [List.length_cons, List.length_append, List.length_append, List.length_append] at hL1
      have sz2 : i2.size + 1 ≤ sizeLine := by rw [← Array.length_toList, a2.length, sizeLine_eq]; omega
      have sz4 : i4.size + vs6.toArray.size ≤ sizeLine := by rw [← Array.length_toList, a4.length, hlen6, sizeLine_eq]; omega
      have sz4' : i4.size + vs6.length ≤ sizeLine := by rw [List.size_toArray] at sz4; exact sz4
      dsimp only
      walk_at "my steps"
      rename Fr _ _ _ _ => F3
      rename News _ _ _ _ => N3
      have z0 := N3 _ (List.mem_cons_self ..)
      have z1 := N3 _ (List.mem_cons_of_mem _ (List.mem_cons_self ..))
      have z2 := N3 _ (List.mem_cons_of_mem _ (List.mem_cons_of_mem _ (List.mem_cons_self ..)))
      have z3 := N3 (ab, PySem.W.listOf i3 e3) (by k_mem)
      have z4 := N3 (dn, PySem.W.listOf i1 e1) (by k_mem)
      refine Ret.intro F3 ⟨_, _, _, _, _, _, _, _, _, _, _, _, _, _, rfl, z0.2.2, z0.1, ⟨z4.2.2, z4.1⟩, ⟨z2.2.2, z2.1⟩, ⟨z3.2.2, z3.1⟩, ⟨z1.2.2, z1.1⟩, ?_, ?_, ?_, ?_⟩
      · simp only [wk, hns]; exact a1
      · simp only [wk, hns, Array.toList_append]; exact a2.append (.cons n t .nil)
      · simp only [wk, hns]; exact a3
      · simp only [wk, hns, Array.toList_append]; exact a4.append hA6
theorem walks_con {w : World} {mg mb : Str → Option Value} (Ta : Addr) (items : Array Value) (tree : List Int) (hA : Are Value.int items.toList tree) (hn : tree.length ≤ 20) (hxs : ∀ x ∈ tree, 0 ≤ x) (hnd : tree.Nodup) :
    ∀ (k : Nat) (n : Int) (t : Tok), 0 ≤ n → cnt tree n < k → Con w mg mb 68 [.int n t, .ref Ta] (k + 1) (20 * k + 20) (fun h => h.IsList Ta items) (wkR tree k n)
  | 0, _, _, _, h => absurd h (Nat.not_lt_zero _)
  | k + 1, n, t, hn0, hk => walks_step Ta items tree hA hn hxs hnd k (walks_con Ta items tree hA hn hxs hnd k) n t hn0 hk
-- P5
section
open PySem PySem.W PyProof.Rows PySem.Spec
set_option linter.unusedVariables false
set_option linter.unusedSimpArgs false
set_option Elab.async false
def filt (wr l : List Int) : List Int := l.filter fun x => decide (x ∈ wr)
def RowGood (ss ts : List Str) : Prop := ∀ qs, sortedS qs = true → qs.Perm ss → qs = ts
theorem rowGood {W wr : List Int} {f : Int → List Nat} {ss : List Str} {al bl : List Nat} {st : Int} (hW : W.Pairwise fun a b => ltCps (f a) (f b) = true) (h2 : wr.Nodup) (hm : ∀ x ∈ wr, x ∈ W) (hp : ss.Perm (wr.map fun x => sL (f x)))
    (hf : ∀ x ∈ wr, f x = spellL al st bl x) : RowGood ss ((filt wr W).map fun x => sL (spellL al st bl x)) := by
  intro qs hs hq
  rw [row_eq hW h2 hm hs (hq.trans hp)]
  refine List.map_congr_left fun x hx => ?_
  rw [hf x (by simpa using (List.mem_filter.mp hx).2)]
theorem bok_run : ∀ (ds : List Int), (∀ x ∈ ds, 0 ≤ x) → BOk ds.length (ds.foldl bstep ([0], [])) := by
  have : ∀ (ds : List Int) (k : Nat) (st : List Int × List Int), BOk k st → (∀ x ∈ ds, 0 ≤ x) → BOk (k + ds.length) (ds.foldl bstep st) := by
    intro ds
    induction ds with
    | nil => intro k st h _; exact h
    | cons d r ih =>
      intro k st h hnn
      have := ih (k + 1) (bstep st d) (bok_step h (hnn d (List.mem_cons_self ..))) fun x hx => hnn x (List.mem_cons_of_mem _ hx)
      rw [List.length_cons, show k + (r.length + 1) = k + 1 + r.length by omega]
      exact this
  intro ds h
  have := this ds 0 _ bok_zero h
  rwa [Nat.zero_add] at this
structure WIn (tree : List Int) (x : Int) : Prop where
  pos : 0 < x
  lt : x < 16 ^ 7
  w1 : x ∈ (wk tree 9 0).1
  w2 : x ∈ (wk tree 9 0).2.1
  w3 : x ∈ (wk tree 9 0).2.2.1
  w4 : x ∈ (wk tree 9 0).2.2.2
section
variable {tree wr : List Int} (bok : BOk 7 (tree, wr))
include bok
theorem bok_nn : ∀ x ∈ tree, 0 ≤ x := fun x hx => (bok.bound x hx).1
theorem bok_cnt : cnt tree 0 < 9 := by
  have := bok.le
  dsimp only at this
  exact Nat.lt_of_le_of_lt (List.length_filter_le _ _) (by omega)
theorem bok_in : ∀ x ∈ wr, WIn tree x := by
  intro x hx
  obtain ⟨h1, h2⟩ := bok.sub x hx
  have h3 := bok.bound x h1
  have h4 := wk_all (bok_nn bok) (bok_cnt bok) bok.up x h1
  exact ⟨by omega, h3.2, h4, wk_down_up 9 0 x h4, (wk_down_above 9 0 x h4).resolve_left h2, (wk_down_under 9 0 x h4).resolve_left h2⟩
theorem bok_wlen : wr.length ≤ 8 := Nat.le_trans (bok.wnd.length_le_of_subset fun x hx => (bok.sub x hx).1) bok.le
theorem filt_len (l : List Int) (hl : l.Nodup) : (filt wr l).length ≤ 8 := by
  refine Nat.le_trans ?_ (bok_wlen bok)
  exact (hl.sublist List.filter_sublist).length_le_of_subset fun x hx => by simpa using (List.mem_filter.mp hx).2
theorem filt_in {l : List Int} : ∀ x ∈ filt wr l, WIn tree x := fun x hx => bok_in bok x (by simpa using (List.mem_filter.mp hx).2)
theorem filt_lens : (filt wr (wk tree 9 0).1).length ≤ 8 ∧ (filt wr (wk tree 9 0).2.1).length ≤ 8 ∧ (filt wr (wk tree 9 0).2.2.1).length ≤ 8 ∧ (filt wr (wk tree 9 0).2.2.2).length ≤ 8 :=
  have h := wk_nodup (bok_nn bok) bok.nd 9 (n := 0) (by omega)
  ⟨filt_len bok _ h.1, filt_len bok _ h.2.1, filt_len bok _ h.2.2.1, filt_len bok _ h.2.2.2⟩
end
-- octets
theorem bN_of {b : Array UInt8} {ks : List Int} (h : KBw.bInts b = ks) : bN b = ks.map Int.toNat := by
  rw [← h]; simp [bN, KBw.bInts]
theorem lw_wd (x : Int) : (wd x).map Int.toNat = lw x := by
  unfold wd lw
  rw [List.map_map]
  refine List.map_congr_left fun d _ => ?_
  simp; omega
theorem u8 (n : Int) (h0 : 0 ≤ n) (h1 : n < 256) : (n.toNat.toUInt8).toNat = n.toNat := by
  show n.toNat % 256 = n.toNat
  omega
theorem bInts_byteArr : ∀ {ks : List Int}, (∀ k ∈ ks, 0 ≤ k ∧ k < 256) → KBw.bInts (byteArr ks) = ks := by
  intro ks h
  simp only [KBw.bInts, byteArr, List.map_map]
  conv => rhs; rw [← List.map_id ks]
  refine List.map_congr_left fun k hk => ?_
  have := h k hk
  show ((k.toNat.toUInt8.toNat : Nat) : Int) = k
  rw [u8 k this.1 this.2]; omega
theorem wd_ok (x : Int) : ∀ k ∈ wd x, 0 ≤ k ∧ k < 256 := fun k hk => by have := wd_in hk; omega
theorem bN_word (x : Int) : bN (byteArr (wd x)) = lw x := by rw [bN_of (bInts_byteArr (wd_ok x)), lw_wd]
theorem bI_mark {x g : Int} (h0 : 0 ≤ g) (h1 : g < 256) : KBw.bInts (byteArr (wd x ++ [g])) = wd x ++ [g] := bInts_byteArr fun k hk => by
  rcases List.mem_append.mp hk with hk | hk
  · exact wd_ok x k hk
  · rw [List.mem_singleton.mp hk]; exact ⟨h0, h1⟩
theorem bN_mark {x g : Int} (h0 : 0 ≤ g) (h1 : g < 256) : bN (byteArr (wd x ++ [g])) = lw x ++ [g.toNat] := by
  rw [bN_of (bI_mark h0 h1), List.map_append, lw_wd]; rfl
theorem unL_letter : ∀ c : Fin 16, unL (65 + c.val) = [65 + c.val] := by decide +kernel
theorem unL_lw (x : Int) : (lw x).flatMap unL = lw x := by
  unfold lw
  rw [List.flatMap_map]
  have : ∀ l : List Nat, (∀ d ∈ l, d < 16) → (l.flatMap fun d => unL (65 + d)) = l.map fun d => 65 + d := by
    intro l h
    induction l with
    | nil => rfl
    | cons a r ih =>
      rw [List.flatMap_cons, List.map_cons, ih fun d hd => h d (List.mem_cons_of_mem _ hd), unL_letter ⟨a, h a (List.mem_cons_self ..)⟩]; rfl
  exact this _ fun d hd => digN_lt _ _ hd
theorem lw_spell {x : Int} (h : 0 < x) (bl : List Nat) : lw x ++ bl = spellL [] 0 bl x := by
  unfold spellL
  rw [lw_pos h, List.append_nil, Int.add_zero]
theorem sign_fin : ∀ c : Fin 256, (signS (c.val : Int)).cps.toList = unL c.val ∧ ((c.val < 65 ∨ 80 < c.val) → (if ltCps (unL c.val) [65] = true then (match unL c.val with | [] => true | k :: _ => decide (k < 65)) else (match unL c.val with | [] => false | k :: _ => decide (80 < k))) = true) := by decide +kernel
theorem sign_eq {c : Int} (h0 : 0 ≤ c) (h1 : c < 256) : signS c = sL (unL c.toNat) := by
  have := (sign_fin ⟨c.toNat, by omega⟩).1
  dsimp only at this
  rw [show ((c.toNat : Nat) : Int) = c by omega] at this
  rw [← this]
  rfl
theorem sign_lt {c : Int} (h0 : 0 ≤ c) (h1 : c < 256) (h : c < 65 ∨ 80 < c) : (ltCps (unL c.toNat) [65] = true → ∀ k r, unL c.toNat = k :: r → k < 65) ∧ (ltCps (unL c.toNat) [65] = false → ∃ k r, unL c.toNat = k :: r ∧ 80 < k) := by
  have := (sign_fin ⟨c.toNat, by omega⟩).2 (by dsimp only; omega)
  dsimp only at this
  generalize unL c.toNat = l at *
  constructor
  · intro hl k r e
    subst e
    rw [if_pos hl] at this
    simpa using this
  · intro hl
    rw [if_neg (by rw [hl]; simp)] at this
    cases l with
    | nil => simp at this
    | cons k r => exact ⟨k, r, rfl, by simpa using this⟩
theorem lw_lt (x : Int) : ∀ c ∈ lw x, c < 81 := by
  intro c hc
  unfold lw at hc
  obtain ⟨d, hd, rfl⟩ := List.mem_map.mp hc
  have := digN_lt _ _ hd
  omega
theorem unL_lt : ∀ c : Fin 256, (unL c.val).all (fun k => decide (k < 256)) = true := by decide +kernel
theorem spell_ok {al bl : List Nat} {st : Int} (ha : ∀ c ∈ al, c < 256) (hb : ∀ c ∈ bl, c < 256) (hst : st ≤ 200) (l : List Int) : ∀ t ∈ l.map (fun x => sL (spellL al st bl x)), PyData.strOk t = true := by
  intro t ht
  obtain ⟨x, _, rfl⟩ := List.mem_map.mp ht
  have h : ∀ c ∈ spellL al st bl x, c < 1114112 := by
    intro c hc
    unfold spellL at hc
    rw [List.mem_append, List.mem_append, List.mem_append] at hc
    rcases hc with ((hc | hc) | hc) | hc
    · have := lw_lt _ c hc; omega
    · have := ha c hc; omega
    · rw [List.mem_singleton.mp hc]; omega
    · have := hb c hc; omega
  show (sL (spellL al st bl x)).cps.all (· < 0x110000) = true
  simp only [sL, List.all_toArray, List.all_eq_true, decide_eq_true_eq]
  exact h
theorem unL_lts {g : Int} (h0 : 0 ≤ g) (h1 : g < 256) : ∀ c ∈ unL g.toNat, c < 256 := fun c hc => by
  have := List.all_eq_true.mp (unL_lt ⟨g.toNat, by omega⟩) c hc
  simpa using this
section
variable {tree wr : List Int} (bok : BOk 7 (tree, wr))
abbrev wordsOf (wr : List Int) : List (Array UInt8) := wr.map fun x => byteArr (wd x)
abbrev markedOf (wr : List Int) (g : Int) : List (Array UInt8) := wr.map fun x => byteArr (wd x ++ [g])
include bok
theorem row_words : RowGood ((wordsOf wr).map fun b => sL (bN b)) ((filt wr (wk tree 9 0).1).map fun x => sL (spellL [] 0 [] x)) := by
  refine rowGood (f := fun x => lw x ++ []) (down_rise (bok_nn bok) bok.nd [] (fun _ => rfl) (fun _ _ h => nomatch h) 9 0 (by omega)).2 bok.wnd (fun x hx => (bok_in bok x hx).w1) ?_ fun x hx => lw_spell (bok_in bok x hx).pos []
  rw [List.map_map]
  refine List.Perm.of_eq (List.map_congr_left fun x _ => ?_)
  simp only [Function.comp, bN_word, List.append_nil]
theorem row_down {g : Int} {suf : List Nat} {ss : List Str} (hss : ss = wr.map fun x => sL (lw x ++ suf)) (hsuf : ∀ c r, suf = c :: r → c < 65) : RowGood ss ((filt wr (wk tree 9 0).1).map fun x => sL (spellL [] 0 suf x)) := by
  subst hss
  exact rowGood (f := fun x => lw x ++ suf) (down_rise (bok_nn bok) bok.nd suf (fun _ => rfl) hsuf 9 0 (by omega)).2 bok.wnd (fun x hx => (bok_in bok x hx).w1) (.refl _) fun x hx => lw_spell (bok_in bok x hx).pos suf
theorem row_up {g : Int} {suf : List Nat} {ss : List Str} (hss : ss = wr.map fun x => sL (lw x ++ suf)) (hsuf : ∃ c r, suf = c :: r ∧ 80 < c) : RowGood ss ((filt wr (wk tree 9 0).2.1).map fun x => sL (spellL [] 0 suf x)) := by
  subst hss
  exact rowGood (f := fun x => lw x ++ suf) (up_rise (bok_nn bok) bok.nd suf (fun _ => rfl) hsuf 9 0 (by omega)).2 bok.wnd (fun x hx => (bok_in bok x hx).w2) (.refl _) fun x hx => lw_spell (bok_in bok x hx).pos suf
omit bok in
theorem text_marked {g : Int} (h0 : 0 ≤ g) (h1 : g < 256) : ((markedOf wr g).map fun b => sL (bN b)) = wr.map fun x => sL (lw x ++ [g.toNat]) := by
  rw [List.map_map]
  refine List.map_congr_left fun x _ => ?_
  simp only [Function.comp, bN_mark h0 h1]
omit bok in
theorem shown_marked {g : Int} (h0 : 0 ≤ g) (h1 : g < 256) : ((markedOf wr g).map fun b => sL ((bN b).flatMap unL)) = wr.map fun x => sL (lw x ++ unL g.toNat) := by
  rw [List.map_map]
  refine List.map_congr_left fun x _ => ?_
  simp only [Function.comp, bN_mark h0 h1, List.flatMap_append, unL_lw, List.flatMap_cons, List.flatMap_nil, List.append_nil]
end
end
-- P6
section
open PySem PySem.W PyProof.Rows PySem.Spec
set_option linter.unusedVariables false
set_option linter.unusedSimpArgs false
set_option Elab.async false
abbrev heldB (x : Int) : Array UInt8 := byteArr (wd (x / 16) ++ [1 + x % 16])
abbrev highB (x : Int) : Array UInt8 := byteArr (wd (x / 16) ++ [193 + x % 16])
theorem bI_held (x : Int) : KBw.bInts (heldB x) = wd (x / 16) ++ [1 + x % 16] := bI_mark (by omega) (by omega)
theorem bI_high (x : Int) : KBw.bInts (highB x) = wd (x / 16) ++ [193 + x % 16] := bI_mark (by omega) (by omega)
theorem bN_held (x : Int) : bN (heldB x) = lw (x / 16) ++ [(1 + x % 16).toNat] := bN_mark (by omega) (by omega)
theorem bN_high (x : Int) : bN (highB x) = lw (x / 16) ++ [(193 + x % 16).toNat] := bN_mark (by omega) (by omega)
theorem unL_ctl : ∀ c : Fin 16, unL (1 + c.val) = [94, 65 + c.val] ∧ unL (193 + c.val) = [33, 65 + c.val] := by decide +kernel
theorem unL_held (x : Int) : (bN (heldB x)).flatMap unL = lw (x / 16) ++ [94, (65 + x % 16).toNat] := by
  have := (unL_ctl ⟨(x % 16).toNat, by omega⟩).1
  dsimp only at this
  rw [bN_held, List.flatMap_append, unL_lw, List.flatMap_cons, List.flatMap_nil, List.append_nil, show (1 + x % 16).toNat = 1 + (x % 16).toNat by omega, this, show (65 + x % 16).toNat = 65 + (x % 16).toNat by omega]
theorem unL_high (x : Int) : (bN (highB x)).flatMap unL = lw (x / 16) ++ [33, (65 + x % 16).toNat] := by
  have := (unL_ctl ⟨(x % 16).toNat, by omega⟩).2
  dsimp only at this
  rw [bN_high, List.flatMap_append, unL_lw, List.flatMap_cons, List.flatMap_nil, List.append_nil, show (193 + x % 16).toNat = 193 + (x % 16).toNat by omega, this, show (65 + x % 16).toNat = 65 + (x % 16).toNat by omega]
section
variable {tree wr : List Int} (bok : BOk 7 (tree, wr))
include bok
theorem rise_ctl : (wk tree 9 0).2.2.1.Pairwise fun a b => ltCps (lw (a / 16) ++ [(1 + a % 16).toNat]) (lw (b / 16) ++ [(1 + b % 16).toNat]) = true :=
  (above_rise (bok_nn bok) bok.nd (f := fun x => lw (x / 16) ++ [(1 + x % 16).toNat]) (fun r => [(1 + r).toNat]) (fun _ => rfl) (fun r h0 h1 => ⟨_, _, rfl, by omega⟩) (fun r q h0 h1 h2 => lt_head _ _ (by omega)) 9 0 (by omega)).2
theorem rise_ctlS : (wk tree 9 0).2.2.2.Pairwise fun a b => ltCps (lw (a / 16) ++ [94, (65 + a % 16).toNat]) (lw (b / 16) ++ [94, (65 + b % 16).toNat]) = true :=
  (under_rise (bok_nn bok) bok.nd (f := fun x => lw (x / 16) ++ [94, (65 + x % 16).toNat]) (fun r => [94, (65 + r).toNat]) (fun _ => rfl) (fun r h0 h1 => ⟨_, _, rfl, by omega⟩) (fun r q h0 h1 h2 => by show ltCps ([94] ++ _) ([94] ++ _) = true; rw [lt_app]; exact lt_head _ _ (by omega)) 9 0 (by omega)).2
theorem rise_alt : (wk tree 9 0).2.2.2.Pairwise fun a b => ltCps (lw (a / 16) ++ [(193 + a % 16).toNat]) (lw (b / 16) ++ [(193 + b % 16).toNat]) = true :=
  (under_rise (bok_nn bok) bok.nd (f := fun x => lw (x / 16) ++ [(193 + x % 16).toNat]) (fun r => [(193 + r).toNat]) (fun _ => rfl) (fun r h0 h1 => ⟨_, _, rfl, by omega⟩) (fun r q h0 h1 h2 => lt_head _ _ (by omega)) 9 0 (by omega)).2
theorem rise_altS : (wk tree 9 0).2.2.1.Pairwise fun a b => ltCps (lw (a / 16) ++ [33, (65 + a % 16).toNat]) (lw (b / 16) ++ [33, (65 + b % 16).toNat]) = true :=
  (above_rise (bok_nn bok) bok.nd (f := fun x => lw (x / 16) ++ [33, (65 + x % 16).toNat]) (fun r => [33, (65 + r).toNat]) (fun _ => rfl) (fun r h0 h1 => ⟨_, _, rfl, by omega⟩) (fun r q h0 h1 h2 => by show ltCps ([33] ++ _) ([33] ++ _) = true; rw [lt_app]; exact lt_head _ _ (by omega)) 9 0 (by omega)).2
theorem held_is {bs : List (Array UInt8)} (hp : bs.Perm (wr.map heldB)) (hs : bs.Pairwise fun a b => ltCps (bN b) (bN a) = false) : bs = (filt wr (wk tree 9 0).2.2.1).map heldB := by
  refine sorted_by_is hs (hp.trans ((part_perm (nodup_of_rise (rise_ctl bok)) bok.wnd fun x hx => (bok_in bok x hx).w3).map _)) ?_
  rw [List.pairwise_map]
  exact ((rise_ctl bok).sublist List.filter_sublist).imp fun h => by rw [bN_held, bN_held]; exact h
theorem high_is {bs : List (Array UInt8)} (hp : bs.Perm (wr.map highB)) (hs : bs.Pairwise fun a b => ltCps (bN b) (bN a) = false) : bs = (filt wr (wk tree 9 0).2.2.2).map highB := by
  refine sorted_by_is hs (hp.trans ((part_perm (nodup_of_rise (rise_alt bok)) bok.wnd fun x hx => (bok_in bok x hx).w4).map _)) ?_
  rw [List.pairwise_map]
  exact ((rise_alt bok).sublist List.filter_sublist).imp fun h => by rw [bN_high, bN_high]; exact h
theorem row_heldT {bs : List (Array UInt8)} (hp : bs.Perm (wr.map heldB)) : RowGood (bs.map fun b => sL (bN b)) ((filt wr (wk tree 9 0).2.2.1).map fun x => sL (spellL [] (-64) [] x)) := by
  refine rowGood (rise_ctl bok) bok.wnd (fun x hx => (bok_in bok x hx).w3) ((hp.map _).trans (.of_eq ?_)) fun x hx => ?_
  · rw [List.map_map]
    exact List.map_congr_left fun x _ => by simp only [Function.comp]; rw [bN_held]
  · unfold spellL
    rw [List.append_nil, List.append_nil, show (65 + x % 16 + -64).toNat = (1 + x % 16).toNat by omega]
theorem row_heldS {bs : List (Array UInt8)} (hp : bs.Perm (wr.map heldB)) : RowGood (bs.map fun b => sL ((bN b).flatMap unL)) ((filt wr (wk tree 9 0).2.2.2).map fun x => sL (spellL [94] 0 [] x)) := by
  refine rowGood (rise_ctlS bok) bok.wnd (fun x hx => (bok_in bok x hx).w4) ((hp.map _).trans (.of_eq ?_)) fun x hx => ?_
  · rw [List.map_map]
    exact List.map_congr_left fun x _ => by simp only [Function.comp]; rw [unL_held]
  · unfold spellL
    rw [List.append_nil, List.append_assoc, Int.add_zero]; rfl
theorem row_highT {bs : List (Array UInt8)} (hp : bs.Perm (wr.map highB)) : RowGood (bs.map fun b => sL (bN b)) ((filt wr (wk tree 9 0).2.2.2).map fun x => sL (spellL [] 128 [] x)) := by
  refine rowGood (rise_alt bok) bok.wnd (fun x hx => (bok_in bok x hx).w4) ((hp.map _).trans (.of_eq ?_)) fun x hx => ?_
  · rw [List.map_map]
    exact List.map_congr_left fun x _ => by simp only [Function.comp]; rw [bN_high]
  · unfold spellL
    rw [List.append_nil, List.append_nil, show (65 + x % 16 + 128).toNat = (193 + x % 16).toNat by omega]
theorem row_highS {bs : List (Array UInt8)} (hp : bs.Perm (wr.map highB)) : RowGood (bs.map fun b => sL ((bN b).flatMap unL)) ((filt wr (wk tree 9 0).2.2.1).map fun x => sL (spellL [33] 0 [] x)) := by
  refine rowGood (rise_altS bok) bok.wnd (fun x hx => (bok_in bok x hx).w3) ((hp.map _).trans (.of_eq ?_)) fun x hx => ?_
  · rw [List.map_map]
    exact List.map_congr_left fun x _ => by simp only [Function.comp]; rw [unL_high]
  · unfold spellL
    rw [List.append_nil, List.append_assoc, Int.add_zero]; rfl
end
-- reading
theorem read_wd : ∀ (y : Int), 0 ≤ y → ∀ out, (wd y).foldl readStep (0, out) = (y, out) := by
  have : ∀ (n : Nat) (y : Int), y.toNat = n → 0 ≤ y → ∀ out, (wd y).foldl readStep (0, out) = (y, out) := by
    intro n
    induction n using Nat.strongRecOn with
    | ind n ih =>
      intro y hn h0 out
      by_cases hy : y = 0
      · subst hy; rw [wd_zero]; rfl
      · rw [wd_pos (by omega), List.foldl_append, ih (y / 16).toNat (by omega) _ rfl (by omega)]
        simp only [List.foldl_cons, List.foldl_nil, readStep]
        rw [if_pos (by omega)]
        congr 1
        omega
  exact fun y => this _ y rfl
theorem read_one {x c : Int} (h0 : 0 ≤ x) (hc : c % 32 = 1 + x % 16) (hn : ¬ (65 ≤ c ∧ c ≤ 90)) (out : List Int) : (wd (x / 16) ++ [c]).foldl readStep (0, out) = (0, out ++ [x]) := by
  rw [List.foldl_append, read_wd _ (by omega)]
  simp only [List.foldl_cons, List.foldl_nil, readStep]
  rw [if_neg hn, show 16 * (x / 16) + c % 32 - 1 = x by omega]
theorem read_all {f : Int → Int} : ∀ (xs : List Int) (out : List Int), (∀ x ∈ xs, 0 ≤ x ∧ f x % 32 = 1 + x % 16 ∧ ¬ (65 ≤ f x ∧ f x ≤ 90)) → (xs.flatMap fun x => wd (x / 16) ++ [f x]).foldl readStep (0, out) = (0, out ++ xs)
  | [], out, _ => by simp
  | x :: r, out, h => by
    have h1 := h x (List.mem_cons_self ..)
    rw [List.flatMap_cons, List.foldl_append, read_one h1.1 h1.2.1 h1.2.2, read_all r _ fun y hy => h y (List.mem_cons_of_mem _ hy)]
    simp
theorem read_part : ∀ (y : Int), 0 ≤ y → ∀ (i : Nat) out, 0 ≤ (((wd y).take i).foldl readStep (0, out)).1 ∧ (((wd y).take i).foldl readStep (0, out)).1 ≤ y := by
  have : ∀ (n : Nat) (y : Int), y.toNat = n → 0 ≤ y → ∀ (i : Nat) out, 0 ≤ (((wd y).take i).foldl readStep (0, out)).1 ∧ (((wd y).take i).foldl readStep (0, out)).1 ≤ y := by
    intro n
    induction n using Nat.strongRecOn with
    | ind n ih =>
      intro y hn h0 i out
      by_cases hi : (wd y).length ≤ i
      · rw [List.take_of_length_le hi, read_wd y h0]; omega
      · by_cases hy : y = 0
        · subst hy; rw [wd_zero] at hi; simp at hi
        · rw [wd_pos (by omega)] at hi ⊢
          rw [List.length_append, List.length_singleton] at hi
          rw [List.take_append_of_le_length (by omega)]
          have := ih (y / 16).toNat (by omega) (y / 16) rfl (by omega) i out
          omega
  exact fun y => this _ y rfl
theorem read_bound {f : Int → Int} {B : Int} (hB : 0 ≤ B) : ∀ (xs : List Int) (i : Nat) (out : List Int), (∀ x ∈ xs, 0 ≤ x ∧ x ≤ B ∧ f x % 32 = 1 + x % 16 ∧ ¬ (65 ≤ f x ∧ f x ≤ 90)) →
    0 ≤ (((xs.flatMap fun x => wd (x / 16) ++ [f x]).take i).foldl readStep (0, out)).1 ∧ (((xs.flatMap fun x => wd (x / 16) ++ [f x]).take i).foldl readStep (0, out)).1 ≤ B
  | [], i, out, _ => by simp [hB]
  | x :: r, i, out, h => by
    have h1 := h x (List.mem_cons_self ..)
    rw [List.flatMap_cons, List.take_append, List.foldl_append]
    by_cases hi : (wd (x / 16) ++ [f x]).length ≤ i
    · rw [List.take_of_length_le hi, read_one h1.1 h1.2.2.1 h1.2.2.2]
      exact read_bound hB r _ _ fun y hy => h y (List.mem_cons_of_mem _ hy)
    · rw [show i - (wd (x / 16) ++ [f x]).length = 0 by omega, List.take_zero, List.foldl_nil]
      rw [List.length_append, List.length_singleton] at hi
      rw [List.take_append_of_le_length (by omega)]
      have := read_part (x / 16) (by omega) i out
      omega
theorem joined_ints (bs : List (Array UInt8)) : KBw.bInts (Builtin.Bytes.joined #[] bs) = bs.flatMap KBw.bInts := by
  rw [joined_nil]
  simp only [KBw.bInts, List.map_flatMap]
  rfl
section
variable {tree wr : List Int} (bok : BOk 7 (tree, wr))
include bok
theorem read_joined {g : Int → Array UInt8} {f : Int → Int} {l : List Int} (hg : ∀ x, KBw.bInts (g x) = wd (x / 16) ++ [f x]) (hf : ∀ x, 0 ≤ x → f x % 32 = 1 + x % 16 ∧ ¬ (65 ≤ f x ∧ f x ≤ 90)) (b : Array UInt8) (hb : b = Builtin.Bytes.joined #[] ((filt wr l).map g)) :
    (readTo (KBw.bInts b) b.size).2 = filt wr l ∧ ∀ i, -(2 ^ 60) < (readTo (KBw.bInts b) i).1 ∧ (readTo (KBw.bInts b) i).1 < 2 ^ 60 := by
  have e : KBw.bInts b = (filt wr l).flatMap fun x => wd (x / 16) ++ [f x] := by
    rw [hb, joined_ints, List.flatMap_map]
    congr 1
    funext x
    exact hg x
  have hin : ∀ x ∈ filt wr l, 0 ≤ x ∧ x ≤ 16 ^ 7 ∧ f x % 32 = 1 + x % 16 ∧ ¬ (65 ≤ f x ∧ f x ≤ 90) := fun x hx => by
    have := filt_in bok x hx
    have h1 := this.pos
    have h2 := this.lt
    exact ⟨by omega, by omega, hf x (by omega)⟩
  constructor
  · unfold readTo
    rw [List.take_of_length_le (Nat.le_of_eq (KBw.ints_length b)), e, read_all _ _ fun x hx => ⟨(hin x hx).1, (hin x hx).2.2⟩]
    simp
  · intro i
    have := read_bound (B := 16 ^ 7) (by decide) (filt wr l) i [] hin
    unfold readTo
    rw [e]
    omega
end
end
-- L1
abbrev LawQ (s : Shared) : Flow → Shared → Prop := fun fl s' => Ret s (fun _ _ v => v = .bool true) (match fl with | .ret v => v | _ => .none) s'
theorem Are.of_all {α : Type} {mk : α → Tok → Value} {as : List α} : ∀ {l : List Value}, (∀ v ∈ l, ∃ a t, v = mk a t ∧ a ∈ as) → ∃ bs, Are mk l bs ∧ ∀ b ∈ bs, b ∈ as
  | [], _ => ⟨[], .nil, by simp⟩
  | v :: l, h => by
    obtain ⟨a, t, rfl, ha⟩ := h v (List.mem_cons_self ..)
    obtain ⟨bs, h1, h2⟩ := Are.of_all (l := l) fun v hv => h v (List.mem_cons_of_mem _ hv)
    exact ⟨a :: bs, .cons a t h1, fun b hb => by rcases List.mem_cons.mp hb with rfl | hb; exact ha; exact h2 b hb⟩
theorem Are.mem {α : Type} {mk : α → Tok → Value} {vs : List Value} {as : List α} (h : Are mk vs as) {v : Value} (hv : v ∈ vs) : ∃ a t, v = mk a t ∧ a ∈ as := by
  induction h with
  | nil => cases hv
  | cons b u _ ih =>
    rcases List.mem_cons.mp hv with rfl | hv
    · exact ⟨b, u, rfl, List.mem_cons_self ..⟩
    · obtain ⟨a, t, h1, h2⟩ := ih hv; exact ⟨a, t, h1, List.mem_cons_of_mem _ h2⟩
theorem Are.slice {α : Type} {mk : α → Tok → Value} {its : Array Value} {as : List α} (h : Are mk its.toList as) (lo hi st : Option Int) : ∃ bs, Are mk (slicePick its lo hi st).toList bs ∧ (∀ b ∈ bs, b ∈ as) ∧ bs.length ≤ as.length := by
  obtain ⟨bs, h1, h2⟩ := Are.of_all (mk := mk) (as := as) (l := (slicePick its lo hi st).toList) (fun v hv => by
    unfold slicePick at hv
    simp only [List.mem_filterMap] at hv
    obtain ⟨i, _, hi⟩ := hv
    exact h.mem (List.mem_of_getElem? (i := i) (by simpa using hi)))
  refine ⟨bs, h1, h2, ?_⟩
  rw [← h1.length, ← h.length, Array.length_toList, Array.length_toList]
  exact slicePick_size_le ..
theorem sum_nn : ∀ {l : List Int}, (∀ x ∈ l, 0 ≤ x) → 0 ≤ l.sum
  | [], _ => by simp
  | a :: l, h => by
    have h1 := h a (List.mem_cons_self ..)
    have h2 := sum_nn (l := l) fun x hx => h x (List.mem_cons_of_mem _ hx)
    rw [List.sum_cons]; omega
theorem seg0 {w : World} {mg mb : Str → Option Value} {s : Shared} {L Sa : Addr} {vs : List Value} {ns : List Int} {dp un : Nat} {fr : Option (List Env)} {gd : Option (List Code)} {h : Heap} {tk : Nat} {o1 o2 o3 : Obj} {rest : List Stmt}
    (X : (Mine.hd.heap_39 w.params).In s.heap) (T : TopRead Mine.hd.view_39 (looseW Mine.hd.view_39 []) mg mb s.heap) (hd : dp + 20 < recursionLimit) (hu : un + 600 < cLine)
    (hl : s.heap.IsList Sa vs.toArray) (hI : IntsAre vs ns) (hn : ns.length ≤ 63)
    (F : Fr s.heap L h (fun _ => none)) (N : News s.heap L h [(L + 3, o3), (L + 2, o2), (L + 1, o1)]) (h1 : o1.data = .cell (some (.ref Sa))) (h2 : o2.data = .cell none) (h3 : o3.data = .cell none)
    (next : ∀ (D : Addr) (its : Array Value) (nums : List Int) (e : Nat) (h' : Heap) (tk' : Nat), Fr s.heap L h' (fun y => if y = Str.ofString "numbers" then some (.ref D) else none) → News s.heap L h' [(D, PySem.W.listOf its e), (L + 3, o3), (L + 2, o2), (L + 1, o1)] → Are Value.int its.toList nums → nums.length = 8 → (∀ x ∈ nums, 0 ≤ x) → @LT.lt Nat _ (L + 3) D →
      wpAny (model PR w) (({ handled := none, depth := dp, frames := fr, guards := gd, units := un } : Around).deeper (lawEnv L)) (execs rest (lawEnv L)) (LawQ s) (fun _ _ => False) { s with heap := h', toks := tk' }) :
    wpAny (model PR w) (({ handled := none, depth := dp, frames := fr, guards := gd, units := un } : Around).deeper (lawEnv L)) (execs (st 0 :: rest) (lawEnv L)) (LawQ s) (fun _ _ => False) { s with heap := h, toks := tk } := by
  w_on
  refine wpAny_execs_cons ?_
  show wpAny _ _ (exec (Stmt.Assign _ _ _) _) _ _ _
  (k_dflt (refine' lcp_assign ?a ?b ?c ?d ?e ?f ?g ?h ?i ?j ?k ?_; (case a => with_unfolding_all rfl); (case b => with_unfolding_all rfl); (case c => decide); (case d => rfl); (case e => decide); (case f => rfl); (case g => rfl); (case h => decide); (case i => rfl); (case j => rfl); (case k => rfl)))
  walk_at "my steps"
  rename Fr _ _ _ _ => F1
  rename News _ _ _ _ => N1
  rename_i l g1 _
  obtain ⟨its, hli, hAi⟩ : ∃ its : Array Value, g1.IsList l its ∧ Are Value.int its.toList [110, 2, 69, 64, 143, 14, 368, 391] := ⟨_, ⟨_, (N1 _ (List.mem_cons_self ..)).1, rfl, _, rfl⟩, .cons _ _ (.cons _ _ (.cons _ _ (.cons _ _ (.cons _ _ (.cons _ _ (.cons _ _ (.cons _ _ .nil)))))))⟩
  have hz8 : its.size = 8 := by rw [← Array.length_toList, hAi.length]; rfl
  refine call_enumerate_list hli ?_
  intro h2 he hit hz hk
  dsimp only at he hit hz hk ⊢
  refine wpAny_pyIter_enum (it := g1.objs.size) (i := 0) (old := .none) ?_ ?_
  · exact he
  have hlt : @LT.lt Nat _ l g1.objs.size := Heap.lt_size (N1 _ (List.mem_cons_self ..)).1
  generalize hgz : g1.objs.size = G at *
  have hG : ∀ b o, g1.get? b = some o → @LT.lt Nat _ b G := fun b o e => hgz ▸ Heap.lt_size e
  have hk0 : ∀ b o, s.heap.get? b = some o → h2.get? b = some o := fun b o e => hk b o (F1.keep b o e)
  have hkw : ∀ b o, g1.get? b = some o → b ∉ [G + 1, G] := fun b o e hm => by
    have := hG b o e
    simp only [List.mem_cons, List.not_mem_nil, or_false] at hm
    have hm' : @Eq Nat b (G + 1) ∨ @Eq Nat b G := hm
    omega
  have hLg : L ∉ [G + 1, G] := by obtain ⟨_, _, _, e, _⟩ := F1.ns; exact hkw _ _ e
  refine ⟨G + 1, _, _, _, _, _, _, (fun i ys news => news = [] ∧ ∃ nums, Are Value.int ys nums ∧ nums.length = i ∧ ∀ x ∈ nums, (0 : Int) ≤ x), _, rfl, (WalksT.enumerate rfl (G + 1) G l (neN (by omega)) (neN (by omega)) (neN (by omega)) its).toU, ?_, by rw [hz8, sizeLine_eq]; omega, ⟨⟨_, he⟩, hit, hli.at fun o e => hk _ o e⟩, ?_, ⟨rfl, [], .nil, rfl, by simp⟩, ?_, ?_, hLg, (F1.keeps hk).ns, ?_⟩
  · rintro i vals ⟨t, x, h1, rfl⟩; exact ⟨_, _, rfl⟩
  · intro b hb
    show @LT.lt Nat _ b h2.objs.size
    have hz' : @Eq Nat h2.objs.size (G + 2) := hz
    simp only [List.mem_cons, List.not_mem_nil, or_false] at hb
    have hb' : @Eq Nat b (G + 1) ∨ @Eq Nat b G ∨ @Eq Nat b l := hb
    omega
  · rintro i ys news ⟨_, nums, h1, h2, _⟩; rw [h1.length]; omega
  · intro B C i va vb ys news s₃ m₃ E' hC hB hi hP hI F3 N3 hxa hxb
    obtain ⟨t, x, hx, hv⟩ := hP
    obtain ⟨rfl, nums, hAn, hnl, hnn⟩ := hI
    obtain ⟨own, u, hown, rfl⟩ := hAi.get (i := i) (v := x) (by simpa using hx)
    simp only [Array.mk.injEq, List.cons.injEq, and_true] at hv
    obtain ⟨rfl, rfl⟩ := hv
    have hB0 : ∀ b o, s.heap.get? b = some o → B.get? b = some o := fun b o e => hB b o (hkw b o (F1.keep b o e)) (hk0 b o e)
    have X3 : (Mine.hd.heap_39 w.params).In B := X.keeps hB0
    have T3 := T.keeps hB0
    have hc1 := (N1 (L + 1, o1) (by k_mem)).1
    have hcell : B.IsCell (L + 1) (some (.ref Sa)) := ⟨o1, hB _ _ (hkw _ _ hc1) (hk _ _ hc1), h1⟩
    have hown0 : 0 ≤ own ∧ own < 400 := by
      have : own ∈ [(110 : Int), 2, 69, 64, 143, 14, 368, 391] := List.mem_of_getElem? hown
      simp only [List.mem_cons, List.not_mem_nil, or_false] at this
      omega
    have hSB : B.IsList Sa vs.toArray := hl.at fun o e => hB0 _ o e
    refine wpAny_tests_nil ?_
    simp only [if_true]
    walk_at "my steps"
    walk_at "my comp"
    walk_at "my steps"
    rename_i h5 F5 N5
    obtain ⟨ms, hAm, -, hml⟩ := (show Are Value.int vs.toArray.toList ns from Are.of_ints hI).slice (some (i : Int)) none (some 8)
    generalize hpk : slicePick vs.toArray (some (i : Int)) none (some 8) = pk at *
    generalize hS : ({ s₃ with toks := s₃.toks } : Shared).heap.objs.size + 1 = S1 at *
    have hpl : pk.size = ms.length := by rw [← Array.length_toList, hAm.length]
    have hg5 := (N5 _ (List.mem_cons_self ..)).1
    refine lc_list (ax := S1) (items := pk) (fun i ys news => news = [] ∧ Are Value.int ys ((ms.take i).map fun x => x % 10 ^ 6)) rfl ⟨_, hg5, rfl, _, rfl⟩ (by rw [sizeLine_eq]; omega) ⟨rfl, .nil⟩ (fun i ys news hI => by rw [hI.2.length, List.length_map, List.length_take]; omega) ?_ ?_
    · intro B6 C6 j v ys6 news s₆ m₆ E6 hC6 hB6 hi6 hP6 hI6 F6 N6 hx6
      obtain ⟨x, u, hx', rfl⟩ := hAm.get (i := j) (v := v) (by simpa using hP6)
      obtain ⟨rfl, hAy⟩ := hI6
      refine wpAny_tests_nil ?_
      simp only [if_true]
      have X6 : (Mine.hd.heap_39 w.params).In B6 := (X3.keeps F5.keep).keeps hB6
      have T6 := (T3.keeps F5.keep).keeps hB6
      walk_at "my steps"
      have hfm : x.fmod (10 ^ Int.toNat 6) = x % 10 ^ 6 := Int.fmod_eq_emod_of_nonneg _ (by decide)
      rw [hfm]
      refine CEnd.pure F6 ⟨rfl, ?_⟩
      rw [take_succ_map hx']
      exact hAy.snoc
    · intro D h' tk ys6 news hDs hD hpl6 hN hI hk
      obtain ⟨rfl, hAy⟩ := hI
      rw [hpl, List.take_of_length_le (Nat.le_refl _)] at hAy
      obtain ⟨nD, eD⟩ := hpl6
      have F7 := F5.keeps hk
      have N7 := news_add F5 (N5.grown hk) hD eD
      clear F5 N5 F3 N3
      walk_at "my steps"
      refine sumK rfl F7 N7 ⟨_, eD, rfl, _, rfl⟩ hAy.ints ?_
      intro h8 tk8 t8 F8 N8
      clear F7 N7
      walk_at "my steps"
      refine CEnd.pure F8 ⟨rfl, nums ++ [_], hAn.snoc, by simp [hnl], ?_⟩
      intro y hy
      rcases List.mem_append.mp hy with hy | hy
      · exact hnn y hy
      · rw [List.mem_singleton.mp hy]
        have : (0 : Int) ≤ (ms.map fun x => x % 10 ^ 6).sum := sum_nn fun y hy => by
          obtain ⟨z, _, rfl⟩ := List.mem_map.mp hy
          exact Int.emod_nonneg _ (by decide)
        omega
  · intro D h' tk' ys news hDs hD hpl hN hI hns hkk
    obtain ⟨rfl, nums, hAn, hnl, hnn⟩ := hI
    obtain ⟨nD, eD⟩ := hpl
    have hkL : ∀ b o, b ≠ L → g1.get? b = some o → h'.get? b = some o := fun b o hb e => hkk b o hb (hkw b o e) (hk b o e)
    have F9 : Fr s.heap L h' (fun y => if y = Str.ofString "numbers" then some (.ref D) else none) := ⟨hns, fun b o e => hkL b o (fun hb => by subst hb; exact absurd (Heap.lt_size e) (Nat.not_lt.mpr F1.above)) (F1.keep b o e), F1.above⟩
    have N9 : News s.heap L h' [(D, PySem.W.listOf ys.toArray nD), (L + 3, o3), (L + 2, o2), (L + 1, o1)] := by
      refine news_add (F1.keeps hk) (fun p hp => ?_) hD eD
      have hp' := N1 p (List.mem_cons_of_mem _ hp)
      exact ⟨hkL _ _ hp'.2.1 hp'.1, hp'.2.1, hp'.2.2⟩
    have hL3 : @LT.lt Nat _ (L + 3) D := by
      have e1 := hG _ _ (N1 (L + 3, o3) (by k_mem)).1
      have hDs' : @LE.le Nat _ h2.objs.size D := hDs
      have hz' : @Eq Nat h2.objs.size (G + 2) := hz
      have e1' : @LT.lt Nat _ (L + 3) G := e1
      omega
    clear N1 F1
    refine wpAny_mono (next D ys.toArray nums nD h' tk' F9 N9 hAn (by rw [hnl, hz8]) hnn hL3) (fun _ _ h => h) fun _ _ h => h
-- L2
local macro_rules | `(tactic| walk_at "eval Name") => `(tactic| (k_here; (with_reducible show wpAny _ _ (eval (Expr.Name (Str.ofString "written") _) (lawEnv _)) _ _ _); k_dflt (refine' ldEC ?N (law_cells _) ?m ?d ?_ (law_fn _) (law_w _); (case N => k_asm); (case m => k_mem); (case d => assumption); k_whole)))
local macro_rules | `(tactic| walk_at "execs cons") => `(tactic| (k_here; (with_reducible show wpAny _ _ (execs (_ :: _) _) _ _ _); k_dflt (refine' tokAny ?_; intro tk; dsimp only; refine wpAny_execs_cons ?_)))
local macro_rules | `(tactic| walk_at "subscriptTail") => `(tactic| (k_here; (with_reducible show wpAny _ _ (subscriptTail _ _ (Value.ref _) (Value.int _ _)) _ _ _); k_dflt (refine' itemL ?l ?a ?b ?x ?_ ?hs; (case l => exact News.isList (by k_asm) (by k_mem)); (case a => assumption); (case b => assumption); (case x => assumption); (case hs => with_unfolding_all rfl); k_whole)))
local macro_rules | `(tactic| walk_at "compareOp In int ref") => `(tactic| (k_here; k_dflt (refine' inL ?l ?a ?_; (case l => kmk_list); (case a => assumption); k_whole)))
local macro_rules | `(tactic| walk_at "compareOp NotIn int ref") => `(tactic| (k_here; k_dflt (refine' notinL ?l ?a ?_; (case l => kmk_list); (case a => assumption); k_whole)))
local macro_rules | `(tactic| walk_at "storeName") => `(tactic| (k_here; (with_reducible show wpAny _ _ (storeName (lawEnv _) (Str.ofString "written") _) _ _ _); k_dflt (refine' stC ?F ?N (law_cells _) ?U ?d ?_ (law_fn _) (law_w _); (case F => k_asm); (case N => k_asm); (case U => k_updF); (case d => assumption); k_whole); intro h' o' F' N' d'; (try dsimp only at N'); (try k_sweep)))
local macro_rules | `(tactic| walk_at "storeName") => `(tactic| (k_here; (with_reducible show wpAny _ _ (storeName (lawEnv _) (Str.ofString "given") _) _ _ _); k_dflt (refine' stC ?F ?N (law_cellg _) ?U ?d ?_ (law_fn _) (law_g _); (case F => k_asm); (case N => k_asm); (case U => k_updF); (case d => assumption); k_whole); intro h' o' F' N' d'; (try dsimp only at N'); (try k_sweep)))
theorem seg1 {w : World} {mg mb : Str → Option Value} {s : Shared} {L D : Addr} {rs : List Value} {n0 : Int} {t0 : Tok} {e : Nat} {dp un : Nat} {fr : Option (List Env)} {gd : Option (List Code)} {h : Heap} {tk : Nat} {o1 o2 o3 : Obj} {rest : List Stmt}
    (X : (Mine.hd.heap_39 w.params).In s.heap) (T : TopRead Mine.hd.view_39 (looseW Mine.hd.view_39 []) mg mb s.heap)
    (F : Fr s.heap L h (fun y => if y = Str.ofString "numbers" then some (.ref D) else none)) (N : News s.heap L h [(D, PySem.W.listOf (Value.int n0 t0 :: rs).toArray e), (L + 3, o3), (L + 2, o2), (L + 1, o1)]) (l0 : ∀ p ∈ [(L + 3, o3), (L + 2, o2), (L + 1, o1)], p.1 < D) (h0 : 0 ≤ n0) (hr : rs.length ≤ 10) (h2 : o2.data = .cell none) (h3 : o3.data = .cell none)
    (next : ∀ (Wn Tn : Addr) (mark : Int) (tm t1 : Tok) (o2' : Obj) (h' : Heap) (tk' : Nat), Fr s.heap L h' (fun y => if y = Str.ofString "tree" then some (.ref Tn) else if y = Str.ofString "mark" then some (.int mark tm) else if y = Str.ofString "numbers" then some (.ref D) else none) →
      News s.heap L h' [(Wn, PySem.W.listOf #[] 0), (Tn, PySem.W.listOf #[Value.int 0 t1] 0), (D, PySem.W.listOf (Value.int n0 t0 :: rs).toArray e), (L + 3, o3), (L + 2, o2'), (L + 1, o1)] → o2'.data = .cell (some (.ref Wn)) → (L + 3 < D ∧ L + 2 < D ∧ L + 1 < D) → (D < Tn ∧ L + 3 < Tn ∧ L + 2 < Tn ∧ L + 1 < Tn) → (Tn < Wn ∧ D < Wn ∧ L + 3 < Wn ∧ L + 2 < Wn ∧ L + 1 < Wn) → 0 ≤ mark → mark < 256 → (mark < 65 ∨ 80 < mark) →
      wpAny (model PR w) (({ handled := none, depth := dp, frames := fr, guards := gd, units := un } : Around).deeper (lawEnv L)) (execs rest (lawEnv L)) (LawQ s) (fun _ _ => False) { s with heap := h', toks := tk' }) :
    wpAny (model PR w) (({ handled := none, depth := dp, frames := fr, guards := gd, units := un } : Around).deeper (lawEnv L)) (execs (st 1 :: st 2 :: st 3 :: rest) (lawEnv L)) (LawQ s) (fun _ _ => False) { s with heap := h, toks := tk } := by
  k_lt l0
  w_on
  show wpAny _ _ (execs (Stmt.Assign _ _ _ :: Stmt.Assign _ _ _ :: Stmt.Assign _ _ _ :: rest) _) _ _ _
  have hf1 : n0.fmod 240 = n0 % 240 := Int.fmod_eq_emod_of_nonneg _ (by decide)
  have hf2 := Int.emod_nonneg n0 (show (240 : Int) ≠ 0 by decide)
  have hf3 := Int.emod_lt_of_pos n0 (show (0 : Int) < 240 by decide)
  walk_at "my steps"
  · rename Fr _ _ _ _ => F5
    rename News _ _ _ _ => N5
    exact next _ _ _ _ _ _ _ _ F5 N5 (by assumption) (by assumption) (by assumption) (by assumption) (by omega) (by omega) (by omega)
  · rename Fr _ _ _ _ => F5
    rename News _ _ _ _ => N5
    exact next _ _ _ _ _ _ _ _ F5 N5 (by assumption) (by assumption) (by assumption) (by assumption) (by omega) (by omega) (by omega)
-- L3
noncomputable abbrev AL (dp un : Nat) (fr : Option (List Env)) (gd : Option (List Code)) (L : Addr) : Around := ({ handled := none, depth := dp, frames := fr, guards := gd, units := un } : Around).deeper (lawEnv L)
theorem seg2 {w : World} {mg mb : Str → Option Value} {s : Shared} {L D Tn Wn : Addr} {rs : List Value} {ds : List Int} {n0 : Int} {t0 t1 tm : Tok} {mark : Int} {e : Nat} {dp un : Nat} {fr : Option (List Env)} {gd : Option (List Code)} {h : Heap} {tk : Nat} {o1 o2 o3 : Obj} {rest : List Stmt}
    (X : (Mine.hd.heap_39 w.params).In s.heap) (T : TopRead Mine.hd.view_39 (looseW Mine.hd.view_39 []) mg mb s.heap) (hd : dp + 20 < recursionLimit) (hu : un + 600 < cLine)
    (F : Fr s.heap L h (fun y => if y = Str.ofString "tree" then some (.ref Tn) else if y = Str.ofString "mark" then some (.int mark tm) else if y = Str.ofString "numbers" then some (.ref D) else none))
    (N : News s.heap L h [(Wn, PySem.W.listOf #[] 0), (Tn, PySem.W.listOf #[Value.int 0 t1] 0), (D, PySem.W.listOf (Value.int n0 t0 :: rs).toArray e), (L + 3, o3), (L + 2, o2), (L + 1, o1)])
    (l1 : L + 3 < D ∧ L + 2 < D ∧ L + 1 < D) (l2 : D < Tn ∧ L + 3 < Tn ∧ L + 2 < Tn ∧ L + 1 < Tn) (l3 : Tn < Wn ∧ D < Wn ∧ L + 3 < Wn ∧ L + 2 < Wn ∧ L + 1 < Wn)
    (h2 : o2.data = .cell (some (.ref Wn))) (h3 : o3.data = .cell none) (hA : Are Value.int rs ds) (hds : ds.length = 7) (hnn : ∀ x ∈ ds, 0 ≤ x)
    (next : ∀ (its ws : Array Value) (e1 e2 : Nat) (m' : Str → Option Value) (h' : Heap) (tk' : Nat), Fr s.heap L h' m' → News s.heap L h' [(Wn, PySem.W.listOf ws e2), (Tn, PySem.W.listOf its e1), (L + 3, o3), (L + 2, o2)] → m' (Str.ofString "tree") = some (.ref Tn) → m' (Str.ofString "mark") = some (.int mark tm) →
      Are Value.int its.toList (ds.foldl bstep ([0], [])).1 → Are Value.int ws.toList (ds.foldl bstep ([0], [])).2 →
      wpAny (model PR w) (AL dp un fr gd L) (execs rest (lawEnv L)) (LawQ s) (fun _ _ => False) { s with heap := h', toks := tk' }) :
    wpAny (model PR w) (AL dp un fr gd L) (execs (st 4 :: rest) (lawEnv L)) (LawQ s) (fun _ _ => False) { s with heap := h, toks := tk } := by
  have k2 : @LT.lt Nat _ (L + 3) Tn ∧ @LT.lt Nat _ (L + 2) Tn := ⟨l2.2.1, l2.2.2.1⟩
  have k3 : @LT.lt Nat _ Tn Wn ∧ @LT.lt Nat _ (L + 3) Wn ∧ @LT.lt Nat _ (L + 2) Wn := ⟨l3.1, l3.2.2.1, l3.2.2.2.1⟩
  w_on
  show wpAny _ _ (execs (Stmt.For _ _ _ _ _ :: rest) _) _ _ _
  have hz : (Value.int n0 t0 :: rs).toArray.size ≤ sizeLine := by rw [List.size_toArray, List.length_cons, hA.length, hds, sizeLine_eq]; omega
  refine wpAny_execs_cons ?_
  refine wpAny_For ?_
  walk_at "my steps"
  rename Fr _ _ _ _ => F1
  rename News _ _ _ _ => N1
  rename_i D2 g1 q1
  rw [show slicePick (Value.int n0 t0 :: rs).toArray (some 1) none none = rs.toArray from slicePick_from _ 1 (by simp)] at N1
  have N2 : News s.heap L g1 ((D2, PySem.W.listOf rs.toArray 0) :: [(Wn, PySem.W.listOf #[] 0), (Tn, PySem.W.listOf #[Value.int 0 t1] 0), (L + 3, o3), (L + 2, o2)]) := fun p hp => N1 p (mem_of hp (by walk_at "my sub"))
  clear N1
  refine for_listN (fun i m news => ∃ its ws e1 e2, news = [(Wn, PySem.W.listOf ws e2), (Tn, PySem.W.listOf its e1), (L + 3, o3), (L + 2, o2)] ∧ m (Str.ofString "tree") = some (.ref Tn) ∧ m (Str.ofString "mark") = some (.int mark tm) ∧
      Are Value.int its.toList ((ds.take i).foldl bstep ([0], [])).1 ∧ Are Value.int ws.toList ((ds.take i).foldl bstep ([0], [])).2 ∧ BOk i ((ds.take i).foldl bstep ([0], []))) rfl rfl rfl F1 N2 ⟨_, _, _, _, rfl, rfl, rfl, .cons 0 t1 .nil, .nil, bok_zero⟩ ?_ ?_
  · intro I hI i v m₁ news₁ oI h₁ tk₁ E' hi hP hJ hIn F2 N2
    obtain ⟨d, u, hx, rfl⟩ := hA.get (i := i) (v := v) (by simpa using hP)
    obtain ⟨its, ws, e1, e2, rfl, m1, m2, a1, a2, bok⟩ := hJ
    have hd0 := hnn d (List.mem_of_getElem? hx)
    have hi7 : i < 7 := by rw [List.size_toArray, hA.length, hds] at hi; exact hi
    have bok' := bok_step bok hd0
    have hst : (ds.take (i + 1)).foldl bstep ([0], []) = bstep ((ds.take i).foldl bstep ([0], [])) d := by rw [List.take_add_one, hx]; simp
    generalize (ds.take i).foldl bstep ([0], []) = st at *
    obtain ⟨tree, wr⟩ := st
    dsimp only at a1 a2
    have hts : its.size = tree.length := by rw [← Array.length_toList, a1.length]
    have hle := bok.le
    have hne := bok.ne
    dsimp only at hle hne
    have htl : 1 ≤ tree.length ∧ tree.length ≤ 8 := ⟨hne, by omega⟩
    have hwl : wr.length ≤ 8 := Nat.le_trans (bok.wnd.length_le_of_subset fun x hx => (bok.sub x hx).1) htl.2
    have hws : ws.size = wr.length := by rw [← Array.length_toList, a2.length]
    have e64 : d.fdiv 64 = d / 64 := Int.fdiv_eq_ediv_of_nonneg _ (by decide)
    have e16 : d.fdiv 16 = d / 16 := Int.fdiv_eq_ediv_of_nonneg _ (by decide)
    have em : (d / 64).fmod tree.length = d / 64 % tree.length := Int.fmod_eq_emod_of_nonneg _ (by omega)
    have em16 : d.fmod 16 = d % 16 := Int.fmod_eq_emod_of_nonneg _ (by decide)
    have em4 : (d / 16).fmod 4 = d / 16 % 4 := Int.fmod_eq_emod_of_nonneg _ (by decide)
    have k0 : 0 ≤ (d.fdiv 64).fmod tree.length := by rw [e64, em]; exact Int.emod_nonneg _ (by omega)
    have k1' : (d.fdiv 64).fmod tree.length < tree.length := by rw [e64, em]; exact Int.emod_lt_of_pos _ (by omega)
    have k1 : (d.fdiv 64).fmod tree.length < 2 ^ 63 := by omega
    have hkk : ((d.fdiv 64).fmod tree.length).toNat < its.toList.length := by have e9 : its.toList.length = tree.length := a1.length; omega
    obtain ⟨p, tp, hp1, hp2⟩ := a1.get (i := ((d.fdiv 64).fmod tree.length).toNat) (v := its.toList[((d.fdiv 64).fmod tree.length).toNat]) (List.getElem?_eq_getElem hkk)
    have k2 : its.toList[((d.fdiv 64).fmod tree.length).toNat]? = some (.int p tp) := by rw [List.getElem?_eq_getElem hkk, hp2]
    have hpm := List.mem_of_getElem? hp1
    have hpb := bok.bound p hpm
    have hpow : (16 : Int) ^ i ≤ 16777216 := by
      have : ∀ j : Fin 7, (16 : Int) ^ j.val ≤ 16777216 := by decide
      exact this ⟨i, hi7⟩
    have hp3 : 0 ≤ p ∧ p < 16777216 := ⟨hpb.1, by omega⟩
    have hm0 : 0 ≤ d.fmod 16 := by rw [em16]; omega
    have hm1 : d.fmod 16 < 16 := by rw [em16]; omega
    have hbs : bstep (tree, wr) d = (if 16 * p + d.fmod 16 ∈ tree then tree else tree ++ [16 * p + d.fmod 16], if 16 * p + d.fmod 16 ≠ 0 ∧ 16 * p + d.fmod 16 ∉ wr ∧ (d.fdiv 16).fmod 4 ≠ 3 then wr ++ [16 * p + d.fmod 16] else wr) := by
      simp only [bstep]
      rw [← em, ← e64, List.getD_eq_getElem?_getD, hp1, em16, e16, em4]; rfl
    have yI0 : @Ne Nat Wn I := hIn (Wn, PySem.W.listOf ws e2) (by k_mem)
    have yI1 : @Ne Nat Tn I := hIn (Tn, PySem.W.listOf its e1) (by k_mem)
    have yI2 : @Ne Nat (L + 3) I := hIn (L + 3, o3) (by k_mem)
    have yI3 : @Ne Nat (L + 2) I := hIn (L + 2, o2) (by k_mem)
    have z1 : its.size ≤ 8 := by omega
    have z2 : ws.size ≤ 8 := by omega
    simp only [List.cons_append, List.nil_append] at N2
    walk_at "my steps"
    all_goals rename Fr _ _ _ _ => F5
    all_goals rename News _ _ _ _ => N5
    all_goals refine' FEnd.intro _ F5 N5 (fun p hp => hp) ?_ ⟨_, _, _, _, rfl, m1, m2, ?_, ?_, ?_⟩
    all_goals first
      | (intro p hp; simp only [List.mem_cons, List.not_mem_nil, or_false] at hp; rcases hp with h | h | h | h <;> rw [h] <;> assumption)
      | (show BOk _ _; rw [hst]; exact bok')
      | (rw [hst, hbs]; dsimp only; first
          | (have hc : 16 * p + d.fmod 16 ∈ tree := by assumption
             rw [if_pos hc]; exact a1)
          | (have hc : ¬ 16 * p + d.fmod 16 ∈ tree := by assumption
             rw [if_neg hc, Array.toList_push]; exact a1.snoc)
          | (have hc : 16 * p + d.fmod 16 ≠ 0 ∧ 16 * p + d.fmod 16 ∉ wr ∧ (d.fdiv 16).fmod 4 ≠ 3 := ⟨by assumption, by assumption, by assumption⟩
             rw [if_pos hc, Array.toList_push]; exact a2.snoc)
          | (have hc : ¬ (16 * p + d.fmod 16 ≠ 0 ∧ 16 * p + d.fmod 16 ∉ wr ∧ (d.fdiv 16).fmod 4 ≠ 3) := by
               rintro ⟨c1, c2, c3⟩
               first | exact c1 (by assumption) | exact c2 (by assumption) | exact c3 (by assumption)
             rw [if_neg hc]; exact a2))
  · intro h₁ tk₁ m₁ news₁ F2 N2 hJ
    obtain ⟨its, ws, e1, e2, rfl, m1, m2, a1, a2, bok⟩ := hJ
    rw [show ds.take rs.toArray.size = ds from List.take_of_length_le (by rw [List.size_toArray, hA.length]; exact Nat.le_refl _)] at a1 a2
    exact next its ws e1 e2 m₁ h₁ tk₁ F2 (fun p hp => N2 p (List.mem_cons_of_mem _ hp)) m1 m2 a1 a2
-- L4
abbrev wl4 (W : List Int × List Int × List Int × List Int) : List (List Int) := [W.1, W.2.1, W.2.2.1, W.2.2.2]
abbrev Ls := Addr × Array Value × Nat
def pl4 (wr : List Int) (W : List (List Int)) (i : Nat) (ys : List Value) (news : List (Addr × Obj)) : Prop :=
  ∃ ls : List Ls, ls.length = i ∧ ys = ls.map (fun l : Ls => Value.ref l.1) ∧ news = ls.map (fun l : Ls => (l.1, PySem.W.listOf l.2.1 l.2.2)) ∧ ∀ (j : Nat) (l : Ls), ls[j]? = some l → ∃ ms, W[j]? = some ms ∧ Are Value.int l.2.1.toList (filt wr ms)
theorem filt_end {wr l : List Int} {i : Nat} {x : Int} {u : Tok} {ys : List Value} (hAy : Are Value.int ys (filt wr (l.take i))) (hx : l[i]? = some x) (b : Bool) (hb : x ∈ wr ↔ b = true) :
    Are Value.int (if b then ys ++ [.int x u] else ys) (filt wr (l.take (i + 1))) := by
  unfold filt at *
  rw [take_succ_filter _ _ _ _ hx]
  cases b with
  | true =>
    have hb' : decide (x ∈ wr) = true := decide_eq_true (hb.mpr rfl)
    rw [hb']; exact hAy.snoc
  | false =>
    have hb' : decide (x ∈ wr) = false := decide_eq_false (fun h => Bool.false_ne_true (hb.mp h))
    rw [hb']; simp only [Bool.false_eq_true, if_false, List.append_nil]; exact hAy
theorem seg3 {w : World} {mg mb : Str → Option Value} {s : Shared} {L Tn Wn : Addr} {its ws : Array Value} {tree wr : List Int} {tm : Tok} {mark : Int} {e1 e2 : Nat} {dp un : Nat} {fr : Option (List Env)} {gd : Option (List Code)} {h : Heap} {tk : Nat} {o2 o3 : Obj} {rest : List Stmt} {m : Str → Option Value}
    (X : (Mine.hd.heap_39 w.params).In s.heap) (T : TopRead Mine.hd.view_39 (looseW Mine.hd.view_39 []) mg mb s.heap) (hd : dp + 20 < recursionLimit) (hu : un + 600 < cLine)
    (F : Fr s.heap L h m) (N : News s.heap L h [(Wn, PySem.W.listOf ws e2), (Tn, PySem.W.listOf its e1), (L + 3, o3), (L + 2, o2)]) (m1 : m (Str.ofString "tree") = some (.ref Tn)) (m2 : m (Str.ofString "mark") = some (.int mark tm))
    (h2 : o2.data = .cell (some (.ref Wn))) (a1 : Are Value.int its.toList tree) (a2 : Are Value.int ws.toList wr) (bok : BOk 7 (tree, wr))
    (next : ∀ (dn up ab ud : Addr) (i1 i2 i3 i4 : Array Value) (f1 f2 f3 f4 : Nat) (m' : Str → Option Value) (h' : Heap) (tk' : Nat), Fr s.heap L h' m' →
      News s.heap L h' [(dn, PySem.W.listOf i1 f1), (up, PySem.W.listOf i2 f2), (ab, PySem.W.listOf i3 f3), (ud, PySem.W.listOf i4 f4), (Wn, PySem.W.listOf ws e2), (L + 3, o3), (L + 2, o2)] →
      m' (Str.ofString "mark") = some (.int mark tm) → m' (Str.ofString "down") = some (.ref dn) → m' (Str.ofString "up") = some (.ref up) → m' (Str.ofString "above") = some (.ref ab) → m' (Str.ofString "under") = some (.ref ud) →
      Are Value.int i1.toList (filt wr (wk tree 9 0).1) → Are Value.int i2.toList (filt wr (wk tree 9 0).2.1) → Are Value.int i3.toList (filt wr (wk tree 9 0).2.2.1) → Are Value.int i4.toList (filt wr (wk tree 9 0).2.2.2) → @Ne Nat dn (L + 3) ∧ @Ne Nat up (L + 3) ∧ @Ne Nat ab (L + 3) ∧ @Ne Nat ud (L + 3) →
      wpAny (model PR w) (AL dp un fr gd L) (execs rest (lawEnv L)) (LawQ s) (fun _ _ => False) { s with heap := h', toks := tk' }) :
    wpAny (model PR w) (AL dp un fr gd L) (execs (st 5 :: rest) (lawEnv L)) (LawQ s) (fun _ _ => False) { s with heap := h, toks := tk } := by
  w_on
  show wpAny _ _ (execs (Stmt.Assign [Expr.Tuple _ _ _] _ _ :: rest) _) _ _ _
  refine wpAny_execs_cons ?_
  refine Assign_Tuple ?_
  walk_at "my comp"
  walk_at "my steps"
  have hle := bok.le
  have hxs : ∀ x ∈ tree, 0 ≤ x := fun x hx => (bok.bound x hx).1
  dsimp only at hle
  have hc : cnt tree 0 < 9 := Nat.lt_of_le_of_lt (List.length_filter_le _ _) (by omega)
  refine Con.use (walks_con Tn its tree a1 (by omega) hxs bok.nd 9 0 _ (by omega) hc) F N X T rfl (rd hd (show (9 + 1) ≤ 18 by decide)) (ru hu (show (20 * 9 + 20) ≤ 500 by decide)) (N.isList (by k_mem)) ?_
  intro v9 h9 tk9 F9 N9 k9 r9
  obtain ⟨tp, d1, d2, d3, d4, j1, j2, j3, j4, f0, f1, f2, f3, f4, rfl, c0, o0, ⟨c1, o1'⟩, ⟨c2, o2'⟩, ⟨c3, o3'⟩, ⟨c4, o4'⟩, b1, b2, b3, b4⟩ := r9
  have N10 : News s.heap L h9 [(tp, tupO #[.ref d1, .ref d2, .ref d3, .ref d4] f0), (d1, PySem.W.listOf j1 f1), (d2, PySem.W.listOf j2 f2), (d3, PySem.W.listOf j3 f3), (d4, PySem.W.listOf j4 f4), (Wn, PySem.W.listOf ws e2), (L + 3, o3), (L + 2, o2)] :=
    news_add F (news_add F (news_add F (news_add F (news_add F (fun p hp => N9 p (mem_of hp (by walk_at "my sub"))) c4 o4') c3 o3') c2 o2') c1 o1') c0 o0
  clear N9 N F
  have a2' := a2
  walk_at "my steps"
  have hItems : ∀ (i : Nat) v, (#[Value.ref d1, .ref d2, .ref d3, .ref d4] : Array Value)[i]? = some v → ∃ d j f ms, v = .ref d ∧ (d, PySem.W.listOf j f) ∈ [(tp, tupO #[.ref d1, .ref d2, .ref d3, .ref d4] f0), (d1, PySem.W.listOf j1 f1), (d2, PySem.W.listOf j2 f2), (d3, PySem.W.listOf j3 f3), (d4, PySem.W.listOf j4 f4), (Wn, PySem.W.listOf ws e2), (L + 3, o3), (L + 2, o2)] ∧
      (wl4 (wk tree 9 0))[i]? = some ms ∧ Are Value.int j.toList ms ∧ ms.length ≤ 9 := by
    have hL1 := wk_len hxs bok.nd 9 (n := 0) (by omega)
    intro i v hv
    rcases i with _ | _ | _ | _ | i
    · exact ⟨d1, j1, f1, _, (Option.some.inj hv).symm, by k_mem, rfl, b1, by omega⟩
    · exact ⟨d2, j2, f2, _, (Option.some.inj hv).symm, by k_mem, rfl, b2, by omega⟩
    · exact ⟨d3, j3, f3, _, (Option.some.inj hv).symm, by k_mem, rfl, b3, by omega⟩
    · exact ⟨d4, j4, f4, _, (Option.some.inj hv).symm, by k_mem, rfl, b4, by omega⟩
    · simp at hv
  refine lc_tuple (pl4 wr (wl4 (wk tree 9 0))) rfl ⟨_, (N10 _ (List.mem_cons_self ..)).1, rfl, _, rfl⟩ (by rw [sizeLine_eq]; simp) ⟨[], rfl, rfl, rfl, fun j l h => by simp at h⟩ (fun i ys news hI => by obtain ⟨ls, h1, rfl, _⟩ := hI; rw [List.length_map, h1]; omega) ?_ ?_
  · intro B C i v ys news s₃ m₃ E' hC hB hi hP hI F3 N3 hx
    obtain ⟨d, j, f, ms, rfl, hdm, hms, hAj, hml⟩ := hItems i v hP
    have hB0 : ∀ b o, s.heap.get? b = some o → B.get? b = some o := fun b o e => hB b o (F9.keep b o e)
    have X3 : (Mine.hd.heap_39 w.params).In B := X.keeps hB0
    have T3 := T.keeps hB0
    have hcell : B.IsCell (L + 2) (some (.ref Wn)) := ⟨o2, hB _ _ (N10 (L + 2, o2) (by k_mem)).1, h2⟩
    have hW : B.IsList Wn ws := ⟨_, hB _ _ (N10 (Wn, PySem.W.listOf ws e2) (by k_mem)).1, rfl, _, rfl⟩
    have hD : B.IsList d j := ⟨_, hB _ _ (N10 _ hdm).1, rfl, _, rfl⟩
    refine wpAny_tests_nil ?_
    simp only [if_true]
    walk_at "my comp"
    walk_at "my steps"
    refine lc_list (ax := d) (items := j) (fun k ys news => news = [] ∧ Are Value.int ys (filt wr (ms.take k))) rfl (F3.lst hD) (by rw [← Array.length_toList, hAj.length, sizeLine_eq]; omega) ⟨rfl, .nil⟩ (fun i ys news hI => by rw [hI.2.length]; exact Nat.le_trans (List.length_filter_le _ _) (by rw [List.length_take]; omega)) ?_ ?_
    · intro B6 C6 k v6 ys6 news6 s₆ m₆ E6 hC6 hB6 hi6 hP6 hI6 F6 N6 hx6
      obtain ⟨x, u, hx', rfl⟩ := hAj.get (i := k) (v := v6) (by simpa using hP6)
      obtain ⟨rfl, hAy⟩ := hI6
      have hB60 : ∀ b o, B.get? b = some o → B6.get? b = some o := fun b o e => hB6 b o (F3.keep b o e)
      have X6 : (Mine.hd.heap_39 w.params).In B6 := X3.keeps hB60
      have T6 := T3.keeps hB60
      have hcell6 : B6.IsCell (L + 2) (some (.ref Wn)) := hcell.keeps hB60
      have hW6 : B6.IsList Wn ws := hW.at fun o e => hB60 _ o e
      refine wpAny_tests_one ?_
      walk_at "my steps"
      · exact CEnd.pure F6 ⟨rfl, filt_end hAy hx' true (by simp; assumption)⟩
      · exact CEnd.pure F6 ⟨rfl, filt_end (u := u) hAy hx' false (by simp; assumption)⟩
    · intro D h' tk ys6 news6 hDs hD' hpl hN hI6 hk
      obtain ⟨rfl, hAy⟩ := hI6
      obtain ⟨nD, eD⟩ := hpl
      obtain ⟨ls, g1, rfl, rfl, g2⟩ := hI
      have N5 := news_add F3 (N3.grown hk) hD' eD
      have hjm : j.size = ms.length := by rw [← Array.length_toList, hAj.length]
      rw [hjm, List.take_of_length_le (Nat.le_refl _)] at hAy
      refine CEnd.intro (news' := (ls ++ [(D, ys6.toArray, nD)]).map fun l : Ls => (l.1, PySem.W.listOf l.2.1 l.2.2)) (F3.keeps hk) (fun p hp => N5 p (by
        rw [List.map_append, List.mem_append] at hp
        rcases hp with hp | hp
        · exact List.mem_cons_of_mem _ hp
        · rw [List.mem_singleton.mp hp]; exact List.mem_cons_self ..)) (fun p hp => ?_) ⟨ls ++ [(D, ys6.toArray, nD)], by rw [List.length_append, g1]; rfl, by rw [List.map_append]; rfl, rfl, fun q l hq => ?_⟩
      · rw [List.map_append, List.mem_append] at hp
        rcases hp with hp | hp
        · exact hC.2 p hp
        · rw [List.mem_singleton.mp hp]
          exact Nat.lt_of_lt_of_le F3.ns.lt hDs
      · rw [List.getElem?_append] at hq
        split at hq
        · exact g2 q l hq
        · rename_i hql
          have : q = i := by
            have := (List.getElem?_eq_some_iff.mp hq).1
            simp at this; omega
          subst this
          rw [g1, Nat.sub_self] at hq
          rw [← Option.some.inj hq]
          exact ⟨ms, hms, hAy⟩
  · intro D h' tk ys news hDs hD hpl hN hI hk
    obtain ⟨ls, g1, rfl, rfl, g2⟩ := hI
    obtain ⟨⟨dn, i1, q1⟩, ⟨up, i2, q2⟩, ⟨ab, i3, q3⟩, ⟨ud, i4, q4⟩, rfl⟩ : ∃ l1 l2 l3 l4, ls = [l1, l2, l3, l4] := by
      rcases ls with _ | ⟨a, _ | ⟨b, _ | ⟨c, _ | ⟨d, _ | ⟨e, l⟩⟩⟩⟩⟩
      all_goals first | exact ⟨a, b, c, d, rfl⟩ | (exfalso; simp at g1)
    obtain ⟨_, r1, p1⟩ := g2 0 _ rfl
    obtain ⟨_, r2, p2⟩ := g2 1 _ rfl
    obtain ⟨_, r3, p3⟩ := g2 2 _ rfl
    obtain ⟨_, r4, p4⟩ := g2 3 _ rfl
    cases r1; cases r2; cases r3; cases r4
    obtain ⟨nD, eD⟩ := hpl
    have z1 := hN (dn, PySem.W.listOf i1 q1) (by k_mem)
    have z2 := hN (up, PySem.W.listOf i2 q2) (by k_mem)
    have z3 := hN (ab, PySem.W.listOf i3 q3) (by k_mem)
    have z4 := hN (ud, PySem.W.listOf i4 q4) (by k_mem)
    have N11 : News s.heap L h' [(D, PySem.W.listOf #[.ref dn, .ref up, .ref ab, .ref ud] nD), (dn, PySem.W.listOf i1 q1), (up, PySem.W.listOf i2 q2), (ab, PySem.W.listOf i3 q3), (ud, PySem.W.listOf i4 q4), (Wn, PySem.W.listOf ws e2), (L + 3, o3), (L + 2, o2)] :=
      news_add F9 (news_add F9 (news_add F9 (news_add F9 (news_add F9 (fun p hp => N10.grown hk p (mem_of hp (by walk_at "my sub"))) z4.2.1 z4.1) z3.2.1 z3.1) z2.2.1 z2.1) z1.2.1 z1.1) hD eD
    have F11 := F9.keeps hk
    have hc3 := (N10 (L + 3, o3) (by k_mem)).1
    have y1 : @Ne Nat dn (L + 3) := fresh_ne z1.2.1 hc3
    have y2 : @Ne Nat up (L + 3) := fresh_ne z2.2.1 hc3
    have y3 : @Ne Nat ab (L + 3) := fresh_ne z3.2.1 hc3
    have y4 : @Ne Nat ud (L + 3) := fresh_ne z4.2.1 hc3
    clear N10 F9
    walk_at "my steps"
    rename Fr _ _ _ _ => F12
    rename News _ _ _ _ => N12
    dsimp only
    refine next dn up ab ud i1 i2 i3 i4 q1 q2 q3 q4 _ _ _ F12 (fun p hp => N12 p (List.mem_cons_of_mem _ hp)) m2 rfl rfl rfl rfl p1 p2 p3 p4 ⟨y1, y2, y3, y4⟩
-- L5
local macro_rules | `(tactic| k_mem) => `(tactic| assumption)
local macro_rules | `(tactic| k_all) => `(tactic| assumption)
local macro_rules | `(tactic| walk_at "call ref") => `(tactic| (k_here; k_dflt (refine' Con1.use (int2ap_con _ _) ?k1 ?k2 ?k3 ?k4 ?k5 ?k6 ?k7 ?k8 ?_; walk_at "my use1")))
local macro_rules | `(tactic| walk_at "call ref") => `(tactic| (k_here; k_dflt (refine' Con1.use (text_con _ _) ?k1 ?k2 ?k3 ?k4 ?k5 ?k6 ?k7 ?k8 ?_; walk_at "my use1")))
local macro_rules | `(tactic| walk_at "call ref") => `(tactic| (k_here; k_dflt (refine' Con1.use (shown_con _ _) ?k1 ?k2 ?k3 ?k4 ?k5 ?k6 ?k7 ?k8 ?_; walk_at "my use1")))
def scW (x fn : String) : Scope := { kind := ScopeKind.function, names := [(Str.ofString ".0", NameKind.local), (Str.ofString x, NameKind.local), (Str.ofString fn, NameKind.globalImplicit)], isGenerator := false, isCoroutine := false }
theorem lcs_text {w : World} {mg mb : Str → Option Value} {s : Shared} {L ax : Addr} {items : Array Value} {bs : List (Array UInt8)} {dp un : Nat} {fr : Option (List Env)} {gd : Option (List Code)} {h : Heap} {tk : Nat} {m : Str → Option Value} {news : List (Addr × Obj)} {p1 p2 p3 : Pos} {Q : Value → Shared → Prop} {E : Value → Shared → Prop}
    (X : (Mine.hd.heap_39 w.params).In s.heap) (T : TopRead Mine.hd.view_39 (looseW Mine.hd.view_39 []) mg mb s.heap) (hd : dp + 20 < recursionLimit) (hu : un + 600 < cLine)
    (F : Fr s.heap L h m) (N : News s.heap L h news) (hl : h.IsList ax items) (hB : ByAre items.toList bs) (hb : ∀ b ∈ bs, b.size ≤ 1000) (hn : bs.length ≤ 1000)
    (next : ∀ (D : Addr) (ys : Array Value) (nD : Nat) (h' : Heap) (tk' : Nat), Fr s.heap L h' m → News s.heap L h' ((D, PySem.W.listOf ys nD) :: news) → (∀ p ∈ news, p.1 < D) → Are Value.str ys.toList (bs.map fun b => sL (bN b)) → Q (.ref D) { s with heap := h', toks := tk' }) :
    wpAny (model PR w) (AL dp un fr gd L) (pyIter (.ref ax)) (LcSrc PR w (AL dp un fr gd L) (lawEnv L) (scW "word" "_law_text") [] (Str.ofString "word") [] (.Call (.Name (Str.ofString "_law_text") p1) [.Name (Str.ofString "word") p2] [] p3) Q) E { s with heap := h, toks := tk } := by
  w_on
  have hsz : items.size = bs.length := by rw [← Array.length_toList, hB.length]
  refine lc_list (fun i ys news => news = [] ∧ Are Value.str ys ((bs.take i).map fun b => sL (bN b))) rfl hl (by rw [hsz, sizeLine_eq]; omega) ⟨rfl, .nil⟩ (fun i ys news hI => by rw [hI.2.length, List.length_map, List.length_take]; omega) ?_ ?_
  · intro B C i v ys news s₃ m₃ E' hC hB' hi hP hI F3 N3 hx
    obtain ⟨b, u, hb', rfl⟩ := hB.get (i := i) (v := v) (by simpa using hP)
    obtain ⟨rfl, hA⟩ := hI
    have hB0 : ∀ b o, s.heap.get? b = some o → B.get? b = some o := fun b o e => hB' b o (F.keep b o e)
    have X3 : (Mine.hd.heap_39 w.params).In B := X.keeps hB0
    have T3 := T.keeps hB0
    have hbz := hb b (List.mem_of_getElem? hb')
    unfold scW
    refine wpAny_tests_nil ?_
    simp only [if_true]
    walk_at "my steps"
    rename Fr B _ _ _ => F4
    refine CEnd.pure F4 ⟨rfl, ?_⟩
    rw [take_succ_map hb']
    exact hA.snoc
  · intro D h' tk ys news' hDs hD hpl hN hI hk
    obtain ⟨rfl, hA⟩ := hI
    obtain ⟨nD, eD⟩ := hpl
    rw [hsz, List.take_of_length_le (Nat.le_refl _)] at hA
    exact next D ys.toArray nD h' tk (F.keeps hk) (news_add F (N.grown hk) hD eD) (fun p hp => Nat.lt_of_lt_of_le (Heap.lt_size (N p hp).1) hDs) hA
theorem lcs_shown {w : World} {mg mb : Str → Option Value} {s : Shared} {L ax : Addr} {items : Array Value} {bs : List (Array UInt8)} {dp un : Nat} {fr : Option (List Env)} {gd : Option (List Code)} {h : Heap} {tk : Nat} {m : Str → Option Value} {news : List (Addr × Obj)} {p1 p2 p3 : Pos} {Q : Value → Shared → Prop} {E : Value → Shared → Prop}
    (X : (Mine.hd.heap_39 w.params).In s.heap) (T : TopRead Mine.hd.view_39 (looseW Mine.hd.view_39 []) mg mb s.heap) (hd : dp + 20 < recursionLimit) (hu : un + 600 < cLine)
    (F : Fr s.heap L h m) (N : News s.heap L h news) (hl : h.IsList ax items) (hB : ByAre items.toList bs) (hb : ∀ b ∈ bs, b.size ≤ 1000) (hn : bs.length ≤ 1000)
    (next : ∀ (D : Addr) (ys : Array Value) (nD : Nat) (h' : Heap) (tk' : Nat), Fr s.heap L h' m → News s.heap L h' ((D, PySem.W.listOf ys nD) :: news) → (∀ p ∈ news, p.1 < D) → Are Value.str ys.toList (bs.map fun b => sL ((bN b).flatMap unL)) → Q (.ref D) { s with heap := h', toks := tk' }) :
    wpAny (model PR w) (AL dp un fr gd L) (pyIter (.ref ax)) (LcSrc PR w (AL dp un fr gd L) (lawEnv L) (scW "word" "_law_shown") [] (Str.ofString "word") [] (.Call (.Name (Str.ofString "_law_shown") p1) [.Name (Str.ofString "word") p2] [] p3) Q) E { s with heap := h, toks := tk } := by
  w_on
  have hsz : items.size = bs.length := by rw [← Array.length_toList, hB.length]
  refine lc_list (fun i ys news => news = [] ∧ Are Value.str ys ((bs.take i).map fun b => sL ((bN b).flatMap unL))) rfl hl (by rw [hsz, sizeLine_eq]; omega) ⟨rfl, .nil⟩ (fun i ys news hI => by rw [hI.2.length, List.length_map, List.length_take]; omega) ?_ ?_
  · intro B C i v ys news s₃ m₃ E' hC hB' hi hP hI F3 N3 hx
    obtain ⟨b, u, hb', rfl⟩ := hB.get (i := i) (v := v) (by simpa using hP)
    obtain ⟨rfl, hA⟩ := hI
    have hB0 : ∀ b o, s.heap.get? b = some o → B.get? b = some o := fun b o e => hB' b o (F.keep b o e)
    have X3 : (Mine.hd.heap_39 w.params).In B := X.keeps hB0
    have T3 := T.keeps hB0
    have hbz := hb b (List.mem_of_getElem? hb')
    unfold scW
    refine wpAny_tests_nil ?_
    simp only [if_true]
    walk_at "my steps"
    rename Fr B _ _ _ => F4
    refine CEnd.pure F4 ⟨rfl, ?_⟩
    rw [take_succ_map hb', show (b.toList.flatMap fun c => unL c.toNat) = (bN b).flatMap unL by unfold bN; rw [List.flatMap_map]]
    exact hA.snoc
  · intro D h' tk ys news' hDs hD hpl hN hI hk
    obtain ⟨rfl, hA⟩ := hI
    obtain ⟨nD, eD⟩ := hpl
    rw [hsz, List.take_of_length_le (Nat.le_refl _)] at hA
    exact next D ys.toArray nD h' tk (F.keeps hk) (news_add F (N.grown hk) hD eD) (fun p hp => Nat.lt_of_lt_of_le (Heap.lt_size (N p hp).1) hDs) hA
-- L6
def RowOk (tl : List (Addr × Obj)) (v : Value) : Prop := ∃ tp a b ia ib e ea eb ss ts, v = .ref tp ∧ (tp, tupO #[.ref a, .ref b] e) ∈ tl ∧ (a, PySem.W.listOf ia ea) ∈ tl ∧ (b, PySem.W.listOf ib eb) ∈ tl ∧
  Are Value.str ia.toList ss ∧ Are Value.str ib.toList ts ∧ ss.length < 64 ∧ RowGood ss ts ∧ ∀ t ∈ ts, PyData.strOk t = true
theorem RowOk.mono {tl tl' : List (Addr × Obj)} {v : Value} (h : RowOk tl v) (hs : ∀ p ∈ tl, p ∈ tl') : RowOk tl' v := by
  obtain ⟨tp, a, b, ia, ib, e, ea, eb, ss, ts, h1, h2, h3, h4, h5⟩ := h
  exact ⟨tp, a, b, ia, ib, e, ea, eb, ss, ts, h1, hs _ h2, hs _ h3, hs _ h4, h5⟩
theorem e_nil : Str.ofString "" = sL [] := by decide
theorem spelled_con' {w : World} {mg mb : Str → Option Value} (Wa : Addr) (items : Array Value) (xs : List Int) (al bl : List Nat) (st : Int) (t1 t2 t3 : Tok) {a2 b2 : Str} (ha : a2 = sL al) (hb : b2 = sL bl) : Con w mg mb 75 [.ref Wa, .str a2 t1, .int st t2, .str b2 t3] 1 20
    (fun h => h.IsList Wa items ∧ Are Value.int items.toList xs ∧ xs.length ≤ 1000 ∧ (∀ x ∈ xs, 0 ≤ x ∧ x < 16 ^ 8) ∧ -64 ≤ st ∧ st ≤ 200 ∧ al.length ≤ 10 ∧ bl.length ≤ 10) (spR al st bl xs) := by
  subst ha hb
  exact spelled_con Wa items xs al bl st t1 t2 t3
theorem words_len {x : Int} (h : x < 16 ^ 7) : (byteArr (wd x)).size ≤ 1000 := by
  have := wd_len h
  unfold byteArr
  rw [List.size_toArray, List.length_map]; omega
theorem seg4 {w : World} {mg mb : Str → Option Value} {s : Shared} {L Wn dn up ab ud : Addr} {i1 i2 i3 i4 ws : Array Value} {tree wr : List Int} {tm : Tok} {mark : Int} {e2 f1 f2 f3 f4 : Nat} {dp un : Nat} {fr : Option (List Env)} {gd : Option (List Code)} {h : Heap} {tk : Nat} {o2 o3 : Obj} {rest : List Stmt} {m : Str → Option Value}
    (X : (Mine.hd.heap_39 w.params).In s.heap) (T : TopRead Mine.hd.view_39 (looseW Mine.hd.view_39 []) mg mb s.heap) (hd : dp + 20 < recursionLimit) (hu : un + 600 < cLine)
    (F : Fr s.heap L h m) (N : News s.heap L h [(dn, PySem.W.listOf i1 f1), (up, PySem.W.listOf i2 f2), (ab, PySem.W.listOf i3 f3), (ud, PySem.W.listOf i4 f4), (Wn, PySem.W.listOf ws e2), (L + 3, o3), (L + 2, o2)])
    (m1 : m (Str.ofString "mark") = some (.int mark tm)) (m2 : m (Str.ofString "down") = some (.ref dn)) (m3 : m (Str.ofString "up") = some (.ref up)) (m4 : m (Str.ofString "above") = some (.ref ab)) (m5 : m (Str.ofString "under") = some (.ref ud))
    (h2 : o2.data = .cell (some (.ref Wn))) (a2 : Are Value.int ws.toList wr) (bok : BOk 7 (tree, wr))
    (p1 : Are Value.int i1.toList (filt wr (wk tree 9 0).1)) (hy : @Ne Nat dn (L + 3) ∧ @Ne Nat up (L + 3) ∧ @Ne Nat ab (L + 3) ∧ @Ne Nat ud (L + 3))
    (next : ∀ (R Wd : Addr) (rs wds : Array Value) (er ew : Nat) (tl : List (Addr × Obj)) (m' : Str → Option Value) (h' : Heap) (tk' : Nat), Fr s.heap L h' m' →
      News s.heap L h' ((R, PySem.W.listOf rs er) :: (L + 3, o3) :: tl) → (∀ p ∈ tl, p.1 ≠ R) → (∀ p ∈ tl, p.1 ≠ L + 3) → @Ne Nat R (L + 3) → (dn, PySem.W.listOf i1 f1) ∈ tl → (up, PySem.W.listOf i2 f2) ∈ tl → (ab, PySem.W.listOf i3 f3) ∈ tl → (ud, PySem.W.listOf i4 f4) ∈ tl →
      (Wd, PySem.W.listOf wds ew) ∈ tl → ByAre wds.toList (wordsOf wr) → rs.size = 1 → (∀ v ∈ rs.toList, RowOk tl v) →
      m' (Str.ofString "mark") = some (.int mark tm) → m' (Str.ofString "down") = some (.ref dn) → m' (Str.ofString "up") = some (.ref up) → m' (Str.ofString "above") = some (.ref ab) → m' (Str.ofString "under") = some (.ref ud) →
      m' (Str.ofString "words") = some (.ref Wd) → m' (Str.ofString "rows") = some (.ref R) →
      wpAny (model PR w) (AL dp un fr gd L) (execs rest (lawEnv L)) (LawQ s) (fun _ _ => False) { s with heap := h', toks := tk' }) :
    wpAny (model PR w) (AL dp un fr gd L) (execs (st 6 :: st 7 :: rest) (lawEnv L)) (LawQ s) (fun _ _ => False) { s with heap := h, toks := tk } := by
  w_on
  show wpAny _ _ (execs (Stmt.Assign [Expr.Name _ _] _ _ :: Stmt.Assign [Expr.Name _ _] _ _ :: rest) _) _ _ _
  have hwl := bok_wlen bok
  have hws : ws.size = wr.length := by rw [← Array.length_toList, a2.length]
  refine wpAny_execs_cons ?_
  (k_dflt (refine' lc_assign ?cza ?czb ?czc ?czd ?cze ?czf ?czg ?czh ?_; (case cza => with_unfolding_all rfl); (case czb => with_unfolding_all rfl); (case czc => decide); (case czd => rfl); (case cze => decide); (case czf => rfl); (case czg => rfl); (case czh => rfl)))
  walk_at "my steps"
  refine lc_listA (fun i ys news => news = [] ∧ ByAre ys ((wr.take i).map fun x => byteArr (wd x))) rfl (N.isList (by k_mem)) (by rw [hws, sizeLine_eq]; omega) F.ns ⟨rfl, .nil⟩ (fun i ys news hI => by rw [hI.2.length, List.length_map, List.length_take]; omega) ?_ ?_
  · intro B C i v ys news s₃ m₃ E' hC hB' hi hP hI F3 N3 hx
    obtain ⟨x, u, hx', rfl⟩ := a2.get (i := i) (v := v) (by simpa using hP)
    obtain ⟨rfl, hA⟩ := hI
    have hB0 : ∀ b o, s.heap.get? b = some o → B.get? b = some o := fun b o e => hB' b o (F.keep b o e)
    have X3 : (Mine.hd.heap_39 w.params).In B := X.keeps hB0
    have T3 := T.keeps hB0
    have hxb : 0 ≤ x ∧ x < 16 ^ 8 := by have := bok_in bok x (List.mem_of_getElem? hx'); exact ⟨by have := this.pos; omega, by have := this.lt; omega⟩
    refine wpAny_tests_nil ?_
    simp only [if_true]
    walk_at "my steps"
    rename Fr B _ _ _ => F4
    refine CEnd.pure F4 ⟨rfl, ?_⟩
    rw [take_succ_map hx']
    exact hA.snoc
  · intro D h' tk ys news hDs hD hpl hN hI hns hk
    obtain ⟨rfl, hA⟩ := hI
    obtain ⟨nD, eD⟩ := hpl
    rw [hws, List.take_of_length_le (Nat.le_refl _)] at hA
    have hkL : ∀ b o, b ≠ L → h.get? b = some o → h'.get? b = some o := hk
    have F9 : Fr s.heap L h' (fun z => if z = Str.ofString "words" then some (.ref D) else m z) := ⟨hns, fun b o e => hkL b o (fun hb => by subst hb; exact absurd (Heap.lt_size e) (Nat.not_lt.mpr F.above)) (F.keep b o e), F.above⟩
    have N9 : News s.heap L h' ((D, PySem.W.listOf ys.toArray nD) :: [(dn, PySem.W.listOf i1 f1), (up, PySem.W.listOf i2 f2), (ab, PySem.W.listOf i3 f3), (ud, PySem.W.listOf i4 f4), (L + 3, o3)]) := by
      refine news_add F (fun p hp => ?_) hD eD
      have hp' := N p (mem_of hp (by walk_at "my sub"))
      exact ⟨hkL _ _ hp'.2.1 hp'.1, hp'.2.1, hp'.2.2⟩
    have yD : @Ne Nat D (L + 3) := fresh_ne hD (N (L + 3, o3) (by k_mem)).1
    clear N F
    walk_at "my steps"
    walk_at "my comp"
    walk_at "my steps"
    refine lcs_text X T hd hu F9 N9 (N9.isList (by k_mem)) hA (fun b hb => by
      obtain ⟨x, hx, rfl⟩ := List.mem_map.mp hb
      exact words_len (bok_in bok x hx).lt) (by rw [List.length_map]; omega) ?_
    intro Ra ys2 n2 h10 tk10 F10 N10 l10 A10
    k_lt l10
    clear F9 N9
    walk_at "my steps"
    refine Con.use (spelled_con' dn i1 _ [] [] 0 _ _ _ e_nil e_nil) F10 N10 X T rfl (rd hd (show 1 ≤ 18 by decide)) (ru hu (show 20 ≤ 500 by decide)) ⟨N10.isList (by k_mem), p1, by have := (filt_lens bok).1; omega, fun x hx => by have := filt_in bok x hx; exact ⟨by have := this.pos; omega, by have := this.lt; omega⟩, by decide, by decide, by decide, by decide⟩ ?_
    intro v11 h11 tk11 F11 N11' k11 r11
    obtain ⟨Rb, ys3, rfl, c0, ⟨n3, e3⟩, b3⟩ := r11
    have N11 := news_add F10 N11' c0 e3
    have yB : @Ne Nat Rb (L + 3) := fresh_ne c0 (N10 (L + 3, o3) (by k_mem)).1
    clear F10 N10 N11'
    walk_at "my steps"
    rename Fr _ _ _ _ => F12
    rename News _ _ _ _ => N12
    rename_i Tp g2 la R g3 lb g4
    have hrow := row_words bok
    refine next R D #[.ref Tp] ys.toArray 0 nD [(Tp, tupO #[.ref Ra, .ref Rb] 0), (Rb, PySem.W.listOf ys3 n3), (Ra, PySem.W.listOf ys2 n2), (D, PySem.W.listOf ys.toArray nD), (dn, PySem.W.listOf i1 f1), (up, PySem.W.listOf i2 f2), (ab, PySem.W.listOf i3 f3), (ud, PySem.W.listOf i4 f4)] _ g4 _ F12 (fun p hp => N12 p ?_) (by k_all) (by k_all) (by k_ne) (by simp) (by simp) (by simp) (by simp) (by simp) hA rfl ?_ m1 m2 m3 m4 m5 rfl rfl
    · exact mem_of hp (by walk_at "my sub")
    · intro v hv
      rw [List.mem_singleton.mp hv]
      exact ⟨Tp, Ra, Rb, ys2, ys3, 0, n2, n3, _, _, rfl, by k_mem, by k_mem, by k_mem, A10, b3, by rw [List.length_map, List.length_map]; omega, hrow, spell_ok (by simp) (by simp) (by decide) _⟩
-- L7
def bodyOf : Stmt → List Stmt
  | .For _ _ b _ _ => b
  | _ => []
noncomputable def sb (i : Nat) : Stmt := ((bodyOf (st 8))[i]?).getD (.Pass ⟨0, 0, 0, 0⟩)
theorem allLt_mem {d : Nat} : ∀ {l : List (Addr × Obj)}, AllLt d l → ∀ p ∈ l, @LT.lt Nat _ p.1 d
  | [], _, _, h => nomatch h
  | q :: r, h, p, hp => by
    rcases List.mem_cons.mp hp with rfl | hp
    · exact h.1
    · exact allLt_mem h.2 p hp
abbrev RowNext (w : World) (dp un : Nat) (fr : Option (List Env)) (gd : Option (List Code)) (L R : Addr) (s : Shared) (m : Str → Option Value) (rs : Array Value) (er : Nat) (tl : List (Addr × Obj)) (K : Sem Flow) (Q : Flow → Shared → Prop) (E : Value → Shared → Prop) : Prop :=
  ∀ (tp a b : Addr) (ia ib : Array Value) (ea eb : Nat) (h' : Heap) (tk' : Nat), Fr s.heap L h' m → News s.heap L h' ((R, PySem.W.listOf (rs.push (.ref tp)) (er + 1)) :: (tp, tupO #[.ref a, .ref b] 0) :: (b, PySem.W.listOf ib eb) :: (a, PySem.W.listOf ia ea) :: tl) →
    (∀ q ∈ (R, PySem.W.listOf rs er) :: tl, @Ne Nat tp q.1 ∧ @Ne Nat a q.1 ∧ @Ne Nat b q.1) → RowOk [(tp, tupO #[.ref a, .ref b] 0), (b, PySem.W.listOf ib eb), (a, PySem.W.listOf ia ea)] (.ref tp) → wpAny (model PR w) (AL dp un fr gd L) K Q E { s with heap := h', toks := tk' }
theorem tl_ne {R : Addr} {o : Obj} {tl : List (Addr × Obj)} {a b c : Addr} (h1 : ∀ q ∈ (R, o) :: tl, @LT.lt Nat _ q.1 a) (h2 : ∀ q ∈ (R, o) :: tl, @Ne Nat b q.1) (h3 : ∀ q ∈ (R, o) :: tl, @LT.lt Nat _ q.1 c) : ∀ q ∈ (R, o) :: tl, @Ne Nat c q.1 ∧ @Ne Nat a q.1 ∧ @Ne Nat b q.1 :=
  fun q hq => ⟨by have := h3 q hq; omega, by have := h1 q hq; omega, h2 q hq⟩
theorem row_end {w : World} {dp un : Nat} {fr : Option (List Env)} {gd : Option (List Code)} {L R : Addr} {s : Shared} {m : Str → Option Value} {rs : Array Value} {er : Nat} {tl : List (Addr × Obj)} {K : Sem Flow} {Q : Flow → Shared → Prop} {E : Value → Shared → Prop}
    (next : RowNext w dp un fr gd L R s m rs er tl K Q E) {tp a b : Addr} {ia ib : Array Value} {ea eb : Nat} {h' : Heap} {tk' : Nat} {ss ts : List Str} (F : Fr s.heap L h' m)
    (N : News s.heap L h' ((tp, tupO #[.ref a, .ref b] 0) :: (b, PySem.W.listOf ib eb) :: (a, PySem.W.listOf ia ea) :: (R, PySem.W.listOf (rs.push (.ref tp)) (er + 1)) :: tl))
    (q1 : ∀ q ∈ (R, PySem.W.listOf rs er) :: tl, @LT.lt Nat _ q.1 a) (q2 : ∀ q ∈ (R, PySem.W.listOf rs er) :: tl, @Ne Nat b q.1) (q3 : @LT.lt Nat _ b tp ∧ @LT.lt Nat _ a tp ∧ @LT.lt Nat _ R tp ∧ AllLt tp tl)
    (A : Are Value.str ia.toList ss) (B : Are Value.str ib.toList ts) (hl : ss.length < 64) (hr : RowGood ss ts) (hok : ∀ t ∈ ts, PyData.strOk t = true) : wpAny (model PR w) (AL dp un fr gd L) K Q E { s with heap := h', toks := tk' } := by
  have q4 : ∀ q ∈ (R, PySem.W.listOf rs er) :: tl, @LT.lt Nat _ q.1 tp := by
    intro q hq
    rcases List.mem_cons.mp hq with rfl | hq
    · exact q3.2.2.1
    · exact allLt_mem q3.2.2.2 q hq
  refine next tp a b ia ib ea eb h' tk' F (fun p hp => N p ?_) (tl_ne q1 q2 q4) ⟨tp, a, b, ia, ib, 0, ea, eb, ss, ts, rfl, by k_mem, by k_mem, by k_mem, A, B, hl, hr, hok⟩
  exact mem_of hp (by walk_at "my sub")
theorem mark_len {x g : Int} (h : x < 16 ^ 7) : (byteArr (wd x ++ [g])).size ≤ 1000 := by
  have := wd_len h
  unfold byteArr
  rw [List.size_toArray, List.length_map, List.length_append, List.length_singleton]; omega
theorem rowB2 {w : World} {mg mb : Str → Option Value} {s : Shared} {L R Mk dn up : Addr} {i1 i2 mks rs : Array Value} {tree wr : List Int} {told : Int} {tt : Tok} {er em f1 f2 : Nat} {dp un : Nat} {fr : Option (List Env)} {gd : Option (List Code)} {h : Heap} {tk : Nat} {tl : List (Addr × Obj)} {rest : List Stmt} {m : Str → Option Value} {Q : Flow → Shared → Prop} {E : Value → Shared → Prop}
    (X : (Mine.hd.heap_39 w.params).In s.heap) (T : TopRead Mine.hd.view_39 (looseW Mine.hd.view_39 []) mg mb s.heap) (hd : dp + 20 < recursionLimit) (hu : un + 600 < cLine)
    (F : Fr s.heap L h m) (N : News s.heap L h ((R, PySem.W.listOf rs er) :: tl)) (hR : ∀ p ∈ tl, p.1 ≠ R) (hrn : rs.size ≤ 50) (hdn : (dn, PySem.W.listOf i1 f1) ∈ tl) (hup : (up, PySem.W.listOf i2 f2) ∈ tl) (hMk : (Mk, PySem.W.listOf mks em) ∈ tl)
    (mR : m (Str.ofString "rows") = some (.ref R)) (m1 : m (Str.ofString "down") = some (.ref dn)) (m2 : m (Str.ofString "up") = some (.ref up)) (m3 : m (Str.ofString "marked") = some (.ref Mk)) (m4 : m (Str.ofString "told") = some (.int told tt))
    (p1 : Are Value.int i1.toList (filt wr (wk tree 9 0).1)) (p2 : Are Value.int i2.toList (filt wr (wk tree 9 0).2.1)) (bok : BOk 7 (tree, wr)) (hB : ByAre mks.toList (markedOf wr told)) (h0 : 0 ≤ told) (h1 : told < 256) (hto : told < 65 ∨ 80 < told)
    (next : RowNext w dp un fr gd L R s m rs er tl (execs rest (lawEnv L)) Q E) :
    wpAny (model PR w) (AL dp un fr gd L) (execs (sb 2 :: rest) (lawEnv L)) Q E { s with heap := h, toks := tk } := by
  w_on
  show wpAny _ _ (execs (Stmt.Expr _ _ :: rest) _) _ _ _
  walk_at "my steps"
  walk_at "my comp"
  walk_at "my steps"
  have hwl := bok_wlen bok
  refine lcs_text X T hd hu F N (N.isList (List.mem_cons_of_mem _ hMk)) hB (fun b hb => by
      obtain ⟨x, hx, rfl⟩ := List.mem_map.mp hb
      exact mark_len (bok_in bok x hx).lt) (by rw [List.length_map]; omega) ?_
  intro Ra ys2 n2 h10 tk10 F10 N10 l10 A10
  have q10 := l10
  k_lt l10
  clear F N
  have hfl := filt_lens bok
  have hss := text_marked (wr := wr) h0 h1
  walk_at "my steps"
  · rename (told < 65) => hb
    have hRow := row_down (g := told) (suf := [told.toNat]) bok hss (fun c r e => by cases e; omega)
    refine Con.use (spelled_con' dn i1 _ [] [told.toNat] 0 _ _ _ e_nil rfl) F10 N10 X T rfl (rd hd (show 1 ≤ 18 by decide)) (ru hu (show 20 ≤ 500 by decide)) ⟨N10.isList (by k_mem), p1, by omega, fun x hx => by have := filt_in bok x hx; exact ⟨by have := this.pos; omega, by have := this.lt; omega⟩, by decide, by decide, by simp, by simp⟩ ?_
    intro v11 h11 tk11 F11 N11' k11 r11
    obtain ⟨Rb, ys3, rfl, c0, ⟨n3, e3⟩, b3⟩ := r11
    have N11 := news_add F10 N11' c0 e3
    have q11 : ∀ q ∈ (R, PySem.W.listOf rs er) :: tl, @Ne Nat Rb q.1 := fun q hq => fresh_ne c0 (N10 q (List.mem_cons_of_mem _ hq)).1
    have yB : @Ne Nat Rb R := q11 _ (List.mem_cons_self ..)
    clear F10 N10 N11'
    walk_at "my steps"
    rename Fr _ _ _ _ => F12
    rename News _ _ _ _ => N12
    rename_i tp g2 lt g3
    exact row_end next F12 N12 q10 q11 lt A10 b3 (by rw [List.length_map, List.length_map]; omega) hRow (spell_ok (by simp) (fun c hc => by rw [List.mem_singleton.mp hc]; omega) (by decide) _)
  · rename (¬ told < 65) => hb
    have hRow := row_up (g := told) (suf := [told.toNat]) bok hss ⟨_, _, rfl, by omega⟩
    refine Con.use (spelled_con' up i2 _ [] [told.toNat] 0 _ _ _ e_nil rfl) F10 N10 X T rfl (rd hd (show 1 ≤ 18 by decide)) (ru hu (show 20 ≤ 500 by decide)) ⟨N10.isList (by k_mem), p2, by omega, fun x hx => by have := filt_in bok x hx; exact ⟨by have := this.pos; omega, by have := this.lt; omega⟩, by decide, by decide, by simp, by simp⟩ ?_
    intro v11 h11 tk11 F11 N11' k11 r11
    obtain ⟨Rb, ys3, rfl, c0, ⟨n3, e3⟩, b3⟩ := r11
    have N11 := news_add F10 N11' c0 e3
    have q11 : ∀ q ∈ (R, PySem.W.listOf rs er) :: tl, @Ne Nat Rb q.1 := fun q hq => fresh_ne c0 (N10 q (List.mem_cons_of_mem _ hq)).1
    have yB : @Ne Nat Rb R := q11 _ (List.mem_cons_self ..)
    clear F10 N10 N11'
    walk_at "my steps"
    rename Fr _ _ _ _ => F12
    rename News _ _ _ _ => N12
    rename_i tp g2 lt g3
    exact row_end next F12 N12 q10 q11 lt A10 b3 (by rw [List.length_map, List.length_map]; omega) hRow (spell_ok (by simp) (fun c hc => by rw [List.mem_singleton.mp hc]; omega) (by decide) _)
theorem lt_cps : ∀ a b : List Nat, a < b ↔ PySem.Spec.ltCps a b = true
  | [], [] => by simp [PySem.Spec.ltCps]
  | [], _ :: _ => by simp [PySem.Spec.ltCps]
  | _ :: _, [] => by simp [PySem.Spec.ltCps]
  | x :: r, y :: t => by
    rw [List.cons_lt_cons_iff, lt_cps r t]
    simp [PySem.Spec.ltCps]
theorem str_lt_A (l : List Nat) : (sL l).cps.toList < (Str.ofString "A").cps.toList ↔ PySem.Spec.ltCps l [65] = true := by
  have : (Str.ofString "A").cps.toList = [65] := by decide
  rw [lt_cps, this]; simp [sL]
theorem unL_short {g : Int} (h0 : 0 ≤ g) (h1 : g < 256) : (unL g.toNat).length ≤ 10 := Nat.le_trans (unL_len ⟨g.toNat, by omega⟩) (by decide)
theorem rowB3 {w : World} {mg mb : Str → Option Value} {s : Shared} {L R Mk dn up : Addr} {i1 i2 mks rs : Array Value} {tree wr : List Int} {told : Int} {ts : Tok} {er em f1 f2 : Nat} {dp un : Nat} {fr : Option (List Env)} {gd : Option (List Code)} {h : Heap} {tk : Nat} {tl : List (Addr × Obj)} {rest : List Stmt} {m : Str → Option Value} {Q : Flow → Shared → Prop} {E : Value → Shared → Prop}
    (X : (Mine.hd.heap_39 w.params).In s.heap) (T : TopRead Mine.hd.view_39 (looseW Mine.hd.view_39 []) mg mb s.heap) (hd : dp + 20 < recursionLimit) (hu : un + 600 < cLine)
    (F : Fr s.heap L h m) (N : News s.heap L h ((R, PySem.W.listOf rs er) :: tl)) (hR : ∀ p ∈ tl, p.1 ≠ R) (hrn : rs.size ≤ 50) (hdn : (dn, PySem.W.listOf i1 f1) ∈ tl) (hup : (up, PySem.W.listOf i2 f2) ∈ tl) (hMk : (Mk, PySem.W.listOf mks em) ∈ tl)
    (mR : m (Str.ofString "rows") = some (.ref R)) (m1 : m (Str.ofString "down") = some (.ref dn)) (m2 : m (Str.ofString "up") = some (.ref up)) (m3 : m (Str.ofString "marked") = some (.ref Mk)) (m4 : m (Str.ofString "sign") = some (.str (sL (unL told.toNat)) ts))
    (p1 : Are Value.int i1.toList (filt wr (wk tree 9 0).1)) (p2 : Are Value.int i2.toList (filt wr (wk tree 9 0).2.1)) (bok : BOk 7 (tree, wr)) (hB : ByAre mks.toList (markedOf wr told)) (h0 : 0 ≤ told) (h1 : told < 256) (hto : told < 65 ∨ 80 < told)
    (next : RowNext w dp un fr gd L R s m rs er tl (execs rest (lawEnv L)) Q E) :
    wpAny (model PR w) (AL dp un fr gd L) (execs (sb 3 :: rest) (lawEnv L)) Q E { s with heap := h, toks := tk } := by
  w_on
  show wpAny _ _ (execs (Stmt.Expr _ _ :: rest) _) _ _ _
  walk_at "my steps"
  walk_at "my comp"
  walk_at "my steps"
  have hwl := bok_wlen bok
  refine lcs_shown X T hd hu F N (N.isList (List.mem_cons_of_mem _ hMk)) hB (fun b hb => by
      obtain ⟨x, hx, rfl⟩ := List.mem_map.mp hb
      exact mark_len (bok_in bok x hx).lt) (by rw [List.length_map]; omega) ?_
  intro Ra ys2 n2 h10 tk10 F10 N10 l10 A10
  have q10 := l10
  k_lt l10
  clear F N
  have hfl := filt_lens bok
  have hss := shown_marked (wr := wr) h0 h1
  have hsl := sign_lt h0 h1 hto
  have hun := unL_short h0 h1
  walk_at "my steps"
  · rename_i hb
    rw [str_lt_A] at hb
    have hRow := row_down (g := told) (suf := unL told.toNat) bok hss (hsl.1 hb)
    refine Con.use (spelled_con' dn i1 _ [] (unL told.toNat) 0 _ _ _ e_nil rfl) F10 N10 X T rfl (rd hd (show 1 ≤ 18 by decide)) (ru hu (show 20 ≤ 500 by decide)) ⟨N10.isList (by k_mem), p1, by omega, fun x hx => by have := filt_in bok x hx; exact ⟨by have := this.pos; omega, by have := this.lt; omega⟩, by decide, by decide, by simp, hun⟩ ?_
    intro v11 h11 tk11 F11 N11' k11 r11
    obtain ⟨Rb, ys3, rfl, c0, ⟨n3, e3⟩, b3⟩ := r11
    have N11 := news_add F10 N11' c0 e3
    have q11 : ∀ q ∈ (R, PySem.W.listOf rs er) :: tl, @Ne Nat Rb q.1 := fun q hq => fresh_ne c0 (N10 q (List.mem_cons_of_mem _ hq)).1
    have yB : @Ne Nat Rb R := q11 _ (List.mem_cons_self ..)
    clear F10 N10 N11'
    walk_at "my steps"
    rename Fr _ _ _ _ => F12
    rename News _ _ _ _ => N12
    rename_i tp g2 lt g3
    exact row_end next F12 N12 q10 q11 lt A10 b3 (by rw [List.length_map, List.length_map]; omega) hRow (spell_ok (by simp) (unL_lts h0 h1) (by decide) _)
  · rename_i hb
    rw [str_lt_A] at hb
    have hRow := row_up (g := told) (suf := unL told.toNat) bok hss (hsl.2 (by simpa using hb))
    refine Con.use (spelled_con' up i2 _ [] (unL told.toNat) 0 _ _ _ e_nil rfl) F10 N10 X T rfl (rd hd (show 1 ≤ 18 by decide)) (ru hu (show 20 ≤ 500 by decide)) ⟨N10.isList (by k_mem), p2, by omega, fun x hx => by have := filt_in bok x hx; exact ⟨by have := this.pos; omega, by have := this.lt; omega⟩, by decide, by decide, by simp, hun⟩ ?_
    intro v11 h11 tk11 F11 N11' k11 r11
    obtain ⟨Rb, ys3, rfl, c0, ⟨n3, e3⟩, b3⟩ := r11
    have N11 := news_add F10 N11' c0 e3
    have q11 : ∀ q ∈ (R, PySem.W.listOf rs er) :: tl, @Ne Nat Rb q.1 := fun q hq => fresh_ne c0 (N10 q (List.mem_cons_of_mem _ hq)).1
    have yB : @Ne Nat Rb R := q11 _ (List.mem_cons_self ..)
    clear F10 N10 N11'
    walk_at "my steps"
    rename Fr _ _ _ _ => F12
    rename News _ _ _ _ => N12
    rename_i tp g2 lt g3
    exact row_end next F12 N12 q10 q11 lt A10 b3 (by rw [List.length_map, List.length_map]; omega) hRow (spell_ok (by simp) (unL_lts h0 h1) (by decide) _)
-- L8
local macro_rules | `(tactic| walk_at "call ref") => `(tactic| (k_here; k_dflt (refine' Con1.use (alt_con _ _) ?k1 ?k2 ?k3 ?k4 ?k5 ?k6 ?k7 ?k8 ?_; walk_at "my use1")))
local macro_rules | `(tactic| walk_at "call ref") => `(tactic| (k_here; k_dflt (refine' Con1.use (sign_con _ _) ?k1 ?k2 ?k3 ?k4 ?k5 ?k6 ?k7 ?k8 ?_; walk_at "my use1")))
structure MF (m : Str → Option Value) (R Wd dn up ab ud : Addr) : Prop where
  rows : m (Str.ofString "rows") = some (.ref R)
  words : m (Str.ofString "words") = some (.ref Wd)
  down : m (Str.ofString "down") = some (.ref dn)
  up : m (Str.ofString "up") = some (.ref up)
  above : m (Str.ofString "above") = some (.ref ab)
  under : m (Str.ofString "under") = some (.ref ud)
structure RSt (L R : Addr) (sub : List (Addr × Obj)) (rs : Array Value) (tl : List (Addr × Obj)) (n : Nat) : Prop where
  hR : ∀ p ∈ tl, p.1 ≠ R
  hG : ∀ p ∈ tl, p.1 ≠ L + 3
  hs : ∀ p ∈ sub, p ∈ tl
  hr : ∀ v ∈ rs.toList, RowOk tl v
  hn : rs.size ≤ n
theorem bodyAB {w : World} {mg mb : Str → Option Value} {s : Shared} {L Wd : Addr} {wds : Array Value} {tree wr : List Int} {told : Int} {tt tg : Tok} {ew : Nat} {dp un : Nat} {fr : Option (List Env)} {gd : Option (List Code)} {h : Heap} {tk : Nat} {o4 : Obj} {lg : List (Addr × Obj)} {rest : List Stmt} {m : Str → Option Value} {Q : Flow → Shared → Prop} {E : Value → Shared → Prop}
    (X : (Mine.hd.heap_39 w.params).In s.heap) (T : TopRead Mine.hd.view_39 (looseW Mine.hd.view_39 []) mg mb s.heap) (hd : dp + 20 < recursionLimit) (hu : un + 600 < cLine)
    (F : Fr s.heap L h m) (N : News s.heap L h lg) (hc : (L + 3, o4) ∈ lg) (d4 : o4.data = .cell (some (.int told tg))) (hWd : (Wd, PySem.W.listOf wds ew) ∈ lg) (m1 : m (Str.ofString "told") = some (.int told tt)) (mw : m (Str.ofString "words") = some (.ref Wd))
    (hB : ByAre wds.toList (wordsOf wr)) (bok : BOk 7 (tree, wr)) (h0 : 0 ≤ told) (h1 : told < 256)
    (next : ∀ (D : Addr) (ys : Array Value) (nD : Nat) (ts : Tok) (h' : Heap) (tk' : Nat), Fr s.heap L h' (fun z => if z = Str.ofString "marked" then some (.ref D) else if z = Str.ofString "sign" then some (.str (sL (unL told.toNat)) ts) else m z) → News s.heap L h' ((D, PySem.W.listOf ys nD) :: lg) → (∀ p ∈ lg, @Ne Nat D p.1) → ByAre ys.toList (markedOf wr told) →
      wpAny (model PR w) (AL dp un fr gd L) (execs rest (lawEnv L)) Q E { s with heap := h', toks := tk' }) :
    wpAny (model PR w) (AL dp un fr gd L) (execs (sb 0 :: sb 1 :: rest) (lawEnv L)) Q E { s with heap := h, toks := tk } := by
  w_on
  show wpAny _ _ (execs (Stmt.Assign [Expr.Name _ _] _ _ :: Stmt.Assign [Expr.Name _ _] _ _ :: rest) _) _ _ _
  have hg : 0 ≤ told ∧ told < 256 := ⟨h0, h1⟩
  walk_at "my steps"
  rename Fr _ _ _ _ => F4
  rename News _ _ _ _ => N4
  simp only [sign_eq h0 h1] at F4
  have hwl := bok_wlen bok
  have hwz : wds.size = wr.length := by rw [← Array.length_toList, hB.length, List.length_map]
  (k_dflt (refine' lc_assign ?cza ?czb ?czc ?czd ?cze ?czf ?czg ?czh ?_; (case cza => with_unfolding_all rfl); (case czb => with_unfolding_all rfl); (case czc => decide); (case czd => rfl); (case cze => decide); (case czf => rfl); (case czg => rfl); (case czh => rfl)))
  walk_at "my steps"
  refine lc_listA (fun i ys news => news = [] ∧ ByAre ys ((wr.take i).map fun x => byteArr (wd x ++ [told]))) rfl (N4.isList hWd) (by rw [hwz, sizeLine_eq]; omega) F4.ns ⟨rfl, .nil⟩ (fun i ys news hI => by rw [hI.2.length, List.length_map, List.length_take]; omega) ?_ ?_
  · intro B C j v ys news s₃ m₃ E6 hC hB' hj hP hI F5 N5 hx
    obtain ⟨b, u, hb', rfl⟩ := hB.get (i := j) (v := v) (by simpa using hP)
    obtain ⟨rfl, hA⟩ := hI
    obtain ⟨x, hx', rfl⟩ : ∃ x, wr[j]? = some x ∧ b = byteArr (wd x) := by
      rw [List.getElem?_map] at hb'
      cases e : wr[j]? with
      | none => rw [e] at hb'; cases hb'
      | some x => rw [e] at hb'; exact ⟨x, rfl, (Option.some.inj hb').symm⟩
    have hB0 : ∀ b o, s.heap.get? b = some o → B.get? b = some o := fun b o e => hB' b o (F4.keep b o e)
    have X3 : (Mine.hd.heap_39 w.params).In B := X.keeps hB0
    have T3 := T.keeps hB0
    have hcell : B.IsCell (L + 3) (some (.int told tg)) := ⟨o4, hB' _ _ (N4 (L + 3, o4) hc).1, d4⟩
    have hxl := (bok_in bok x (List.mem_of_getElem? hx')).lt
    have hbz := words_len hxl
    have hbi := bInts_byteArr (wd_ok x)
    refine wpAny_tests_nil ?_
    simp only [if_true]
    walk_at "my steps"
    rename Fr B _ _ _ => F6
    refine KBy.add_bytes (by simp; omega) fun t6 k6 => ?_
    rw [show byteArr (wd x) ++ #[told.toNat.toUInt8] = byteArr (wd x ++ [told]) by simp [byteArr]]
    have hA' : ByAre (ys ++ [.bytes (byteArr (wd x ++ [told])) t6]) ((wr.take (j + 1)).map fun x => byteArr (wd x ++ [told])) := by
      rw [take_succ_map hx']
      exact hA.snoc
    exact CEnd.pure F6 ⟨rfl, hA'⟩
  · intro D h' tk ys news hDs hD hpl hNw hI hns hk
    obtain ⟨rfl, hA⟩ := hI
    obtain ⟨nD, eD⟩ := hpl
    rw [hwz, List.take_of_length_le (Nat.le_refl _)] at hA
    have F9 : Fr s.heap L h' _ := ⟨hns, fun b o e => hk b o (fun hb => by subst hb; exact absurd (Heap.lt_size e) (Nat.not_lt.mpr F4.above)) (F4.keep b o e), F4.above⟩
    have hN4 : News s.heap L h' lg := fun p hp => by
      have hp' := N4 p hp
      exact ⟨hk _ _ hp'.2.1 hp'.1, hp'.2.1, hp'.2.2⟩
    exact next D ys.toArray nD _ h' tk F9 (news_add F4 hN4 hD eD) (fun p hp => fresh_ne hD (N4 p hp).1) hA
abbrev bodyTl (tp2 a2 b2 tp1 a1 b1 D : Addr) (ia2 ib2 ia1 ib1 ys : Array Value) (ea2 eb2 ea1 eb1 nD : Nat) : List (Addr × Obj) :=
  [(tp2, tupO #[.ref a2, .ref b2] 0), (b2, PySem.W.listOf ib2 eb2), (a2, PySem.W.listOf ia2 ea2), (tp1, tupO #[.ref a1, .ref b1] 0), (b1, PySem.W.listOf ib1 eb1), (a1, PySem.W.listOf ia1 ea1), (D, PySem.W.listOf ys nD)]
theorem bodyAll {w : World} {mg mb : Str → Option Value} {s : Shared} {L R Wd dn up ab ud : Addr} {i1 i2 rs wds : Array Value} {tree wr : List Int} {told : Int} {tt tg : Tok} {er ew f1 f2 : Nat} {dp un : Nat} {fr : Option (List Env)} {gd : Option (List Code)} {h : Heap} {tk : Nat} {o4 : Obj} {lg : List (Addr × Obj)} {m : Str → Option Value} {Q : Flow → Shared → Prop} {E : Value → Shared → Prop}
    (X : (Mine.hd.heap_39 w.params).In s.heap) (T : TopRead Mine.hd.view_39 (looseW Mine.hd.view_39 []) mg mb s.heap) (hd : dp + 20 < recursionLimit) (hu : un + 600 < cLine)
    (F : Fr s.heap L h m) (N : News s.heap L h ((R, PySem.W.listOf rs er) :: lg)) (hR : ∀ p ∈ lg, p.1 ≠ R) (hrn : rs.size ≤ 40) (hc : (L + 3, o4) ∈ lg) (d4 : o4.data = .cell (some (.int told tg))) (hWd : (Wd, PySem.W.listOf wds ew) ∈ lg) (hdn : (dn, PySem.W.listOf i1 f1) ∈ lg) (hup : (up, PySem.W.listOf i2 f2) ∈ lg)
    (m1 : m (Str.ofString "told") = some (.int told tt)) (M : MF m R Wd dn up ab ud)
    (hB : ByAre wds.toList (wordsOf wr)) (bok : BOk 7 (tree, wr)) (p1 : Are Value.int i1.toList (filt wr (wk tree 9 0).1)) (p2 : Are Value.int i2.toList (filt wr (wk tree 9 0).2.1)) (h0 : 0 ≤ told) (h1 : told < 256) (hto : told < 65 ∨ 80 < told)
    (next : ∀ (tp2 a2 b2 tp1 a1 b1 D : Addr) (ia2 ib2 ia1 ib1 ys : Array Value) (ea2 eb2 ea1 eb1 nD : Nat) (m' : Str → Option Value) (h' : Heap) (tk' : Nat), Fr s.heap L h' m' →
      News s.heap L h' ((R, PySem.W.listOf ((rs.push (.ref tp1)).push (.ref tp2)) (er + 1 + 1)) :: (bodyTl tp2 a2 b2 tp1 a1 b1 D ia2 ib2 ia1 ib1 ys ea2 eb2 ea1 eb1 nD ++ lg)) →
      (∀ q ∈ (R, PySem.W.listOf rs er) :: lg, ∀ p ∈ bodyTl tp2 a2 b2 tp1 a1 b1 D ia2 ib2 ia1 ib1 ys ea2 eb2 ea1 eb1 nD, p.1 ≠ q.1) →
      RowOk (bodyTl tp2 a2 b2 tp1 a1 b1 D ia2 ib2 ia1 ib1 ys ea2 eb2 ea1 eb1 nD) (.ref tp1) → RowOk (bodyTl tp2 a2 b2 tp1 a1 b1 D ia2 ib2 ia1 ib1 ys ea2 eb2 ea1 eb1 nD) (.ref tp2) → MF m' R Wd dn up ab ud →
      Q .next { s with heap := h', toks := tk' }) :
    wpAny (model PR w) (AL dp un fr gd L) (execs [sb 0, sb 1, sb 2, sb 3] (lawEnv L)) Q E { s with heap := h, toks := tk } := by
  refine bodyAB (s := s) (rest := [sb 2, sb 3]) (lg := (R, PySem.W.listOf rs er) :: lg) X T hd hu F N (List.mem_cons_of_mem _ hc) d4 (List.mem_cons_of_mem _ hWd) m1 M.words hB bok h0 h1 ?_
  intro D ys nD ts h6 tk6 F6 N6 ne6 hA
  have yDR : @Ne Nat D R := ne6 _ (List.mem_cons_self ..)
  have hR6 : ∀ p ∈ (D, PySem.W.listOf ys nD) :: lg, p.1 ≠ R := fun p hp => by
    rcases List.mem_cons.mp hp with rfl | hp
    · exact yDR
    · exact hR p hp
  have N6' : News s.heap L h6 ((R, PySem.W.listOf rs er) :: (D, PySem.W.listOf ys nD) :: lg) := fun p hp => N6 p (mem_of hp (by walk_at "my sub"))
  refine rowB2 (s := s) (rest := [sb 3]) (tl := (D, PySem.W.listOf ys nD) :: lg) X T hd hu F6 N6' hR6 (by omega) (List.mem_cons_of_mem _ hdn) (List.mem_cons_of_mem _ hup) (List.mem_cons_self ..) M.rows M.down M.up rfl m1 p1 p2 bok hA h0 h1 hto ?_
  intro tp1 a1 b1 ia1 ib1 ea1 eb1 h7 tk7 F7 N7 ne7 ok7
  have n7 := ne7 _ (List.mem_cons_self ..)
  have hR7 : ∀ p ∈ (tp1, tupO #[.ref a1, .ref b1] 0) :: (b1, PySem.W.listOf ib1 eb1) :: (a1, PySem.W.listOf ia1 ea1) :: (D, PySem.W.listOf ys nD) :: lg, p.1 ≠ R := fun p hp => by
    rcases List.mem_cons.mp hp with rfl | hp
    · exact n7.1
    rcases List.mem_cons.mp hp with rfl | hp
    · exact n7.2.2
    rcases List.mem_cons.mp hp with rfl | hp
    · exact n7.2.1
    · exact hR6 p hp
  refine rowB3 (s := s) (rest := []) (tl := (tp1, tupO #[.ref a1, .ref b1] 0) :: (b1, PySem.W.listOf ib1 eb1) :: (a1, PySem.W.listOf ia1 ea1) :: (D, PySem.W.listOf ys nD) :: lg) X T hd hu F7 N7 hR7 (by rw [Array.size_push]; omega)
    (List.mem_cons_of_mem _ (List.mem_cons_of_mem _ (List.mem_cons_of_mem _ (List.mem_cons_of_mem _ hdn)))) (List.mem_cons_of_mem _ (List.mem_cons_of_mem _ (List.mem_cons_of_mem _ (List.mem_cons_of_mem _ hup)))) (List.mem_cons_of_mem _ (List.mem_cons_of_mem _ (List.mem_cons_of_mem _ (List.mem_cons_self ..)))) M.rows M.down M.up rfl rfl p1 p2 bok hA h0 h1 hto ?_
  intro tp2 a2 b2 ia2 ib2 ea2 eb2 h8 tk8 F8 N8 ne8 ok8
  refine wpAny_execs_nil ?_
  refine next tp2 a2 b2 tp1 a1 b1 D ia2 ib2 ia1 ib1 ys ea2 eb2 ea1 eb1 nD _ h8 tk8 F8 N8 ?_ (ok7.mono ?_) (ok8.mono ?_) ⟨M.rows, M.words, M.down, M.up, M.above, M.under⟩
  · intro q hq p hp
    have e6 := ne6 q hq
    have hq7 : ∃ q', q' ∈ (R, PySem.W.listOf rs er) :: (D, PySem.W.listOf ys nD) :: lg ∧ q'.1 = q.1 := by
      rcases List.mem_cons.mp hq with rfl | hq
      · exact ⟨_, List.mem_cons_self .., rfl⟩
      · exact ⟨q, by simp [hq], rfl⟩
    have hq8 : ∃ q', q' ∈ (R, PySem.W.listOf (rs.push (.ref tp1)) (er + 1)) :: (tp1, tupO #[.ref a1, .ref b1] 0) :: (b1, PySem.W.listOf ib1 eb1) :: (a1, PySem.W.listOf ia1 ea1) :: (D, PySem.W.listOf ys nD) :: lg ∧ q'.1 = q.1 := by
      rcases List.mem_cons.mp hq with rfl | hq
      · exact ⟨_, List.mem_cons_self .., rfl⟩
      · exact ⟨q, by simp [hq], rfl⟩
    obtain ⟨q', hq', e'⟩ := hq7
    obtain ⟨q'', hq'', e''⟩ := hq8
    have e7 := ne7 q' hq'
    have e8 := ne8 q'' hq''
    rw [e'] at e7
    rw [e''] at e8
    simp only [bodyTl, List.mem_cons, List.not_mem_nil, or_false] at hp
    rcases hp with h | h | h | h | h | h | h <;> rw [h]
    · exact e8.1
    · exact e8.2.2
    · exact e8.2.1
    · exact e7.1
    · exact e7.2.2
    · exact e7.2.1
    · exact e6
  · intro p hp
    exact mem_of hp (by walk_at "my sub")
  · intro p hp
    exact mem_of hp (by walk_at "my sub")
-- L9
local macro_rules | `(tactic| walk_at "call ref") => `(tactic| (k_here; k_dflt (refine' Con1.use (ctrl_con _ _) ?k1 ?k2 ?k3 ?k4 ?k5 ?k6 ?k7 ?k8 ?_; walk_at "my use1")))
local macro_rules | `(tactic| walk_at "my guard2") => `(tactic| ((fail_if_success (with_reducible show wpAny _ _ (execs (_ :: _) _) _ _ _)); walk_at "my guard"))
local macro_rules | `(tactic| walk_at "my steps2") => `(tactic| (repeat' (first | (walk_at "my guard2"; walk1) | (dsimp only; walk_at "my guard2"; walk1))))
theorem seg5 {w : World} {mg mb : Str → Option Value} {s : Shared} {L R Wd dn up ab ud : Addr} {i1 i2 i3 i4 rs wds : Array Value} {tree wr : List Int} {tm : Tok} {mark : Int} {er ew f1 f2 f3 f4 : Nat} {dp un : Nat} {fr : Option (List Env)} {gd : Option (List Code)} {h : Heap} {tk : Nat} {o3 : Obj} {tl : List (Addr × Obj)} {rest : List Stmt} {m : Str → Option Value}
    (X : (Mine.hd.heap_39 w.params).In s.heap) (T : TopRead Mine.hd.view_39 (looseW Mine.hd.view_39 []) mg mb s.heap) (hd : dp + 20 < recursionLimit) (hu : un + 600 < cLine)
    (F : Fr s.heap L h m) (N : News s.heap L h ((R, PySem.W.listOf rs er) :: (L + 3, o3) :: tl)) (hRG : @Ne Nat R (L + 3)) (h3 : o3.data = .cell none)
    (S : RSt L R [(dn, PySem.W.listOf i1 f1), (up, PySem.W.listOf i2 f2), (ab, PySem.W.listOf i3 f3), (ud, PySem.W.listOf i4 f4), (Wd, PySem.W.listOf wds ew)] rs tl 1) (M : MF m R Wd dn up ab ud) (mm : m (Str.ofString "mark") = some (.int mark tm))
    (hB : ByAre wds.toList (wordsOf wr)) (bok : BOk 7 (tree, wr)) (p1 : Are Value.int i1.toList (filt wr (wk tree 9 0).1)) (p2 : Are Value.int i2.toList (filt wr (wk tree 9 0).2.1)) (h0 : 0 ≤ mark) (h1 : mark < 256) (hto : mark < 65 ∨ 80 < mark)
    (next : ∀ (rs' : Array Value) (er' : Nat) (tl' : List (Addr × Obj)) (m' : Str → Option Value) (h' : Heap) (tk' : Nat), Fr s.heap L h' m' → News s.heap L h' ((R, PySem.W.listOf rs' er') :: tl') →
      RSt L R [(dn, PySem.W.listOf i1 f1), (up, PySem.W.listOf i2 f2), (ab, PySem.W.listOf i3 f3), (ud, PySem.W.listOf i4 f4), (Wd, PySem.W.listOf wds ew)] rs' tl' 7 → MF m' R Wd dn up ab ud →
      wpAny (model PR w) (AL dp un fr gd L) (execs rest (lawEnv L)) (LawQ s) (fun _ _ => False) { s with heap := h', toks := tk' }) :
    wpAny (model PR w) (AL dp un fr gd L) (execs (st 8 :: rest) (lawEnv L)) (LawQ s) (fun _ _ => False) { s with heap := h, toks := tk } := by
  w_on
  show wpAny _ _ (execs (Stmt.For _ _ _ _ _ :: rest) _) _ _ _
  have hm : 0 ≤ mark ∧ mark < 256 := ⟨h0, h1⟩
  have hSR := S.hR
  have hSG := S.hG
  refine wpAny_execs_cons ?_
  refine wpAny_For ?_
  walk_at "my steps"
  have e32 : mark.fmod 32 = mark % 32 := Int.fmod_eq_emod_of_nonneg _ (by decide)
  have e128 : mark.fmod 128 = mark % 128 := Int.fmod_eq_emod_of_nonneg _ (by decide)
  rename Fr _ _ _ _ => F1
  rename News _ _ _ _ => N1
  simp only [e32, e128] at N1
  rename_i D1 g1 la1 t1 g2 tkx k1 D2 g3 la2 t2 g4 tky k2 D3 g5 la3 ax g6 la4
  obtain ⟨ta, tb, tc, td, te, tf, N1⟩ : ∃ ta tb tc td te tf, News s.heap L g6 ((ax, PySem.W.listOf #[.ref D1, .ref D2, .ref D3] 0) :: (D3, tupO #[.int (mark % 128 + 128) te, .int (mark % 128 + 128) tf] 0) :: (D2, tupO #[.int (mark % 32) tc, .int (mark % 32) td] 0) :: (D1, tupO #[.int mark ta, .int mark tb] 0) :: (R, PySem.W.listOf rs er) :: (L + 3, o3) :: tl) := ⟨_, _, _, _, _, _, N1⟩
  rename_i NX
  clear NX
  have hItems : ∀ (i : Nat) v, (#[Value.ref D1, .ref D2, .ref D3] : Array Value)[i]? = some v → ∃ Tu told tt tg, v = .ref Tu ∧ (Tu, tupO #[.int told tt, .int told tg] 0) ∈ [(D1, tupO #[.int mark ta, .int mark tb] 0), (D2, tupO #[.int (mark % 32) tc, .int (mark % 32) td] 0), (D3, tupO #[.int (mark % 128 + 128) te, .int (mark % 128 + 128) tf] 0), (dn, PySem.W.listOf i1 f1), (up, PySem.W.listOf i2 f2), (ab, PySem.W.listOf i3 f3), (ud, PySem.W.listOf i4 f4), (Wd, PySem.W.listOf wds ew)] ∧
      0 ≤ told ∧ told < 256 ∧ (told < 65 ∨ 80 < told) := by
    intro i v hv
    rcases i with _ | _ | _ | i
    · exact ⟨D1, mark, ta, tb, (Option.some.inj hv).symm, by k_mem, h0, h1, hto⟩
    · exact ⟨D2, mark % 32, tc, td, (Option.some.inj hv).symm, by k_mem, by omega, by omega, by omega⟩
    · exact ⟨D3, mark % 128 + 128, te, tf, (Option.some.inj hv).symm, by k_mem, by omega, by omega, by omega⟩
    · simp at hv
  generalize hsub : [(D1, tupO #[.int mark ta, .int mark tb] 0), (D2, tupO #[.int (mark % 32) tc, .int (mark % 32) td] 0), (D3, tupO #[.int (mark % 128 + 128) te, .int (mark % 128 + 128) tf] 0), (dn, PySem.W.listOf i1 f1), (up, PySem.W.listOf i2 f2), (ab, PySem.W.listOf i3 f3), (ud, PySem.W.listOf i4 f4), (Wd, PySem.W.listOf wds ew)] = sub at hItems
  have hsubm : ∀ p ∈ [(dn, PySem.W.listOf i1 f1), (up, PySem.W.listOf i2 f2), (ab, PySem.W.listOf i3 f3), (ud, PySem.W.listOf i4 f4), (Wd, PySem.W.listOf wds ew)], p ∈ sub := by
    subst hsub
    intro p hp
    exact List.mem_cons_of_mem _ (List.mem_cons_of_mem _ (List.mem_cons_of_mem _ hp))
  have S0 : RSt L R sub rs ((D3, tupO #[.int (mark % 128 + 128) te, .int (mark % 128 + 128) tf] 0) :: (D2, tupO #[.int (mark % 32) tc, .int (mark % 32) td] 0) :: (D1, tupO #[.int mark ta, .int mark tb] 0) :: tl) 1 := by
    refine ⟨by k_all, by k_all, ?_, fun v hv => (S.hr v hv).mono fun p hp => List.mem_cons_of_mem _ (List.mem_cons_of_mem _ (List.mem_cons_of_mem _ hp)), S.hn⟩
    subst hsub
    intro p hp
    rcases List.mem_cons.mp hp with rfl | hp
    · simp
    rcases List.mem_cons.mp hp with rfl | hp
    · simp
    rcases List.mem_cons.mp hp with rfl | hp
    · simp
    · exact List.mem_cons_of_mem _ (List.mem_cons_of_mem _ (List.mem_cons_of_mem _ (S.hs p hp)))
  have N2 : News s.heap L g6 ((ax, PySem.W.listOf #[.ref D1, .ref D2, .ref D3] 0) :: (R, PySem.W.listOf rs er) :: (L + 3, o3) :: (D3, tupO #[.int (mark % 128 + 128) te, .int (mark % 128 + 128) tf] 0) :: (D2, tupO #[.int (mark % 32) tc, .int (mark % 32) td] 0) :: (D1, tupO #[.int mark ta, .int mark tb] 0) :: tl) := fun p hp => N1 p (mem_of hp (by walk_at "my sub"))
  have yax : @LT.lt Nat _ R ax ∧ @LT.lt Nat _ (L + 3) ax := ⟨la4.2.2.2.1, la4.2.2.2.2.1⟩
  clear N1 la1 la2 la3 la4 k1 k2 hsub
  refine for_listT (fun i m news => ∃ rs er o3 v0 tl, news = (R, PySem.W.listOf rs er) :: (L + 3, o3) :: tl ∧ o3.data = .cell v0 ∧ RSt L R sub rs tl (1 + 2 * i) ∧ MF m R Wd dn up ab ud) rfl (fun i v hv => by obtain ⟨Tu, _, _, _, e, _⟩ := hItems i v hv; exact ⟨Tu, e⟩) F1 N2 ⟨rs, er, o3, none, _, rfl, h3, S0, M⟩ ?_ ?_
  · intro I hI i v m₁ news₁ oI h₁ tk₁ E' hi hP hJ hIn haI F2 N3
    clear hI
    obtain ⟨rs, er, o3, v0, tl, rfl, hc, S, M⟩ := hJ
    obtain ⟨Tu, told, tt, tg, rfl, hTm, h0, h1, hto⟩ := hItems i v hP
    have hSR := S.hR
    have hSG := S.hG
    have hTu := S.hs _ hTm
    have hWd := S.hs _ (hsubm (Wd, PySem.W.listOf wds ew) (by k_mem))
    have hdn := S.hs _ (hsubm (dn, PySem.W.listOf i1 f1) (by k_mem))
    have hup := S.hs _ (hsubm (up, PySem.W.listOf i2 f2) (by k_mem))
    have yR : @Ne Nat R I := hIn (R, PySem.W.listOf rs er) (by k_mem)
    have yG : @Ne Nat (L + 3) I := hIn (L + 3, o3) (by k_mem)
    have hSI : ∀ p ∈ tl, p.1 ≠ I := fun p hp => hIn p (List.mem_cons_of_mem _ (List.mem_cons_of_mem _ hp))
    have hrn := S.hn
    have hi3 : i < 3 := hi
    walk_at "my steps2"
    rename Fr _ _ _ _ => F4
    rename News _ _ _ _ => N4
    rename _ = Data.cell (some (Value.int told tg)) => d4
    rename Obj => o4
    refine tokAny ?_
    intro tk4
    dsimp only
    show wpAny _ _ (execs [sb 0, sb 1, sb 2, sb 3] _) _ _ _
    have N5 : News s.heap L _ ((R, PySem.W.listOf rs er) :: (I, oI) :: (ax, PySem.W.listOf #[.ref D1, .ref D2, .ref D3] 0) :: (L + 3, o4) :: tl) := fun p hp => N4 p (mem_of hp (by walk_at "my sub"))
    have hR5 : ∀ p ∈ (I, oI) :: (ax, PySem.W.listOf #[.ref D1, .ref D2, .ref D3] 0) :: (L + 3, o4) :: tl, p.1 ≠ R := by k_all
    have mem3 : ∀ p ∈ tl, p ∈ (I, oI) :: (ax, PySem.W.listOf #[.ref D1, .ref D2, .ref D3] 0) :: (L + 3, o4) :: tl := fun p hp => List.mem_cons_of_mem _ (List.mem_cons_of_mem _ (List.mem_cons_of_mem _ hp))
    refine bodyAll (s := s) (lg := (I, oI) :: (ax, PySem.W.listOf #[.ref D1, .ref D2, .ref D3] 0) :: (L + 3, o4) :: tl) X T hd hu F4 N5 hR5 (by omega) (List.mem_cons_of_mem _ (List.mem_cons_of_mem _ (List.mem_cons_self ..))) d4 (mem3 _ hWd) (mem3 _ hdn) (mem3 _ hup) rfl ⟨M.rows, M.words, M.down, M.up, M.above, M.under⟩ hB bok p1 p2 h0 h1 hto ?_
    intro tp2 a2 b2 tp1 a1 b1 D ia2 ib2 ia1 ib1 ys ea2 eb2 ea1 eb1 nD m' h' tk' F8 N8 ne ok1 ok2 M8
    have neR := ne _ (List.mem_cons_self ..)
    have neI := ne (I, oI) (by k_mem)
    have neG := ne (L + 3, o4) (by k_mem)
    generalize bodyTl tp2 a2 b2 tp1 a1 b1 D ia2 ib2 ia1 ib1 ys ea2 eb2 ea1 eb1 nD = bt at *
    have app : ∀ {x : Addr}, (∀ p ∈ bt, p.1 ≠ x) → (∀ p ∈ tl, p.1 ≠ x) → ∀ p ∈ bt ++ tl, p.1 ≠ x := fun h1 h2 p hp => (List.mem_append.mp hp).elim (h1 p) (h2 p)
    refine FEnd.intro ((R, PySem.W.listOf ((rs.push (.ref tp1)).push (.ref tp2)) (er + 1 + 1)) :: (L + 3, o4) :: (bt ++ tl)) F8 N8 (fun p hp => ?_) (fun p hp => ?_) ⟨_, _, o4, _, _, rfl, d4, ⟨app neR hSR, app neG hSG, fun p hp => List.mem_append_right _ (S.hs p hp), fun v hv => ?_, ?_⟩, M8⟩
    · simp only [List.mem_cons, List.cons_append, List.nil_append, List.mem_append] at hp ⊢
      rcases hp with h | h | h | h | h | h <;> simp [h]
    · rcases List.mem_cons.mp hp with rfl | hp
      · exact yR
      rcases List.mem_cons.mp hp with rfl | hp
      · exact yG
      · exact app neI hSI p hp
    · rw [Array.toList_push, Array.toList_push, List.mem_append, List.mem_append] at hv
      rcases hv with (hv | hv) | hv
      · exact (S.hr v hv).mono fun p hp => List.mem_append_right _ hp
      · rw [List.mem_singleton.mp hv]
        exact ok1.mono fun p hp => List.mem_append_left _ hp
      · rw [List.mem_singleton.mp hv]
        exact ok2.mono fun p hp => List.mem_append_left _ hp
    · rw [Array.size_push, Array.size_push]; omega
  · intro h₁ tk₁ m₁ news₁ F2 N3 hJ
    obtain ⟨rs, er, o3, v0, tl, rfl, hc, S, M⟩ := hJ
    exact next rs er tl m₁ h₁ tk₁ F2 (fun p hp => N3 p (by
      rcases List.mem_cons.mp hp with rfl | hp
      · simp
      · exact List.mem_cons_of_mem _ (List.mem_cons_of_mem _ (List.mem_cons_of_mem _ hp)))) ⟨S.hR, S.hG, fun p hp => S.hs p (hsubm p hp), S.hr, S.hn⟩ M
-- L10
theorem clip_last (n : Nat) : clipAt (n + 1) (-1) = n := by unfold clipAt; simp; omega
theorem seg6 {w : World} {mg mb : Str → Option Value} {s : Shared} {L Wd : Addr} {wds : Array Value} {tree wr : List Int} {ew : Nat} {dp un : Nat} {fr : Option (List Env)} {gd : Option (List Code)} {h : Heap} {tk : Nat} {lg : List (Addr × Obj)} {rest : List Stmt} {m : Str → Option Value} {Q : Flow → Shared → Prop} {E : Value → Shared → Prop}
    (X : (Mine.hd.heap_39 w.params).In s.heap) (T : TopRead Mine.hd.view_39 (looseW Mine.hd.view_39 []) mg mb s.heap) (hd : dp + 20 < recursionLimit) (hu : un + 600 < cLine)
    (F : Fr s.heap L h m) (N : News s.heap L h lg) (hWd : (Wd, PySem.W.listOf wds ew) ∈ lg) (mw : m (Str.ofString "words") = some (.ref Wd))
    (hB : ByAre wds.toList (wordsOf wr)) (bok : BOk 7 (tree, wr))
    (next : ∀ (D : Addr) (ys : Array Value) (nD : Nat) (bs : List (Array UInt8)) (h' : Heap) (tk' : Nat), Fr s.heap L h' (fun z => if z = Str.ofString "held" then some (.ref D) else m z) → News s.heap L h' ((D, PySem.W.listOf ys nD) :: lg) → (∀ p ∈ lg, @Ne Nat D p.1) → ByAre ys.toList bs → bs.Perm (wr.map heldB) → (bs.Pairwise fun a b => PySem.Spec.ltCps (bN b) (bN a) = false) →
      wpAny (model PR w) (AL dp un fr gd L) (execs rest (lawEnv L)) Q E { s with heap := h', toks := tk' }) :
    wpAny (model PR w) (AL dp un fr gd L) (execs (st 9 :: rest) (lawEnv L)) Q E { s with heap := h, toks := tk } := by
  w_on
  show wpAny _ _ (execs (Stmt.Assign [Expr.Name _ _] _ _ :: rest) _) _ _ _
  have hwl := bok_wlen bok
  have hwz : wds.size = wr.length := by rw [← Array.length_toList, hB.length, List.length_map]
  walk_at "my steps"
  walk_at "my comp"
  walk_at "my steps"
  refine lc_list (fun i ys news => news = [] ∧ ByAre ys ((wr.take i).map heldB)) rfl (N.isList hWd) (by rw [hwz, sizeLine_eq]; omega) ⟨rfl, .nil⟩ (fun i ys news hI => by rw [hI.2.length, List.length_map, List.length_take]; omega) ?_ ?_
  · intro B C j v ys news s₃ m₃ E6 hC hB' hj hP hI F5 N5 hx
    obtain ⟨b, u, hb', rfl⟩ := hB.get (i := j) (v := v) (by simpa using hP)
    obtain ⟨rfl, hA⟩ := hI
    obtain ⟨x, hx', rfl⟩ : ∃ x, wr[j]? = some x ∧ b = byteArr (wd x) := by
      rw [List.getElem?_map] at hb'
      cases e : wr[j]? with
      | none => rw [e] at hb'; cases hb'
      | some x => rw [e] at hb'; exact ⟨x, rfl, (Option.some.inj hb').symm⟩
    have hB0 : ∀ b o, s.heap.get? b = some o → B.get? b = some o := fun b o e => hB' b o (F.keep b o e)
    have X3 : (Mine.hd.heap_39 w.params).In B := X.keeps hB0
    have T3 := T.keeps hB0
    have hxp := (bok_in bok x (List.mem_of_getElem? hx')).pos
    have hxl := (bok_in bok x (List.mem_of_getElem? hx')).lt
    have hbi : KBw.bInts (byteArr (wd x)) = wd (x / 16) ++ [65 + x % 16] := by rw [bInts_byteArr (wd_ok x), wd_pos hxp]
    have hpl : (wd (x / 16)).length ≤ 7 := wd_len (by omega)
    generalize byteArr (wd x) = b at *
    have hhx : heldB x = byteArr (wd (x / 16) ++ [1 + x % 16]) := rfl
    have hc0 : 0 ≤ x % 16 ∧ x % 16 < 16 := by omega
    generalize wd (x / 16) = pre at *
    generalize x % 16 = c at *
    obtain ⟨ks, hks⟩ : ∃ ks, ks = pre ++ [65 + c] := ⟨_, rfl⟩
    rw [← hks] at hbi
    have hkl : ks.length = pre.length + 1 := by rw [hks]; simp
    have hgd : ks.getD (-1 + (ks.length : Int)).toNat 0 = 65 + c := by
      rw [show (-1 + (ks.length : Int)).toNat = pre.length by omega, hks]; simp
    have htk : ks.take (clipAt ks.length (-1)) = pre := by
      rw [hkl, clip_last, hks]; simp
    refine wpAny_tests_nil ?_
    simp only [if_true]
    walk_at "my steps"
    rename Fr B _ _ _ => F6
    rename (KBw.bInts (_ ++ _) = _) => hAp
    have e9 : (((((65 + c) % 32).toNat.toUInt8.toNat : Nat)) : Int) = 1 + c := by rw [u8 _ (by omega) (by omega)]; omega
    rw [htk, hgd] at hAp
    simp only [List.map_cons, List.map_nil, e9] at hAp
    rw [hgd, bytes_of_ints hAp]
    rename Tok => t6
    have hA' : ∀ t6, ByAre (ys ++ [.bytes (byteArr (pre ++ [1 + c])) t6]) ((wr.take (j + 1)).map heldB) := fun t6 => by
      rw [take_succ_map hx', hhx]
      exact hA.snoc
    exact CEnd.pure F6 ⟨rfl, hA' _⟩
  · intro D h' tk ys news hDs hD hpl hNw hI hk
    obtain ⟨rfl, hA⟩ := hI
    obtain ⟨nD, eD⟩ := hpl
    rw [hwz, List.take_of_length_le (Nat.le_refl _)] at hA
    have F9 := F.keeps hk
    have N9 := N.grown hk
    clear F N
    walk_at "my steps"
    refine sorted_N_by F9 N9 ⟨_, eD, rfl, _, rfl⟩ hA (by rw [hA.length, List.length_map]; omega) ?_
    intro h6 vs6 bs6 e6 F6 N6 hi6 hp6 hs6
    have hne : ∀ p ∈ lg, @Ne Nat (h'.objs.size + 1) p.1 := fun p hp => by
      have : @LT.lt Nat _ p.1 h'.objs.size := Heap.lt_size (N9 p hp).1
      omega
    clear F9 N9
    dsimp only at N6
    generalize h'.objs.size + 1 = nE at *
    walk_at "my steps"
    rename Fr _ _ _ _ => F12
    rename News _ _ _ _ => N12
    exact next nE vs6.toArray e6 bs6 _ _ F12 N12 hne hi6 hp6 hs6
theorem seg7 {w : World} {mg mb : Str → Option Value} {s : Shared} {L Wd : Addr} {wds : Array Value} {tree wr : List Int} {ew : Nat} {dp un : Nat} {fr : Option (List Env)} {gd : Option (List Code)} {h : Heap} {tk : Nat} {lg : List (Addr × Obj)} {rest : List Stmt} {m : Str → Option Value} {Q : Flow → Shared → Prop} {E : Value → Shared → Prop}
    (X : (Mine.hd.heap_39 w.params).In s.heap) (T : TopRead Mine.hd.view_39 (looseW Mine.hd.view_39 []) mg mb s.heap) (hd : dp + 20 < recursionLimit) (hu : un + 600 < cLine)
    (F : Fr s.heap L h m) (N : News s.heap L h lg) (hWd : (Wd, PySem.W.listOf wds ew) ∈ lg) (mw : m (Str.ofString "words") = some (.ref Wd))
    (hB : ByAre wds.toList (wordsOf wr)) (bok : BOk 7 (tree, wr))
    (next : ∀ (D : Addr) (ys : Array Value) (nD : Nat) (bs : List (Array UInt8)) (h' : Heap) (tk' : Nat), Fr s.heap L h' (fun z => if z = Str.ofString "high" then some (.ref D) else m z) → News s.heap L h' ((D, PySem.W.listOf ys nD) :: lg) → (∀ p ∈ lg, @Ne Nat D p.1) → ByAre ys.toList bs → bs.Perm (wr.map highB) → (bs.Pairwise fun a b => PySem.Spec.ltCps (bN b) (bN a) = false) →
      wpAny (model PR w) (AL dp un fr gd L) (execs rest (lawEnv L)) Q E { s with heap := h', toks := tk' }) :
    wpAny (model PR w) (AL dp un fr gd L) (execs (st 10 :: rest) (lawEnv L)) Q E { s with heap := h, toks := tk } := by
  w_on
  show wpAny _ _ (execs (Stmt.Assign [Expr.Name _ _] _ _ :: rest) _) _ _ _
  have hwl := bok_wlen bok
  have hwz : wds.size = wr.length := by rw [← Array.length_toList, hB.length, List.length_map]
  walk_at "my steps"
  walk_at "my comp"
  walk_at "my steps"
  refine lc_list (fun i ys news => news = [] ∧ ByAre ys ((wr.take i).map highB)) rfl (N.isList hWd) (by rw [hwz, sizeLine_eq]; omega) ⟨rfl, .nil⟩ (fun i ys news hI => by rw [hI.2.length, List.length_map, List.length_take]; omega) ?_ ?_
  · intro B C j v ys news s₃ m₃ E6 hC hB' hj hP hI F5 N5 hx
    obtain ⟨b, u, hb', rfl⟩ := hB.get (i := j) (v := v) (by simpa using hP)
    obtain ⟨rfl, hA⟩ := hI
    obtain ⟨x, hx', rfl⟩ : ∃ x, wr[j]? = some x ∧ b = byteArr (wd x) := by
      rw [List.getElem?_map] at hb'
      cases e : wr[j]? with
      | none => rw [e] at hb'; cases hb'
      | some x => rw [e] at hb'; exact ⟨x, rfl, (Option.some.inj hb').symm⟩
    have hB0 : ∀ b o, s.heap.get? b = some o → B.get? b = some o := fun b o e => hB' b o (F.keep b o e)
    have X3 : (Mine.hd.heap_39 w.params).In B := X.keeps hB0
    have T3 := T.keeps hB0
    have hxp := (bok_in bok x (List.mem_of_getElem? hx')).pos
    have hxl := (bok_in bok x (List.mem_of_getElem? hx')).lt
    have hbi : KBw.bInts (byteArr (wd x)) = wd (x / 16) ++ [65 + x % 16] := by rw [bInts_byteArr (wd_ok x), wd_pos hxp]
    have hpl : (wd (x / 16)).length ≤ 7 := wd_len (by omega)
    generalize byteArr (wd x) = b at *
    have hhx : highB x = byteArr (wd (x / 16) ++ [193 + x % 16]) := rfl
    have hc0 : 0 ≤ x % 16 ∧ x % 16 < 16 := by omega
    generalize wd (x / 16) = pre at *
    generalize x % 16 = c at *
    obtain ⟨ks, hks⟩ : ∃ ks, ks = pre ++ [65 + c] := ⟨_, rfl⟩
    rw [← hks] at hbi
    have hkl : ks.length = pre.length + 1 := by rw [hks]; simp
    have hgd : ks.getD (-1 + (ks.length : Int)).toNat 0 = 65 + c := by
      rw [show (-1 + (ks.length : Int)).toNat = pre.length by omega, hks]; simp
    have htk : ks.take (clipAt ks.length (-1)) = pre := by
      rw [hkl, clip_last, hks]; simp
    refine wpAny_tests_nil ?_
    simp only [if_true]
    walk_at "my steps"
    rename Fr B _ _ _ => F6
    rename (KBw.bInts (_ ++ _) = _) => hAp
    have e9 : (((((65 + c) % 128 + 128).toNat.toUInt8.toNat : Nat)) : Int) = 193 + c := by rw [u8 _ (by omega) (by omega)]; omega
    rw [htk, hgd] at hAp
    simp only [List.map_cons, List.map_nil, e9] at hAp
    rw [hgd, bytes_of_ints hAp]
    rename Tok => t6
    have hA' : ∀ t6, ByAre (ys ++ [.bytes (byteArr (pre ++ [193 + c])) t6]) ((wr.take (j + 1)).map highB) := fun t6 => by
      rw [take_succ_map hx', hhx]
      exact hA.snoc
    exact CEnd.pure F6 ⟨rfl, hA' _⟩
  · intro D h' tk ys news hDs hD hpl hNw hI hk
    obtain ⟨rfl, hA⟩ := hI
    obtain ⟨nD, eD⟩ := hpl
    rw [hwz, List.take_of_length_le (Nat.le_refl _)] at hA
    have F9 := F.keeps hk
    have N9 := N.grown hk
    clear F N
    walk_at "my steps"
    refine sorted_N_by F9 N9 ⟨_, eD, rfl, _, rfl⟩ hA (by rw [hA.length, List.length_map]; omega) ?_
    intro h6 vs6 bs6 e6 F6 N6 hi6 hp6 hs6
    have hne : ∀ p ∈ lg, @Ne Nat (h'.objs.size + 1) p.1 := fun p hp => by
      have : @LT.lt Nat _ p.1 h'.objs.size := Heap.lt_size (N9 p hp).1
      omega
    clear F9 N9
    dsimp only at N6
    generalize h'.objs.size + 1 = nE at *
    walk_at "my steps"
    rename Fr _ _ _ _ => F12
    rename News _ _ _ _ => N12
    exact next nE vs6.toArray e6 bs6 _ _ F12 N12 hne hi6 hp6 hs6
-- L11
theorem e_hat : Str.ofString "^" = sL [94] := by decide
theorem e_bang : Str.ofString "!" = sL [33] := by decide
theorem one_len {x g : Int} (h0 : 0 ≤ x) (h : x < 16 ^ 7) : (byteArr (wd (x / 16) ++ [g])).size ≤ 1000 := by
  have := wd_len (x := x / 16) (k := 7) (by omega)
  unfold byteArr
  rw [List.size_toArray, List.length_map, List.length_append, List.length_singleton]; omega
theorem rowS11 {w : World} {mg mb : Str → Option Value} {s : Shared} {L R Hd Wk : Addr} {iw hds rs : Array Value} {tree wr : List Int} {bs : List (Array UInt8)} {er eh fw : Nat} {dp un : Nat} {fr : Option (List Env)} {gd : Option (List Code)} {h : Heap} {tk : Nat} {tl : List (Addr × Obj)} {rest : List Stmt} {m : Str → Option Value} {Q : Flow → Shared → Prop} {E : Value → Shared → Prop}
    (X : (Mine.hd.heap_39 w.params).In s.heap) (T : TopRead Mine.hd.view_39 (looseW Mine.hd.view_39 []) mg mb s.heap) (hd : dp + 20 < recursionLimit) (hu : un + 600 < cLine)
    (F : Fr s.heap L h m) (N : News s.heap L h ((R, PySem.W.listOf rs er) :: tl)) (hR : ∀ p ∈ tl, p.1 ≠ R) (hrn : rs.size ≤ 50) (hWk : (Wk, PySem.W.listOf iw fw) ∈ tl) (hHd : (Hd, PySem.W.listOf hds eh) ∈ tl)
    (mR : m (Str.ofString "rows") = some (.ref R)) (m1 : m (Str.ofString "above") = some (.ref Wk)) (m2 : m (Str.ofString "held") = some (.ref Hd))
    (p1 : Are Value.int iw.toList (filt wr (wk tree 9 0).2.2.1)) (bok : BOk 7 (tree, wr)) (hB : ByAre hds.toList bs) (hp : bs.Perm (wr.map heldB))
    (next : RowNext w dp un fr gd L R s m rs er tl (execs rest (lawEnv L)) Q E) :
    wpAny (model PR w) (AL dp un fr gd L) (execs (st 11 :: rest) (lawEnv L)) Q E { s with heap := h, toks := tk } := by
  w_on
  show wpAny _ _ (execs (Stmt.Expr _ _ :: rest) _) _ _ _
  walk_at "my steps"
  walk_at "my comp"
  walk_at "my steps"
  have hwl := bok_wlen bok
  have hbl : bs.length = wr.length := by rw [hp.length_eq, List.length_map]
  refine lcs_text X T hd hu F N (N.isList (List.mem_cons_of_mem _ hHd)) hB (fun b hb => by
      obtain ⟨x, hx, rfl⟩ := List.mem_map.mp (hp.mem_iff.mp hb)
      have := bok_in bok x hx
      exact one_len (by have := this.pos; omega) this.lt) (by omega) ?_
  intro Ra ys2 n2 h10 tk10 F10 N10 l10 A10
  have q10 := l10
  k_lt l10
  clear F N
  have hfl := filt_lens bok
  have hRow := row_heldT bok hp
  walk_at "my steps"
  refine Con.use (spelled_con' Wk iw _ [] [] (-64) _ _ _ e_nil e_nil) F10 N10 X T rfl (rd hd (show 1 ≤ 18 by decide)) (ru hu (show 20 ≤ 500 by decide)) ⟨N10.isList (by k_mem), p1, by omega, fun x hx => by have := filt_in bok x hx; exact ⟨by have := this.pos; omega, by have := this.lt; omega⟩, by decide, by decide, by simp, by simp⟩ ?_
  intro v11 h11 tk11 F11 N11' k11 r11
  obtain ⟨Rb, ys3, rfl, c0, ⟨n3, e3⟩, b3⟩ := r11
  have N11 := news_add F10 N11' c0 e3
  have q11 : ∀ q ∈ (R, PySem.W.listOf rs er) :: tl, @Ne Nat Rb q.1 := fun q hq => fresh_ne c0 (N10 q (List.mem_cons_of_mem _ hq)).1
  have yB : @Ne Nat Rb R := q11 _ (List.mem_cons_self ..)
  clear F10 N10 N11'
  walk_at "my steps"
  rename Fr _ _ _ _ => F12
  rename News _ _ _ _ => N12
  rename_i tp g2 lt g3
  exact row_end next F12 N12 q10 q11 lt A10 b3 (by rw [List.length_map]; omega) hRow (spell_ok (by simp) (by simp) (by decide) _)
theorem rowS12 {w : World} {mg mb : Str → Option Value} {s : Shared} {L R Hd Wk : Addr} {iw hds rs : Array Value} {tree wr : List Int} {bs : List (Array UInt8)} {er eh fw : Nat} {dp un : Nat} {fr : Option (List Env)} {gd : Option (List Code)} {h : Heap} {tk : Nat} {tl : List (Addr × Obj)} {rest : List Stmt} {m : Str → Option Value} {Q : Flow → Shared → Prop} {E : Value → Shared → Prop}
    (X : (Mine.hd.heap_39 w.params).In s.heap) (T : TopRead Mine.hd.view_39 (looseW Mine.hd.view_39 []) mg mb s.heap) (hd : dp + 20 < recursionLimit) (hu : un + 600 < cLine)
    (F : Fr s.heap L h m) (N : News s.heap L h ((R, PySem.W.listOf rs er) :: tl)) (hR : ∀ p ∈ tl, p.1 ≠ R) (hrn : rs.size ≤ 50) (hWk : (Wk, PySem.W.listOf iw fw) ∈ tl) (hHd : (Hd, PySem.W.listOf hds eh) ∈ tl)
    (mR : m (Str.ofString "rows") = some (.ref R)) (m1 : m (Str.ofString "under") = some (.ref Wk)) (m2 : m (Str.ofString "held") = some (.ref Hd))
    (p1 : Are Value.int iw.toList (filt wr (wk tree 9 0).2.2.2)) (bok : BOk 7 (tree, wr)) (hB : ByAre hds.toList bs) (hp : bs.Perm (wr.map heldB))
    (next : RowNext w dp un fr gd L R s m rs er tl (execs rest (lawEnv L)) Q E) :
    wpAny (model PR w) (AL dp un fr gd L) (execs (st 12 :: rest) (lawEnv L)) Q E { s with heap := h, toks := tk } := by
  w_on
  show wpAny _ _ (execs (Stmt.Expr _ _ :: rest) _) _ _ _
  walk_at "my steps"
  walk_at "my comp"
  walk_at "my steps"
  have hwl := bok_wlen bok
  have hbl : bs.length = wr.length := by rw [hp.length_eq, List.length_map]
  refine lcs_shown X T hd hu F N (N.isList (List.mem_cons_of_mem _ hHd)) hB (fun b hb => by
      obtain ⟨x, hx, rfl⟩ := List.mem_map.mp (hp.mem_iff.mp hb)
      have := bok_in bok x hx
      exact one_len (by have := this.pos; omega) this.lt) (by omega) ?_
  intro Ra ys2 n2 h10 tk10 F10 N10 l10 A10
  have q10 := l10
  k_lt l10
  clear F N
  have hfl := filt_lens bok
  have hRow := row_heldS bok hp
  walk_at "my steps"
  refine Con.use (spelled_con' Wk iw _ [94] [] (0) _ _ _ e_hat e_nil) F10 N10 X T rfl (rd hd (show 1 ≤ 18 by decide)) (ru hu (show 20 ≤ 500 by decide)) ⟨N10.isList (by k_mem), p1, by omega, fun x hx => by have := filt_in bok x hx; exact ⟨by have := this.pos; omega, by have := this.lt; omega⟩, by decide, by decide, by simp, by simp⟩ ?_
  intro v11 h11 tk11 F11 N11' k11 r11
  obtain ⟨Rb, ys3, rfl, c0, ⟨n3, e3⟩, b3⟩ := r11
  have N11 := news_add F10 N11' c0 e3
  have q11 : ∀ q ∈ (R, PySem.W.listOf rs er) :: tl, @Ne Nat Rb q.1 := fun q hq => fresh_ne c0 (N10 q (List.mem_cons_of_mem _ hq)).1
  have yB : @Ne Nat Rb R := q11 _ (List.mem_cons_self ..)
  clear F10 N10 N11'
  walk_at "my steps"
  rename Fr _ _ _ _ => F12
  rename News _ _ _ _ => N12
  rename_i tp g2 lt g3
  exact row_end next F12 N12 q10 q11 lt A10 b3 (by rw [List.length_map]; omega) hRow (spell_ok (by simp) (by simp) (by decide) _)
theorem rowS13 {w : World} {mg mb : Str → Option Value} {s : Shared} {L R Hd Wk : Addr} {iw hds rs : Array Value} {tree wr : List Int} {bs : List (Array UInt8)} {er eh fw : Nat} {dp un : Nat} {fr : Option (List Env)} {gd : Option (List Code)} {h : Heap} {tk : Nat} {tl : List (Addr × Obj)} {rest : List Stmt} {m : Str → Option Value} {Q : Flow → Shared → Prop} {E : Value → Shared → Prop}
    (X : (Mine.hd.heap_39 w.params).In s.heap) (T : TopRead Mine.hd.view_39 (looseW Mine.hd.view_39 []) mg mb s.heap) (hd : dp + 20 < recursionLimit) (hu : un + 600 < cLine)
    (F : Fr s.heap L h m) (N : News s.heap L h ((R, PySem.W.listOf rs er) :: tl)) (hR : ∀ p ∈ tl, p.1 ≠ R) (hrn : rs.size ≤ 50) (hWk : (Wk, PySem.W.listOf iw fw) ∈ tl) (hHd : (Hd, PySem.W.listOf hds eh) ∈ tl)
    (mR : m (Str.ofString "rows") = some (.ref R)) (m1 : m (Str.ofString "under") = some (.ref Wk)) (m2 : m (Str.ofString "high") = some (.ref Hd))
    (p1 : Are Value.int iw.toList (filt wr (wk tree 9 0).2.2.2)) (bok : BOk 7 (tree, wr)) (hB : ByAre hds.toList bs) (hp : bs.Perm (wr.map highB))
    (next : RowNext w dp un fr gd L R s m rs er tl (execs rest (lawEnv L)) Q E) :
    wpAny (model PR w) (AL dp un fr gd L) (execs (st 13 :: rest) (lawEnv L)) Q E { s with heap := h, toks := tk } := by
  w_on
  show wpAny _ _ (execs (Stmt.Expr _ _ :: rest) _) _ _ _
  walk_at "my steps"
  walk_at "my comp"
  walk_at "my steps"
  have hwl := bok_wlen bok
  have hbl : bs.length = wr.length := by rw [hp.length_eq, List.length_map]
  refine lcs_text X T hd hu F N (N.isList (List.mem_cons_of_mem _ hHd)) hB (fun b hb => by
      obtain ⟨x, hx, rfl⟩ := List.mem_map.mp (hp.mem_iff.mp hb)
      have := bok_in bok x hx
      exact one_len (by have := this.pos; omega) this.lt) (by omega) ?_
  intro Ra ys2 n2 h10 tk10 F10 N10 l10 A10
  have q10 := l10
  k_lt l10
  clear F N
  have hfl := filt_lens bok
  have hRow := row_highT bok hp
  walk_at "my steps"
  refine Con.use (spelled_con' Wk iw _ [] [] (128) _ _ _ e_nil e_nil) F10 N10 X T rfl (rd hd (show 1 ≤ 18 by decide)) (ru hu (show 20 ≤ 500 by decide)) ⟨N10.isList (by k_mem), p1, by omega, fun x hx => by have := filt_in bok x hx; exact ⟨by have := this.pos; omega, by have := this.lt; omega⟩, by decide, by decide, by simp, by simp⟩ ?_
  intro v11 h11 tk11 F11 N11' k11 r11
  obtain ⟨Rb, ys3, rfl, c0, ⟨n3, e3⟩, b3⟩ := r11
  have N11 := news_add F10 N11' c0 e3
  have q11 : ∀ q ∈ (R, PySem.W.listOf rs er) :: tl, @Ne Nat Rb q.1 := fun q hq => fresh_ne c0 (N10 q (List.mem_cons_of_mem _ hq)).1
  have yB : @Ne Nat Rb R := q11 _ (List.mem_cons_self ..)
  clear F10 N10 N11'
  walk_at "my steps"
  rename Fr _ _ _ _ => F12
  rename News _ _ _ _ => N12
  rename_i tp g2 lt g3
  exact row_end next F12 N12 q10 q11 lt A10 b3 (by rw [List.length_map]; omega) hRow (spell_ok (by simp) (by simp) (by decide) _)
theorem rowS14 {w : World} {mg mb : Str → Option Value} {s : Shared} {L R Hd Wk : Addr} {iw hds rs : Array Value} {tree wr : List Int} {bs : List (Array UInt8)} {er eh fw : Nat} {dp un : Nat} {fr : Option (List Env)} {gd : Option (List Code)} {h : Heap} {tk : Nat} {tl : List (Addr × Obj)} {rest : List Stmt} {m : Str → Option Value} {Q : Flow → Shared → Prop} {E : Value → Shared → Prop}
    (X : (Mine.hd.heap_39 w.params).In s.heap) (T : TopRead Mine.hd.view_39 (looseW Mine.hd.view_39 []) mg mb s.heap) (hd : dp + 20 < recursionLimit) (hu : un + 600 < cLine)
    (F : Fr s.heap L h m) (N : News s.heap L h ((R, PySem.W.listOf rs er) :: tl)) (hR : ∀ p ∈ tl, p.1 ≠ R) (hrn : rs.size ≤ 50) (hWk : (Wk, PySem.W.listOf iw fw) ∈ tl) (hHd : (Hd, PySem.W.listOf hds eh) ∈ tl)
    (mR : m (Str.ofString "rows") = some (.ref R)) (m1 : m (Str.ofString "above") = some (.ref Wk)) (m2 : m (Str.ofString "high") = some (.ref Hd))
    (p1 : Are Value.int iw.toList (filt wr (wk tree 9 0).2.2.1)) (bok : BOk 7 (tree, wr)) (hB : ByAre hds.toList bs) (hp : bs.Perm (wr.map highB))
    (next : RowNext w dp un fr gd L R s m rs er tl (execs rest (lawEnv L)) Q E) :
    wpAny (model PR w) (AL dp un fr gd L) (execs (st 14 :: rest) (lawEnv L)) Q E { s with heap := h, toks := tk } := by
  w_on
  show wpAny _ _ (execs (Stmt.Expr _ _ :: rest) _) _ _ _
  walk_at "my steps"
  walk_at "my comp"
  walk_at "my steps"
  have hwl := bok_wlen bok
  have hbl : bs.length = wr.length := by rw [hp.length_eq, List.length_map]
  refine lcs_shown X T hd hu F N (N.isList (List.mem_cons_of_mem _ hHd)) hB (fun b hb => by
      obtain ⟨x, hx, rfl⟩ := List.mem_map.mp (hp.mem_iff.mp hb)
      have := bok_in bok x hx
      exact one_len (by have := this.pos; omega) this.lt) (by omega) ?_
  intro Ra ys2 n2 h10 tk10 F10 N10 l10 A10
  have q10 := l10
  k_lt l10
  clear F N
  have hfl := filt_lens bok
  have hRow := row_highS bok hp
  walk_at "my steps"
  refine Con.use (spelled_con' Wk iw _ [33] [] (0) _ _ _ e_bang e_nil) F10 N10 X T rfl (rd hd (show 1 ≤ 18 by decide)) (ru hu (show 20 ≤ 500 by decide)) ⟨N10.isList (by k_mem), p1, by omega, fun x hx => by have := filt_in bok x hx; exact ⟨by have := this.pos; omega, by have := this.lt; omega⟩, by decide, by decide, by simp, by simp⟩ ?_
  intro v11 h11 tk11 F11 N11' k11 r11
  obtain ⟨Rb, ys3, rfl, c0, ⟨n3, e3⟩, b3⟩ := r11
  have N11 := news_add F10 N11' c0 e3
  have q11 : ∀ q ∈ (R, PySem.W.listOf rs er) :: tl, @Ne Nat Rb q.1 := fun q hq => fresh_ne c0 (N10 q (List.mem_cons_of_mem _ hq)).1
  have yB : @Ne Nat Rb R := q11 _ (List.mem_cons_self ..)
  clear F10 N10 N11'
  walk_at "my steps"
  rename Fr _ _ _ _ => F12
  rename News _ _ _ _ => N12
  rename_i tp g2 lt g3
  exact row_end next F12 N12 q10 q11 lt A10 b3 (by rw [List.length_map]; omega) hRow (spell_ok (by simp) (by simp) (by decide) _)
-- L12
theorem one_len8 {x g : Int} (h0 : 0 ≤ x) (h : x < 16 ^ 7) : (byteArr (wd (x / 16) ++ [g])).size ≤ 8 := by
  have := wd_len (x := x / 16) (k := 7) (by omega)
  unfold byteArr
  rw [List.size_toArray, List.length_map, List.length_append, List.length_singleton]; omega
theorem sum_le8 {f : Int → Array UInt8} : ∀ (l : List Int), (∀ x ∈ l, (f x).size ≤ 8) → ((l.map f).map (·.size)).sum ≤ 8 * l.length
  | [], _ => by simp
  | a :: r, h => by
    have h1 := h a (List.mem_cons_self ..)
    have h2 := sum_le8 r fun x hx => h x (List.mem_cons_of_mem _ hx)
    rw [List.map_cons, List.map_cons, List.sum_cons, List.length_cons]; omega
local macro_rules | `(tactic| walk_at "getMethod bytes") => `(tactic| (k_here; k_dflt (refine' getm_join ?_; k_whole)))
local macro_rules | `(tactic| walk_at "call builtin:bytes.join") => `(tactic| (k_here; k_dflt (refine' join_byL ?l ?B ?z ?_; (case l => exact News.isList (by k_asm) (by k_mem)); (case B => assumption); (case z => assumption)); intro t' k'))
local macro_rules | `(tactic| walk_at "my guard4") => `(tactic| ((fail_if_success (with_reducible show wpAny _ _ (compareOp _ (Value.ref _) (Value.ref _)) _ _ _)); walk_at "my guard"))
local macro_rules | `(tactic| walk_at "my steps4") => `(tactic| (repeat' (first | (walk_at "my guard4"; walk1) | (dsimp only; walk_at "my guard4"; walk1))))
theorem seg15 {w : World} {mg mb : Str → Option Value} {s : Shared} {L Hd Hg ab ud : Addr} {hds hgs i3 i4 : Array Value} {tree wr : List Int} {eh eg f3 f4 : Nat} {dp un : Nat} {fr : Option (List Env)} {gd : Option (List Code)} {h : Heap} {tk : Nat} {lg : List (Addr × Obj)} {rest : List Stmt} {m : Str → Option Value}
    (X : (Mine.hd.heap_39 w.params).In s.heap) (T : TopRead Mine.hd.view_39 (looseW Mine.hd.view_39 []) mg mb s.heap) (hd : dp + 20 < recursionLimit) (hu : un + 600 < cLine)
    (F : Fr s.heap L h m) (N : News s.heap L h lg) (hab : (ab, PySem.W.listOf i3 f3) ∈ lg) (hud : (ud, PySem.W.listOf i4 f4) ∈ lg) (hHd : (Hd, PySem.W.listOf hds eh) ∈ lg) (hHg : (Hg, PySem.W.listOf hgs eg) ∈ lg)
    (m1 : m (Str.ofString "above") = some (.ref ab)) (m2 : m (Str.ofString "under") = some (.ref ud)) (m3 : m (Str.ofString "held") = some (.ref Hd)) (m4 : m (Str.ofString "high") = some (.ref Hg))
    (p3 : Are Value.int i3.toList (filt wr (wk tree 9 0).2.2.1)) (p4 : Are Value.int i4.toList (filt wr (wk tree 9 0).2.2.2)) (bok : BOk 7 (tree, wr))
    (hB : ByAre hds.toList ((filt wr (wk tree 9 0).2.2.1).map heldB)) (hC : ByAre hgs.toList ((filt wr (wk tree 9 0).2.2.2).map highB))
    (next : ∀ (h' : Heap) (tk' : Nat), Fr s.heap L h' m → News s.heap L h' lg → wpAny (model PR w) (AL dp un fr gd L) (execs rest (lawEnv L)) (LawQ s) (fun _ _ => False) { s with heap := h', toks := tk' }) :
    wpAny (model PR w) (AL dp un fr gd L) (execs (st 15 :: rest) (lawEnv L)) (LawQ s) (fun _ _ => False) { s with heap := h, toks := tk } := by
  w_on
  show wpAny _ _ (execs (Stmt.If _ _ _ _ :: rest) _) _ _ _
  have hfl := filt_lens bok
  have z1 : (((filt wr (wk tree 9 0).2.2.1).map heldB).map (·.size)).sum ≤ 64 := Nat.le_trans (sum_le8 (f := heldB) _ fun x hx => one_len8 (by have := (filt_in bok x hx).pos; omega) (filt_in bok x hx).lt) (by omega)
  have z2 : (((filt wr (wk tree 9 0).2.2.2).map highB).map (·.size)).sum ≤ 64 := Nat.le_trans (sum_le8 (f := highB) _ fun x hx => one_len8 (by have := (filt_in bok x hx).pos; omega) (filt_in bok x hx).lt) (by omega)
  have r1 := read_joined bok (g := heldB) (f := fun x => 1 + x % 16) (l := (wk tree 9 0).2.2.1) bI_held (fun x hx => by omega) _ rfl
  have r2 := read_joined bok (g := highB) (f := fun x => 193 + x % 16) (l := (wk tree 9 0).2.2.2) bI_high (fun x hx => by omega) _ rfl
  have s1 := Nat.le_trans (joined_size _) z1
  have s2 := Nat.le_trans (joined_size _) z2
  have z1' : (((filt wr (wk tree 9 0).2.2.1).map heldB).map (·.size)).sum ≤ 16777216 := Nat.le_trans z1 (by decide)
  have z2' : (((filt wr (wk tree 9 0).2.2.2).map highB).map (·.size)).sum ≤ 16777216 := Nat.le_trans z2 (by decide)
  walk_at "my steps"
  refine Con.use (read_con _ _) F N X T rfl (rd hd (show 3 ≤ 18 by decide)) (ru hu (show 40 ≤ 500 by decide)) ⟨by omega, r1.2⟩ ?_
  intro v9 h9 tk9 F9 N9 k9 rr
  obtain ⟨D, ys, rfl, c0, ⟨nD, eD⟩, A9⟩ := rr
  rw [r1.1] at A9
  have N10 := news_add F N9 c0 eD
  clear F N N9
  have hu64 : (AL dp un fr gd L).units + 64 < cLine := by show un + 3 + 64 < cLine; omega
  walk_at "my steps4"
  refine ne_same (ns := filt wr (wk tree 9 0).2.2.1) (N10.isList (.head _)) A9 (N10.isList (List.mem_cons_of_mem _ hab)) p3 hu64 ?_
  walk_at "my steps4"
  refine Con.use (read_con _ _) F9 N10 X T rfl (rd hd (show 3 ≤ 18 by decide)) (ru hu (show 40 ≤ 500 by decide)) ⟨by omega, r2.2⟩ ?_
  intro v12 h12 tk12 F12 N12 k12 rr
  obtain ⟨D2, ys2, rfl, c2, ⟨nD2, eD2⟩, A12⟩ := rr
  rw [r2.1] at A12
  have N13 := news_add F9 N12 c2 eD2
  clear F9 N10 N12
  walk_at "my steps4"
  refine ne_same (ns := filt wr (wk tree 9 0).2.2.2) (N13.isList (.head _)) A12 (N13.isList (List.mem_cons_of_mem _ (List.mem_cons_of_mem _ hud))) p4 hu64 ?_
  walk_at "my steps4"
  exact next _ _ F12 fun p hp => N13 p (List.mem_cons_of_mem _ (List.mem_cons_of_mem _ hp))
-- L13
theorem Are.of_strs {vs : List Value} {ns : List Str} (h : StrsAre vs ns) : Are Value.str vs ns := by
  induction h with
  | nil => exact .nil
  | cons a t _ ih => exact .cons a t ih
theorem seg16 {w : World} {mg mb : Str → Option Value} {s : Shared} {L R : Addr} {rs : Array Value} {er : Nat} {dp un : Nat} {fr : Option (List Env)} {gd : Option (List Code)} {h : Heap} {tk : Nat} {tl : List (Addr × Obj)} {rest : List Stmt} {m : Str → Option Value}
    (X : (Mine.hd.heap_39 w.params).In s.heap) (T : TopRead Mine.hd.view_39 (looseW Mine.hd.view_39 []) mg mb s.heap) (hd : dp + 20 < recursionLimit) (hu : un + 600 < cLine)
    (F : Fr s.heap L h m) (N : News s.heap L h ((R, PySem.W.listOf rs er) :: tl)) (mR : m (Str.ofString "rows") = some (.ref R)) (hr : ∀ v ∈ rs.toList, RowOk tl v) (hn : rs.size ≤ 50) :
    wpAny (model PR w) (AL dp un fr gd L) (execs (st 16 :: rest) (lawEnv L)) (LawQ s) (fun _ _ => False) { s with heap := h, toks := tk } := by
  w_on
  have hu64 : (AL dp un fr gd L).units + 64 < cLine := by show un + 3 + 64 < cLine; omega
  have hrow : ∀ j : Nat, ∃ q : Addr × Addr × Addr, j < rs.size → (rs[j]? = some (.ref q.1) ∧ ∃ ia ib e ea eb ss ts, (q.1, tupO #[.ref q.2.1, .ref q.2.2] e) ∈ tl ∧ (q.2.1, PySem.W.listOf ia ea) ∈ tl ∧ (q.2.2, PySem.W.listOf ib eb) ∈ tl ∧
      Are Value.str ia.toList ss ∧ Are Value.str ib.toList ts ∧ ss.length < 64 ∧ RowGood ss ts ∧ ∀ t ∈ ts, PyData.strOk t = true) := by
    intro j
    by_cases hj : j < rs.size
    · obtain ⟨tp, a, b, ia, ib, e, ea, eb, ss, ts, h1, h2⟩ := hr rs[j] (by simp)
      exact ⟨(tp, a, b), fun _ => ⟨by rw [Array.getElem?_eq_getElem hj, h1], ia, ib, e, ea, eb, ss, ts, h2⟩⟩
    · exact ⟨(0, 0, 0), fun h => absurd h hj⟩
  obtain ⟨q, hq⟩ := Classical.skolem.mp hrow
  have hls : h.IsList R rs := N.isList (.head _)
  have hlt : ∀ p ∈ (R, PySem.W.listOf rs er) :: tl, @LT.lt Nat _ p.1 h.objs.size := fun p hp => Heap.lt_size (N p hp).1
  have htup : ∀ j, j < rs.size → h.IsTuple (q j).1 #[.ref (q j).2.1, .ref (q j).2.2] := fun j hj => by
    obtain ⟨_, _, _, e, _, _, _, _, h2, _⟩ := hq j hj
    exact ⟨_, (N _ (List.mem_cons_of_mem _ h2)).1, rfl, _, rfl⟩
  have hTlt : ∀ j, j < rs.size → @LT.lt Nat _ (q j).1 h.objs.size := fun j hj => by
    obtain ⟨_, _, _, e, _, _, _, _, h2, _⟩ := hq j hj
    exact hlt _ (List.mem_cons_of_mem _ h2)
  show wpAny _ _ (execs (Stmt.Return (some _) _ :: rest) _) _ _ _
  walk_at "my steps4"
  (k_dflt (refine' lcp_eval ?a ?b ?c ?d ?e ?f ?g ?h ?_; (case a => with_unfolding_all rfl); (case b => decide); (case c => rfl); (case d => decide); (case e => rfl); (case f => rfl); (case g => decide); (case h => rfl)))
  walk_at "my steps4"
  refine wpAny_pyIter_list hls ?_
  have hRlt : @LT.lt Nat _ R h.objs.size := hlt _ (List.mem_cons_self ..)
  have hps : ∀ o, (h.push o).objs.size = h.objs.size + 1 := fun o => Heap.size_push _ _
  have W := WalksU.listOfTuples (prog := PR) (w := w) (A := AL dp un fr gd L) rfl h.objs.size R (neN (by omega)) rs (fun j => (q j).1) (fun j => #[.ref (q j).2.1, .ref (q j).2.2]) (fun j hj => (hq j hj).1) (fun j hj => neN (by have := hTlt j hj; omega))
  refine ⟨h.objs.size, _, _, _, _, _, _, (fun i ys news => ys = [] ∧ news = []), rfl, W, (fun i vals e => ⟨_, _, e⟩), by rw [sizeLine_eq]; omega, ⟨⟨_, Heap.get?_push_size _ rfl, rfl, rfl⟩, hls.push _, fun k hk => ?_⟩, ?_, ⟨rfl, rfl⟩, ?_, ?_, ?_⟩
  · obtain ⟨o, ho, r⟩ := htup k hk
    exact ⟨o, Heap.get?_push_of_some _ ho, r⟩
  · intro b hb
    show @LT.lt Nat _ b (h.push _).objs.size
    rw [hps]
    rcases List.mem_cons.mp hb with e | hb
    · have e' : @Eq Nat b h.objs.size := e
      omega
    rcases List.mem_cons.mp hb with e | hb
    · have e' : @Eq Nat b R := e
      omega
    · obtain ⟨j, hj, e⟩ := List.mem_map.mp hb
      have := hTlt j (List.mem_range.mp hj)
      have e' : @Eq Nat (q j).1 b := e
      omega
  · rintro i ys news ⟨rfl, _⟩; simp
  · intro B C i va vb ys news s₃ m₃ E' hC hB hi hP hI F3 N3 hxa hxb
    obtain ⟨rfl, rfl⟩ := hI
    obtain ⟨_, ia, ib, e, ea, eb, ss, ts, g1, g2, g3, g4, g5, g6, g7, g8⟩ := hq i hi
    have hP' : (#[va, vb] : Array Value) = #[.ref (q i).2.1, .ref (q i).2.2] := hP
    simp only [Array.mk.injEq, List.cons.injEq, and_true] at hP'
    obtain ⟨rfl, rfl⟩ := hP'
    generalize (q i).2.1 = a at *
    generalize (q i).2.2 = b at *
    have hB' : ∀ p ∈ (R, PySem.W.listOf rs er) :: tl, B.get? p.1 = some p.2 := fun p hp => hB _ _ (fun hm => by
      have e1 := hlt p hp
      have e2 : @Eq Nat p.1 h.objs.size := List.mem_singleton.mp hm
      omega) (Heap.get?_push_of_some _ (N p hp).1)
    have hB0 : ∀ b o, s.heap.get? b = some o → B.get? b = some o := fun b o e => hB b o (fun hm => by
      have e1 : @LT.lt Nat _ b h.objs.size := Heap.lt_size (F.keep b o e)
      have e2 : @Eq Nat b h.objs.size := List.mem_singleton.mp hm
      omega) (Heap.get?_push_of_some _ (F.keep b o e))
    have X3 : (Mine.hd.heap_39 w.params).In B := X.keeps hB0
    have T3 := T.keeps hB0
    have hla : B.IsList a ia := ⟨_, hB' _ (List.mem_cons_of_mem _ g2), rfl, _, rfl⟩
    have hlb : B.IsList b ib := ⟨_, hB' _ (List.mem_cons_of_mem _ g3), rfl, _, rfl⟩
    refine wpAny_tests_one ?_
    walk_at "my steps4"
    refine sorted_N_str (vs := ia.toList) F3 N3 (F3.lst hla) g4.strs (by rw [Array.length_toList, ← Array.length_toList, g4.length]; omega) ?_
    intro h6 vs6 ss6 e6 F6 N6 hi6 hp6 hs6
    have hts := g7 ss6 hs6 hp6
    subst hts
    have A6 := Are.of_strs hi6
    clear F3 N3
    generalize s₃.heap.objs.size + 1 = nE at *
    walk_at "my steps4"
    refine ne_sameS (xs := vs6.toArray) (ns := ss6) (N6.isList (.head _)) A6 (F6.lst hlb) g5 g8 hu64 ?_
    walk_at "my steps4"
    exact CEnd.pure F6 ⟨trivial, rfl⟩
  · intro D h' tk ys news hDs hD hpl hNw hI hk
    obtain ⟨rfl, rfl⟩ := hI
    obtain ⟨nD, eD⟩ := hpl
    have hkk : ∀ b o, h.get? b = some o → h'.get? b = some o := fun b o e => hk b o (fun hm => by
      have e1 : @LT.lt Nat _ b h.objs.size := Heap.lt_size e
      have e2 : @Eq Nat b h.objs.size := List.mem_singleton.mp hm
      omega) (Heap.get?_push_of_some _ e)
    have hD0 : h.get? D = none := by
      cases e : h.get? D with
      | none => rfl
      | some o => have hD' := hD; dsimp only at hD'; rw [Heap.get?_push_of_some _ e] at hD'; cases hD'
    have F9 := F.keeps hkk
    have N9 : News s.heap L h' [(D, PySem.W.listOf #[] nD)] := news_add F News.nil hD0 eD
    clear F N
    walk_at "my steps4"
    rename Fr _ _ _ _ => F10
    rename News _ _ _ _ => N10
    refine eq_intsK (vs := []) (us := []) (ns := []) (ms := []) (N10.isList (.tail _ (.head _))) .nil (N10.isList (.head _)) .nil hu64 ?_
    exact Ret.intro F10 rfl
-- L14
theorem next_R {R tp a b : Addr} {o x y z : Obj} {tl : List (Addr × Obj)} (ne : ∀ q ∈ (R, o) :: tl, @Ne Nat tp q.1 ∧ @Ne Nat a q.1 ∧ @Ne Nat b q.1) (hR : ∀ p ∈ tl, p.1 ≠ R) : ∀ p ∈ (tp, x) :: (b, y) :: (a, z) :: tl, p.1 ≠ R := fun p hp => by
  have n := ne _ (List.mem_cons_self ..)
  rcases List.mem_cons.mp hp with rfl | hp
  · exact n.1
  rcases List.mem_cons.mp hp with rfl | hp
  · exact n.2.2
  rcases List.mem_cons.mp hp with rfl | hp
  · exact n.2.1
  · exact hR p hp
theorem rows_push {rs : Array Value} {tp a b : Addr} {x y z : Obj} {tl : List (Addr × Obj)} (h : ∀ v ∈ rs.toList, RowOk tl v) (ok : RowOk [(tp, x), (b, y), (a, z)] (.ref tp)) : ∀ v ∈ (rs.push (.ref tp)).toList, RowOk ((tp, x) :: (b, y) :: (a, z) :: tl) v := fun v hv => by
  rw [Array.toList_push, List.mem_append] at hv
  rcases hv with hv | hv
  · exact (h v hv).mono fun p hp => List.mem_cons_of_mem _ (List.mem_cons_of_mem _ (List.mem_cons_of_mem _ hp))
  · rw [List.mem_singleton.mp hv]
    refine ok.mono fun p hp => ?_
    exact mem_of hp (by walk_at "my sub")
theorem mem3 {p a b c : Addr × Obj} {tl : List (Addr × Obj)} (h : p ∈ tl) : p ∈ a :: b :: c :: tl := List.mem_cons_of_mem _ (List.mem_cons_of_mem _ (List.mem_cons_of_mem _ h))
theorem law_tail {w : World} {mg mb : Str → Option Value} {s : Shared} {L R Wd dn up ab ud : Addr} {i1 i2 i3 i4 rs wds : Array Value} {tree wr : List Int} {er ew f1 f2 f3 f4 : Nat} {dp un : Nat} {fr : Option (List Env)} {gd : Option (List Code)} {h : Heap} {tk : Nat} {tl : List (Addr × Obj)} {m : Str → Option Value}
    (X : (Mine.hd.heap_39 w.params).In s.heap) (T : TopRead Mine.hd.view_39 (looseW Mine.hd.view_39 []) mg mb s.heap) (hd : dp + 20 < recursionLimit) (hu : un + 600 < cLine)
    (F : Fr s.heap L h m) (N : News s.heap L h ((R, PySem.W.listOf rs er) :: tl))
    (S : RSt L R [(dn, PySem.W.listOf i1 f1), (up, PySem.W.listOf i2 f2), (ab, PySem.W.listOf i3 f3), (ud, PySem.W.listOf i4 f4), (Wd, PySem.W.listOf wds ew)] rs tl 7) (M : MF m R Wd dn up ab ud)
    (hB : ByAre wds.toList (wordsOf wr)) (bok : BOk 7 (tree, wr)) (p3 : Are Value.int i3.toList (filt wr (wk tree 9 0).2.2.1)) (p4 : Are Value.int i4.toList (filt wr (wk tree 9 0).2.2.2)) :
    wpAny (model PR w) (AL dp un fr gd L) (execs [st 9, st 10, st 11, st 12, st 13, st 14, st 15, st 16] (lawEnv L)) (LawQ s) (fun _ _ => False) { s with heap := h, toks := tk } := by
  have hWd := S.hs (Wd, PySem.W.listOf wds ew) (by k_mem)
  have hab := S.hs (ab, PySem.W.listOf i3 f3) (by k_mem)
  have hud := S.hs (ud, PySem.W.listOf i4 f4) (by k_mem)
  refine seg6 (s := s) (rest := [st 10, st 11, st 12, st 13, st 14, st 15, st 16]) (lg := (R, PySem.W.listOf rs er) :: tl) X T hd hu F N (List.mem_cons_of_mem _ hWd) M.words hB bok ?_
  intro Hd hds eh bs h7 tk7 F7 N7 ne7 hbB hbp hbs
  refine seg7 (s := s) (rest := [st 11, st 12, st 13, st 14, st 15, st 16]) (lg := (Hd, PySem.W.listOf hds eh) :: (R, PySem.W.listOf rs er) :: tl) X T hd hu F7 N7 (List.mem_cons_of_mem _ (List.mem_cons_of_mem _ hWd)) M.words hB bok ?_
  intro Hg hgs eg cs h8 tk8 F8 N8 ne8 hcB hcp hcs
  have N8' : News s.heap L h8 ((R, PySem.W.listOf rs er) :: (Hg, PySem.W.listOf hgs eg) :: (Hd, PySem.W.listOf hds eh) :: tl) := fun p hp => N8 p (mem_of hp (by walk_at "my sub"))
  have hR8 : ∀ p ∈ (Hg, PySem.W.listOf hgs eg) :: (Hd, PySem.W.listOf hds eh) :: tl, p.1 ≠ R := fun p hp => by
    rcases List.mem_cons.mp hp with rfl | hp
    · exact ne8 (R, PySem.W.listOf rs er) (by k_mem)
    rcases List.mem_cons.mp hp with rfl | hp
    · exact ne7 (R, PySem.W.listOf rs er) (by k_mem)
    · exact S.hR p hp
  have hr8 : ∀ v ∈ rs.toList, RowOk ((Hg, PySem.W.listOf hgs eg) :: (Hd, PySem.W.listOf hds eh) :: tl) v := fun v hv => (S.hr v hv).mono fun p hp => List.mem_cons_of_mem _ (List.mem_cons_of_mem _ hp)
  have mHg : (Hg, PySem.W.listOf hgs eg) ∈ (Hg, PySem.W.listOf hgs eg) :: (Hd, PySem.W.listOf hds eh) :: tl := List.mem_cons_self ..
  have mHd : (Hd, PySem.W.listOf hds eh) ∈ (Hg, PySem.W.listOf hgs eg) :: (Hd, PySem.W.listOf hds eh) :: tl := List.mem_cons_of_mem _ (List.mem_cons_self ..)
  have mab : (ab, PySem.W.listOf i3 f3) ∈ (Hg, PySem.W.listOf hgs eg) :: (Hd, PySem.W.listOf hds eh) :: tl := List.mem_cons_of_mem _ (List.mem_cons_of_mem _ hab)
  have mud : (ud, PySem.W.listOf i4 f4) ∈ (Hg, PySem.W.listOf hgs eg) :: (Hd, PySem.W.listOf hds eh) :: tl := List.mem_cons_of_mem _ (List.mem_cons_of_mem _ hud)
  have hn := S.hn
  generalize (Hg, PySem.W.listOf hgs eg) :: (Hd, PySem.W.listOf hds eh) :: tl = t0 at *
  have c1 : (fun z => if z = Str.ofString "high" then some (Value.ref Hg) else (fun z => if z = Str.ofString "held" then some (Value.ref Hd) else m z) z) (Str.ofString "rows") = some (.ref R) := M.rows
  have c2 : (fun z => if z = Str.ofString "high" then some (Value.ref Hg) else (fun z => if z = Str.ofString "held" then some (Value.ref Hd) else m z) z) (Str.ofString "above") = some (.ref ab) := M.above
  have c3 : (fun z => if z = Str.ofString "high" then some (Value.ref Hg) else (fun z => if z = Str.ofString "held" then some (Value.ref Hd) else m z) z) (Str.ofString "under") = some (.ref ud) := M.under
  have c4 : (fun z => if z = Str.ofString "high" then some (Value.ref Hg) else (fun z => if z = Str.ofString "held" then some (Value.ref Hd) else m z) z) (Str.ofString "held") = some (.ref Hd) := rfl
  have c5 : (fun z => if z = Str.ofString "high" then some (Value.ref Hg) else (fun z => if z = Str.ofString "held" then some (Value.ref Hd) else m z) z) (Str.ofString "high") = some (.ref Hg) := rfl
  clear N8 ne8 ne7 N7 F7
  generalize (fun z => if z = Str.ofString "high" then some (Value.ref Hg) else (fun z => if z = Str.ofString "held" then some (Value.ref Hd) else m z) z) = mm at *
  refine rowS11 (s := s) (rest := [st 12, st 13, st 14, st 15, st 16]) (tl := t0) X T hd hu F8 N8' hR8 (by omega) mab mHd c1 c2 c4 p3 bok hbB hbp ?_
  intro tp1 a1 b1 ia1 ib1 ea1 eb1 h11 tk11 F11 N11 ne11 ok11
  have hR11 := next_R (x := tupO #[.ref a1, .ref b1] 0) (y := PySem.W.listOf ib1 eb1) (z := PySem.W.listOf ia1 ea1) ne11 hR8
  have hr11 := rows_push hr8 ok11
  refine rowS12 (s := s) (rest := [st 13, st 14, st 15, st 16]) X T hd hu F11 N11 hR11 (by rw [Array.size_push]; omega) (mem3 mud) (mem3 mHd) c1 c3 c4 p4 bok hbB hbp ?_
  intro tp2 a2 b2 ia2 ib2 ea2 eb2 h12 tk12 F12 N12 ne12 ok12
  have hR12 := next_R (x := tupO #[.ref a2, .ref b2] 0) (y := PySem.W.listOf ib2 eb2) (z := PySem.W.listOf ia2 ea2) ne12 hR11
  have hr12 := rows_push hr11 ok12
  refine rowS13 (s := s) (rest := [st 14, st 15, st 16]) X T hd hu F12 N12 hR12 (by rw [Array.size_push, Array.size_push]; omega) (mem3 (mem3 mud)) (mem3 (mem3 mHg)) c1 c3 c5 p4 bok hcB hcp ?_
  intro tp3 a3 b3 ia3 ib3 ea3 eb3 h13 tk13 F13 N13 ne13 ok13
  have hR13 := next_R (x := tupO #[.ref a3, .ref b3] 0) (y := PySem.W.listOf ib3 eb3) (z := PySem.W.listOf ia3 ea3) ne13 hR12
  have hr13 := rows_push hr12 ok13
  refine rowS14 (s := s) (rest := [st 15, st 16]) X T hd hu F13 N13 hR13 (by rw [Array.size_push, Array.size_push, Array.size_push]; omega) (mem3 (mem3 (mem3 mab))) (mem3 (mem3 (mem3 mHg))) c1 c2 c5 p3 bok hcB hcp ?_
  intro tp4 a4 b4 ia4 ib4 ea4 eb4 h14 tk14 F14 N14 ne14 ok14
  have hr14 := rows_push hr13 ok14
  have hbi := held_is bok hbp hbs
  have hci := high_is bok hcp hcs
  subst hbi hci
  refine seg15 (s := s) (rest := [st 16]) X T hd hu F14 N14 (List.mem_cons_of_mem _ (mem3 (mem3 (mem3 (mem3 mab))))) (List.mem_cons_of_mem _ (mem3 (mem3 (mem3 (mem3 mud))))) (List.mem_cons_of_mem _ (mem3 (mem3 (mem3 (mem3 mHd))))) (List.mem_cons_of_mem _ (mem3 (mem3 (mem3 (mem3 mHg))))) c2 c3 c4 c5 p3 p4 bok hbB hcB ?_
  intro h15 tk15 F15 N15
  exact seg16 (s := s) (rest := []) X T hd hu F15 N15 c1 hr14 (by rw [Array.size_push, Array.size_push, Array.size_push, Array.size_push]; omega)
-- L15
theorem law_body {w : World} {mg mb : Str → Option Value} {s : Shared} {L Sa : Addr} {vs : List Value} {ns : List Int} {dp un : Nat} {fr : Option (List Env)} {gd : Option (List Code)} {h : Heap} {tk : Nat} {o1 o2 o3 : Obj}
    (X : (Mine.hd.heap_39 w.params).In s.heap) (T : TopRead Mine.hd.view_39 (looseW Mine.hd.view_39 []) mg mb s.heap) (hd : dp + 20 < recursionLimit) (hu : un + 600 < cLine)
    (hl : s.heap.IsList Sa vs.toArray) (hI : IntsAre vs ns) (hn : ns.length ≤ 63)
    (F : Fr s.heap L h (fun _ => none)) (N : News s.heap L h [(L + 3, o3), (L + 2, o2), (L + 1, o1)]) (h1 : o1.data = .cell (some (.ref Sa))) (h2 : o2.data = .cell none) (h3 : o3.data = .cell none) :
    wpAny (model PR w) (AL dp un fr gd L) (execs [st 0, st 1, st 2, st 3, st 4, st 5, st 6, st 7, st 8, st 9, st 10, st 11, st 12, st 13, st 14, st 15, st 16] (lawEnv L)) (LawQ s) (fun _ _ => False) { s with heap := h, toks := tk } := by
  refine seg0 (s := s) (rest := [st 1, st 2, st 3, st 4, st 5, st 6, st 7, st 8, st 9, st 10, st 11, st 12, st 13, st 14, st 15, st 16]) X T hd hu hl hI hn F N h1 h2 h3 ?_
  intro D its nums e g1 tk1 F1 N1 A1 hlen hnn hD
  obtain ⟨l, rfl⟩ : ∃ l : List Value, its = l.toArray := ⟨its.toList, by simp⟩
  have A1' : Are Value.int l nums := A1
  clear A1
  cases A1' with
  | nil => simp at hlen
  | cons n0 t0 A2 =>
  rename_i rs ds
  have hds : ds.length = 7 := by rw [List.length_cons] at hlen; omega
  have hnd : ∀ x ∈ ds, 0 ≤ x := fun x hx => hnn x (List.mem_cons_of_mem _ hx)
  have hrl : rs.length ≤ 10 := by rw [A2.length]; omega
  have l0 : ∀ p ∈ [(L + 3, o3), (L + 2, o2), (L + 1, o1)], p.1 < D := fun p hp => by
    simp only [List.mem_cons, List.not_mem_nil, or_false] at hp
    rcases hp with h | h | h <;> (rw [h]; refine ltN ?_; dsimp only; omega)
  refine seg1 (s := s) (rest := [st 4, st 5, st 6, st 7, st 8, st 9, st 10, st 11, st 12, st 13, st 14, st 15, st 16]) X T F1 N1 l0 (hnn n0 (List.mem_cons_self ..)) hrl h2 h3 ?_
  intro Wn Tn mark tm t1 o2' g2 tk2 F2 N2 hc2 l1 l2 l3 hm0 hm1 hmo
  refine seg2 (s := s) (rest := [st 5, st 6, st 7, st 8, st 9, st 10, st 11, st 12, st 13, st 14, st 15, st 16]) X T hd hu F2 N2 l1 l2 l3 hc2 h3 A2 hds hnd ?_
  intro its ws e1 e2 m3 g3 tk3 F3 N3 mt mm a1 a2
  have bok := bok_run ds hnd
  rw [hds] at bok
  generalize ds.foldl bstep ([0], []) = stt at *
  obtain ⟨tree, wr⟩ := stt
  dsimp only at a1 a2
  refine seg3 (s := s) (rest := [st 6, st 7, st 8, st 9, st 10, st 11, st 12, st 13, st 14, st 15, st 16]) X T hd hu F3 N3 mt mm hc2 a1 a2 bok ?_
  intro dn up ab ud i1 i2 i3 i4 f1 f2 f3 f4 m4 g4 tk4 F4 N4 q0 q1 q2 q3 q4 p1 p2 p3 p4 hy
  refine seg4 (s := s) (rest := [st 8, st 9, st 10, st 11, st 12, st 13, st 14, st 15, st 16]) X T hd hu F4 N4 q0 q1 q2 q3 q4 hc2 a2 bok p1 hy ?_
  intro R Wd rs5 wds er ew tl m5 g5 tk5 F5 N5 hR hG hRG k1 k2 k3 k4 k5 hB hsz hrow n0' n1 n2 n3 n4 n5 n6
  refine seg5 (s := s) (rest := [st 9, st 10, st 11, st 12, st 13, st 14, st 15, st 16]) (i1 := i1) (i2 := i2) (i3 := i3) (i4 := i4) (f1 := f1) (f2 := f2) (f3 := f3) (f4 := f4) (ew := ew) (wds := wds) X T hd hu F5 N5 hRG h3 ⟨hR, hG, fun p hp => ?_, hrow, by omega⟩ ⟨n6, n5, n1, n2, n3, n4⟩ n0' hB bok p1 p2 hm0 hm1 hmo ?_
  · simp only [List.mem_cons, List.not_mem_nil, or_false] at hp
    rcases hp with h | h | h | h | h <;> rw [h] <;> assumption
  intro rs6 er6 tl6 m6 g6 tk6 F6 N6 S6 M6
  exact law_tail X T hd hu F6 N6 S6 M6 hB bok p3 p4
theorem law_con {w : World} {mg mb : Str → Option Value} {s : Shared} {A : Around} {Sa : Addr} {vs : List Value} {ns : List Int} {E : Value → Shared → Prop}
    (r : Rdy w mg mb s.heap) (hh : A.handled = none) (hd : A.depth + 25 < recursionLimit) (hu : A.units + 700 < cLine) (hl : s.heap.IsList Sa vs.toArray) (hI : IntsAre vs ns) (hn : ns.length ≤ 63) :
    wpAny (model PR w) A (call (.ref 104) [.ref Sa]) (Ret s (fun _ _ v => v = .bool true)) E s := by
  have hr := r
  obtain ⟨Ah, dp, fr, gd, un⟩ := A
  dsimp only at hh hd hu
  subst hh
  w_on
  k_dflt (walk_at "my enterC")
  rename_i L h tk F X T o3 o2 o1 d3 d2 d1 N
  have F1 : Fr s.heap L h (fun _ => none) := F
  have e1 : o1.data = .cell (some (.ref Sa)) := d1
  have e2 : o2.data = .cell none := d2
  have e3 : o3.data = .cell none := d3
  have N1 : News s.heap L h [(L + 3, o3), (L + 2, o2), (L + 1, o1)] := N
  exact law_body (s := s) (fr := fr) (gd := gd) (tk := tk) X T (by omega) (by omega) hl hI hn F1 N1 e1 e2 e3
end Mine
set_option maxRecDepth 100000 in
set_option maxHeartbeats 8000000 in
theorem PySem.Challenge.cw_pg0030_01_holds : PySem.Challenge.rw_pg0030_01.Holds := by
  exact Mine.hd (by
  k_fill
  intro w s₀ s₁ mg mb G Y fa o pm cd doc dV kV ho hd hcd hD hmg hg args vals as hpre hlay hrd hwl hlo
  have KX := kIn_of Y
  refine Ground.open G ?_
  intro T B D TE TW
  have TR := topRead_of T
  have e1 := mg_of (n := Str.ofString "law") (v := .ref 104) KX (Top.g T) (by k_is)
  have hmg' : mg (Str.ofString "law") = some (.ref fa) := hmg
  rw [hmg'] at e1
  have e2 : fa = 104 := by cases e1; rfl
  subst e2
  clear e1 hmg hmg' hd ho hcd hD
  wrow_args hpre hlay hrd hwl hlo
  rename_i ns hs hlay0 hL1 hr1 hl2 as1 as2 Sa vs as3 hL ra w1 r0 hI hr2 hcond hc2
  refine wpAny_mono (Mine.law_con (mg := mg) (mb := mb) (E := fun _ _ => False) ⟨KX, TR⟩ rfl (by decide) (by decide) hL hI (by omega)) (fun v s' hv => ?_) (fun _ _ e => e.elim)
  obtain ⟨⟨h', tk', rfl, hk⟩, rfl⟩ := hv
  refine GoodW.toG ⟨.inl ⟨_, _, _, rfl, fun cls => ?_, ReadsW.bool true, ?_, unshared_nil⟩, hk, rfl, hg⟩
  · rfl
  · wrow_post)
