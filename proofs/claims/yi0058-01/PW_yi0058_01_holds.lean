import PyProof.Rows.All
import Wide.All
import OpenK.AllK
import Wide.FinOn
import Lean
import PySem.Challenge.RW_yi0058_01
open PySem PySem.W PyProof.Rows
set_option Elab.async false
set_option maxRecDepth 100000
set_option maxHeartbeats 8000000
namespace Mine
section
local macro_rules | `(tactic| o_head $_) => `(tactic| assumption)
theorem fr : OpenRow.Holds PySem.Challenge.rw_yi0058_01.row → OpenRow.Holds PySem.Challenge.rw_yi0058_01.row := by
  intro _
  k_head
end
end Mine
open PySem.Spec PySem.Calls
local macro_rules | `(tactic| k_in) => `(tactic| with_reducible first | k_in_fast | assumption | exact Frag.In.keeps (by assumption) (Fr.keep (by assumption)))
namespace Mine
theorem wp_text2 {M : Model} {A : Around} {E : Value → Shared → Prop} {s : Shared} {Q : Value → Shared → Prop} {v : Value} {text : List Nat} {n : Int}
    (hs : (text.takeWhile (· != 0)).length ≤ 640) (hr : (int_private% "readNumeral") 0 2 (text.takeWhile (· != 0)) = (int_private% "Numeral.value") n)
    (ha : ((text.takeWhile (· != 0)).length == text.length) = true) (h : Q (.int n s.toks) { s with toks := s.toks + 1 }) :
    wpAny M A ((int_private% "intFromText") v text 2) Q E s := by
  obtain ⟨hp, g, d, tk, os⟩ := s
  repeat (any_goals (first
    | assumption
    | (with_reducible refine wpAny_ite_true (decide_eq_true hs) ?_)
    | (with_reducible refine wpAny_ite_true (decide_eq_true ha) ?_)
    | wp_step))
  all_goals (try rw [hr])
  all_goals (try dsimp only)
  repeat (any_goals (first
    | assumption
    | (with_reducible refine wpAny_ite_true (decide_eq_true hs) ?_)
    | (with_reducible refine wpAny_ite_true (decide_eq_true ha) ?_)
    | wp_step))
theorem args_init3 (o a b : Value) : argsOk "object.__init__" ⟨[o, a, b], []⟩ := by unfold argsOk; kernel_rfl
theorem typeCall_int2 (a b : Value) : checkTypeCall "int" ⟨[a, b], []⟩ = pure () := by kernel_rfl
theorem newCall_int2 (a b : Value) : checkBuiltinCall "int.__new__" ⟨[.type "int", a, b], []⟩ = pure () := by kernel_rfl
theorem gives_int2 {x : PySem.Str} {u v : Tok} {n : Int} (hs : (numSeenOf x).length ≤ 640)
    (hr : (int_private% "readNumeral") 0 2 (numSeenOf x) = (int_private% "Numeral.value") n) (ha : ((numSeenOf x).length == (numTextOf x).length) = true) :
    Gives (Builtin.«int.__new__» ⟨[.type "int", .str x u, .int 2 v], []⟩) (.int n) :=
  .of_wp fun M A E s Q h => by
    obtain ⟨hp, g, d, tk, os⟩ := s
    have f1 := F.conv_sub_int
    have f2 := F.madeHere_int
    have f6 : typeOf (.str x u) = pure (.type "str") := rfl
    have hk := KIN.Hid.mk (And.intro hs (And.intro hr ha))
    clear hs hr ha
    repeat (any_goals (first
      | assumption
      | ((with_reducible show wpAny _ _ ((int_private% "intFromText") _ _ _) _ _ _); refine wp_text2 hk.out.1 hk.out.2.1 hk.out.2.2 ?_)
      | wp_step))
    all_goals first | exact ⟨_, rfl, h⟩ | trace_state
section
variable {prog : Program} {w : World} {A : Around} {E : Value → Shared → Prop} {s : Shared} {Q : Value → Shared → Prop}
theorem call_int2 {x : PySem.Str} {u v : Tok} {n : Int} (hs : (numSeenOf x).length ≤ 640)
    (hr : (int_private% "readNumeral") 0 2 (numSeenOf x) = (int_private% "Numeral.value") n) (ha : ((numSeenOf x).length == (numTextOf x).length) = true)
    (h : Q (.int n s.toks) { s with toks := s.toks + 1 }) : wpAny (model prog w) A (call (.type "int") [.str x u, .int 2 v]) Q E s :=
  callType_new F.called_int F.newNe_int (typeCall_int2 _ _) (newCall_int2 _ _) (fun obj => args_init3 obj _ _) F.entry_int_new (gives_int2 hs hr ha).meets (show (Made.int n).post _ s from ⟨rfl, h⟩)
end
end Mine
namespace Mine
/-- the texts of _br: the binary digits of i below 128, filled up to seven, turned about -/
def bx1 (i : Int) : Str := baseText "0b" 2 (Builtin.bitAnd i (2 ^ Int.toNat 7 - 1))
def bx2 (i : Int) : Str := Txt.slice (bx1 i) (some 2) none
def bx3 (i : Int) : Str := Txt.zfill (bx2 i) 7
def bx4 (i : Int) (u : Tok) : Str := Txt.sliceBy (bx3 i) none none (-1, u)
/-- the seven bits turned about -/
def br7 (i : Nat) : Nat := (List.range 7).foldl (fun a j => 2 * a + (i / 2 ^ j) % 2) 0
noncomputable def isVal (n : Int) (x : (int_private% "Numeral")) : Bool := (int_private% "Numeral.casesOn") (motive := fun _ => Bool) x false (fun _ => false) false (fun m => m == n)
theorem isVal_spec {n : Int} {x : (int_private% "Numeral")} (h : isVal n x = true) : x = (int_private% "Numeral.value") n := by
  cases x with
  | value i =>
    have e : (i == n) = true := h
    rw [beq_iff_eq] at e
    rw [e]
  | _ => exact absurd h Bool.false_ne_true
theorem bx_all : ∀ k : Nat, k < 128 → (decide ((bx1 (k : Int)).length ≤ 9) && decide ((bx2 (k : Int)).length ≤ 7) && decide ((bx3 (k : Int)).length ≤ 7) && decide ((numSeenOf (bx4 (k : Int) 0)).length ≤ 640) && ((numSeenOf (bx4 (k : Int) 0)).length == (numTextOf (bx4 (k : Int) 0)).length) &&
    isVal (br7 k : Int) ((int_private% "readNumeral") 0 2 (numSeenOf (bx4 (k : Int) 0)))) = true := by decide +kernel
theorem bx4_tok (i : Int) (u : Tok) : bx4 i u = bx4 i 0 := rfl
theorem bx_len {i : Int} (h0 : 0 ≤ i) (h1 : i < 128) : (bx1 i).length ≤ 9 ∧ (bx2 i).length ≤ 7 ∧ (bx3 i).length ≤ 7 := by
  obtain ⟨k, rfl⟩ := Int.eq_ofNat_of_zero_le h0
  have h := bx_all k (by omega)
  simp only [Bool.and_eq_true, decide_eq_true_eq] at h
  exact ⟨h.1.1.1.1.1, h.1.1.1.1.2, h.1.1.1.2⟩
theorem bx_read {i : Int} (h0 : 0 ≤ i) (h1 : i < 128) (u : Tok) : (numSeenOf (bx4 i u)).length ≤ 640 ∧ ((numSeenOf (bx4 i u)).length == (numTextOf (bx4 i u)).length) = true ∧
    (int_private% "readNumeral") 0 2 (numSeenOf (bx4 i u)) = (int_private% "Numeral.value") (br7 i.toNat : Int) := by
  rw [bx4_tok]
  obtain ⟨k, rfl⟩ := Int.eq_ofNat_of_zero_le h0
  have h := bx_all k (by omega)
  simp only [Bool.and_eq_true, decide_eq_true_eq] at h
  exact ⟨h.1.1.2, h.1.2, by rw [Int.toNat_natCast]; exact isVal_spec h.2⟩
end Mine
namespace Mine
/-! ## plain functions: what from_ntt reckons -/
def bstep (l : Nat) (z : Int) (cs : List Int) (j : Nat) : List Int :=
  (cs.set j (cs.getD j 0 + cs.getD (j + l) 0)).set (j + l) (z * (cs.getD (j + l) 0 - cs.getD j 0))
def bturns (l : Nat) (z : Int) (s : Nat) : Nat → List Int → List Int
  | 0, cs => cs
  | n + 1, cs => bstep l z (bturns l z s n cs) (s + n)
def blocks (l : Nat) (zs : List Int) (k : Nat) : Nat → List Int → List Int
  | 0, cs => cs
  | b + 1, cs => bturns l (zs.getD (k - b) 0) (2 * l * b) l (blocks l zs k b cs)
def layers (zs : List Int) : Nat → List Int → List Int
  | 0, cs => cs
  | i + 1, cs => blocks (2 ^ (i + 1)) zs (2 ^ (7 - i) - 1) (2 ^ (6 - i)) (layers zs i cs)
def scaled (f : Int) : Nat → List Int → List Int
  | 0, cs => cs
  | n + 1, cs => (scaled f n cs).set n (Int.fmod ((scaled f n cs).getD n 0 * f) 3329)
theorem bstep_len (l : Nat) (z : Int) (cs : List Int) (j : Nat) : (bstep l z cs j).length = cs.length := by simp [bstep]
theorem bturns_len (l : Nat) (z : Int) (s : Nat) (cs : List Int) : ∀ n, (bturns l z s n cs).length = cs.length
  | 0 => rfl
  | n + 1 => by rw [bturns, bstep_len, bturns_len l z s cs n]
theorem blocks_len (l : Nat) (zs : List Int) (k : Nat) (cs : List Int) : ∀ b, (blocks l zs k b cs).length = cs.length
  | 0 => rfl
  | b + 1 => by rw [blocks, bturns_len, blocks_len l zs k cs b]
theorem layers_len (zs cs : List Int) : ∀ i, (layers zs i cs).length = cs.length
  | 0 => rfl
  | i + 1 => by rw [layers, blocks_len, layers_len zs cs i]
theorem scaled_len (f : Int) (cs : List Int) : ∀ n, (scaled f n cs).length = cs.length
  | 0 => rfl
  | n + 1 => by rw [scaled, List.length_set, scaled_len f cs n]
/-! ## a loop over a range, by a word over the turn's number -/
theorem range_inv {prog : Program} {w : World} {A : Around} {E : Value → Shared → Prop} {s : Shared} {env : Env} {h₀ : Heap} {x : Str} {body : List Stmt} {Q : Flow → Shared → Prop}
    {r : Addr} {a₀ b₀ : Int} {t₀ u₀ v₀ : Tok} {n : Nat} {m₀ : Str → Option Value} {news : List (Addr × Obj)} (J : Nat → (Str → Option Value) → List (Addr × Obj) → Prop)
    (hh : A.handled = none) (hr : IsRange s.heap r a₀ b₀ 1 t₀ u₀ v₀) (hsmall : Builtin.Range.small a₀ b₀ 1 = true) (hn : (b₀ - a₀).toNat = n)
    (F : Fr h₀ env.locals s.heap m₀) (N : News h₀ env.locals s.heap news) (hj : J 0 m₀ news)
    (turn : ∀ i t m₁ news₁ h tk own, i < n → news₁.map (·.1) = news.map (·.1) → OwnOff own (news.map (·.1)) → J i m₁ news₁ →
      Fr h₀ env.locals h (fun y => if y = x then some (.int (a₀ + (i : Int)) t) else m₁ y) → News h₀ env.locals h (news₁ ++ own) →
      wpAny (model prog w) A (execs body env) (InvPostN h₀ env.locals (J (i + 1)) own (news.map (·.1)) { s with heap := h, toks := tk } Q) E { s with heap := h, toks := tk })
    (done : ∀ m₁ news₁ h tk, J n m₁ news₁ → Fr h₀ env.locals h m₁ → News h₀ env.locals h news₁ → Q .next { s with heap := h, toks := tk }) :
    wpAny (model prog w) A (pyIter (.ref r)) (fun it s₂ => LoopAtV prog w A h₀ env x body Q E it s₂) E s := by
  refine wpAny_pyIter_range hr hsmall ?_
  have hsz : Builtin.Range.rangeSize a₀ b₀ 1 = (n : Int) := by rw [rangeSize_nat, hn]
  have W := (Walks.range (prog := prog) (w := w) hh s.heap.objs.size a₀ 1 n).bound
  have new : ∀ p ∈ news, p.1 ∉ [s.heap.objs.size] := fun p hp hI =>
    absurd (Heap.lt_size (N p hp).1) (by rw [List.mem_singleton.mp hI]; exact Nat.lt_irrefl _)
  refine loop_invN J W ?_ ?_ new new ?_ (F.push _) (fun p hp => ⟨Heap.get?_push_of_some _ (N p hp).1, (N p hp).2⟩) hj ?_ done
  · intro hm
    exact absurd F.ns.lt (by rw [List.mem_singleton.mp hm]; exact Nat.lt_irrefl _)
  · intro b hb
    rw [List.mem_singleton.mp hb]
    exact next_is_new F
  · show IsRangeIter _ _ _ _ _
    rw [hsz]
    simpa using Heap.get?_push_size _ rfl
  · rintro i v m₁ news₁ h tk own hi ⟨_, t, rfl⟩ ha hoff hJ F₁ N₁
    have e : a₀ + (i : Int) * 1 = a₀ + (i : Int) := by omega
    rw [e] at F₁
    exact turn i t m₁ news₁ h tk own hi ha hoff hJ F₁ N₁
/-- two names turned: the frame's map, spelt out -/
theorem map_xy {x y : Str} {v : Option Value} {m₁ m₀ : Str → Option Value} (h : ∀ z, z ≠ x → z ≠ y → m₁ z = m₀ z) :
    (fun z => if z = x then v else m₁ z) = fun z => if z = x then v else if z = y then m₁ y else m₀ z := by
  funext z
  by_cases h1 : z = x
  · simp [h1]
  · by_cases h2 : z = y
    · subst h2; simp [h1]
    · simp only [h1, h2, if_false]; exact h z h1 h2
theorem map_at {x y : Str} {v : Option Value} {m₁ m₀ : Str → Option Value} (hx : m₁ x = v) (h : ∀ z, z ≠ x → z ≠ y → m₁ z = m₀ z) :
    m₁ = fun z => if z = x then v else if z = y then m₁ y else m₀ z := by
  rw [← map_xy h]
  funext z
  by_cases h1 : z = x
  · simp [h1, hx]
  · simp [h1]
end Mine
namespace Mine
/-- what holds of the frame and the ledger behind i turns of a loop over a range, that turns one list of ints and two names -/
def JT (led : List Value → List (Addr × Obj)) (f : Nat → List Int) (a₀ : Int) (x y : Str) (m₀ : Str → Option Value) (i : Nat) (m : Str → Option Value) (nx : List (Addr × Obj)) : Prop :=
  ∃ us, nx = led us ∧ IntsAre us (f i) ∧ (i = 0 ∨ ∃ t, m x = some (.int (a₀ + (i : Int) - 1) t)) ∧ ∀ z, z ≠ x → z ≠ y → m z = m₀ z
theorem range_jt {prog : Program} {w : World} {A : Around} {E : Value → Shared → Prop} {s : Shared} {env : Env} {h₀ : Heap} {x : Str} {body : List Stmt} {Q : Flow → Shared → Prop}
    {r L : Addr} {a₀ b₀ : Int} {t₀ u₀ v₀ : Tok} {n : Nat} {m₀ : Str → Option Value} (y : Str) (led : List Value → List (Addr × Obj)) (f : Nat → List Int) (us₀ : List Value) (hL : env.locals = L)
    (hh : A.handled = none) (hr : IsRange s.heap r a₀ b₀ 1 t₀ u₀ v₀) (hsmall : Builtin.Range.small a₀ b₀ 1 = true) (hn : (b₀ - a₀).toNat = n) (hn0 : 0 < n)
    (F : Fr h₀ L s.heap m₀) (N : News h₀ L s.heap (led us₀)) (hi : IntsAre us₀ (f 0))
    (turn : ∀ i us u t h tk own, i < n → OwnOff own ((led us₀).map (·.1)) → IntsAre us (f i) →
      Fr h₀ L h (fun z => if z = x then some (.int (a₀ + (i : Int)) t) else if z = y then u else m₀ z) → News h₀ L h (led us ++ own) →
      wpAny (model prog w) A (execs body env) (InvPostN h₀ L (JT led f a₀ x y m₀ (i + 1)) own ((led us₀).map (·.1)) { s with heap := h, toks := tk } Q) E { s with heap := h, toks := tk })
    (done : ∀ us u t h tk, IntsAre us (f n) → Fr h₀ L h (fun z => if z = x then some (.int (b₀ - 1) t) else if z = y then u else m₀ z) → News h₀ L h (led us) → Q .next { s with heap := h, toks := tk }) :
    wpAny (model prog w) A (pyIter (.ref r)) (fun it s₂ => LoopAtV prog w A h₀ env x body Q E it s₂) E s := by
  subst hL
  refine range_inv (JT led f a₀ x y m₀) hh hr hsmall hn F N ⟨us₀, rfl, hi, .inl rfl, fun _ _ _ => rfl⟩ ?_ ?_
  · rintro i t m₁ nx h tk own hi ha hoff ⟨us, rfl, hu, _, hm⟩ F₁ N₁
    rw [map_xy hm] at F₁
    exact turn i us (m₁ y) t h tk own hi hoff hu F₁ N₁
  · rintro m₁ nx h tk ⟨us, rfl, hu, hx, hm⟩ F₁ N₁
    rcases hx with h0 | ⟨t, hx⟩
    · exact absurd h0 (Nat.ne_of_gt hn0)
    · refine done us (m₁ y) t h tk hu ?_ N₁
      have e : a₀ + (n : Int) - 1 = b₀ - 1 := by omega
      rw [e] at hx
      rw [map_at hx hm] at F₁
      exact F₁
theorem jt_end {led : List Value → List (Addr × Obj)} {f : Nat → List Int} {a₀ : Int} {x y : Str} {m₀ m' : Str → Option Value} {i : Nat} {h₀ h' : Heap} {L : Addr} {own news' : List (Addr × Obj)} {adr : List Addr} {s₁ : Shared} {tk : Nat}
    {us' : List Value} {cs' : List Int} {t : Tok} (F : Fr h₀ L h' m') (N : News h₀ L h' news') (hn : ∀ p ∈ led us', p ∈ news') (ho : ∀ p ∈ own, p ∈ news') (ha : (led us').map (·.1) = adr)
    (hi : IntsAre us' cs') (he : cs' = f (i + 1)) (hx : m' x = some (.int (a₀ + (i : Int)) t)) (hm : ∀ z, z ≠ x → z ≠ y → m' z = m₀ z) :
    InvEndN h₀ L (JT led f a₀ x y m₀ (i + 1)) own adr s₁ { s₁ with heap := h', toks := tk } := by
  refine InvEndN.intro F N ⟨us', rfl, he ▸ hi, .inr ⟨t, ?_⟩, hm⟩ ha hn ho
  rw [hx]
  have e : a₀ + ((i + 1 : Nat) : Int) - 1 = a₀ + (i : Int) := by omega
  rw [e]
end Mine
namespace Mine
structure SO where
  us : List Value
  cs : List Int
  l : Int
  k : Int
  tl : Tok
  tk : Tok
structure SI where
  us : List Value
  cs : List Int
  s : Int
  k : Int
  ts : Tok
  tk : Tok
def OutR (i : Nat) (l k : Int) : Prop :=
  (i = 0 ∧ l = 2 ∧ k = 127) ∨ (i = 1 ∧ l = 4 ∧ k = 63) ∨ (i = 2 ∧ l = 8 ∧ k = 31) ∨ (i = 3 ∧ l = 16 ∧ k = 15) ∨
  (i = 4 ∧ l = 32 ∧ k = 7) ∨ (i = 5 ∧ l = 64 ∧ k = 3) ∨ (i = 6 ∧ l = 128 ∧ k = 1) ∨ (i = 7 ∧ l = 256 ∧ k = 0)
theorem OutR.bnd {i : Nat} {l k : Int} (h : OutR i l k) : 2 ≤ l ∧ l ≤ 256 ∧ 0 ≤ k ∧ k ≤ 127 ∧ i ≤ 7 := by
  unfold OutR at h; omega
theorem OutR.last {i : Nat} {l k : Int} (h : OutR i l k) (hl : ¬ l ≤ 128) : i = 7 := by
  unfold OutR at h; omega
/-- b blocks are done: the next one stands whole -/
theorem OutR.blk {i b : Nat} {l k s : Int} (h : OutR i l k) (hl : l ≤ 128) (hs : s = 2 * l * (b : Int)) (hlt : s < 256) : s + 2 * l ≤ 256 ∧ 1 ≤ k - (b : Int) ∧ k - (b : Int) ≤ 127 := by
  unfold OutR at h
  rcases h with ⟨_, rfl, rfl⟩ | ⟨_, rfl, rfl⟩ | ⟨_, rfl, rfl⟩ | ⟨_, rfl, rfl⟩ | ⟨_, rfl, rfl⟩ | ⟨_, rfl, rfl⟩ | ⟨_, rfl, rfl⟩ | ⟨_, rfl, rfl⟩ <;> omega
theorem OutR.all {i b : Nat} {l k s : Int} (h : OutR i l k) (hl : l ≤ 128) (hs : s = 2 * l * (b : Int)) (hle : s ≤ 256) (hge : ¬ s < 256) :
    b = 2 ^ (6 - i) ∧ l.toNat = 2 ^ (i + 1) ∧ k.toNat = 2 ^ (7 - i) - 1 ∧ OutR (i + 1) (l + l) (k - (b : Int)) := by
  unfold OutR at h
  rcases h with ⟨rfl, rfl, rfl⟩ | ⟨rfl, rfl, rfl⟩ | ⟨rfl, rfl, rfl⟩ | ⟨rfl, rfl, rfl⟩ | ⟨rfl, rfl, rfl⟩ | ⟨rfl, rfl, rfl⟩ | ⟨rfl, rfl, rfl⟩ | ⟨rfl, rfl, rfl⟩
  · have : b = 64 := by omega
    subst this; refine ⟨by decide, by decide, by decide, ?_⟩; unfold OutR; omega
  · have : b = 32 := by omega
    subst this; refine ⟨by decide, by decide, by decide, ?_⟩; unfold OutR; omega
  · have : b = 16 := by omega
    subst this; refine ⟨by decide, by decide, by decide, ?_⟩; unfold OutR; omega
  · have : b = 8 := by omega
    subst this; refine ⟨by decide, by decide, by decide, ?_⟩; unfold OutR; omega
  · have : b = 4 := by omega
    subst this; refine ⟨by decide, by decide, by decide, ?_⟩; unfold OutR; omega
  · have : b = 2 := by omega
    subst this; refine ⟨by decide, by decide, by decide, ?_⟩; unfold OutR; omega
  · have : b = 1 := by omega
    subst this; refine ⟨by decide, by decide, by decide, ?_⟩; unfold OutR; omega
  · omega
/-- the words of the two whiles -/
def WO (zns ns : List Int) (l k : Int) (cs : List Int) : Prop := ∃ i, OutR i l k ∧ cs = layers zns i ns
def WI (zns cs₀ : List Int) (l k₀ s k : Int) (cs : List Int) : Prop := ∃ b : Nat, s = 2 * l * (b : Int) ∧ k = k₀ - (b : Int) ∧ cs = blocks l.toNat zns k₀.toNat b cs₀ ∧ s ≤ 256
theorem WI.facts {zns cs₀ cs : List Int} {l k₀ s k : Int} {i : Nat} (hO : OutR i l k₀) (hl : l ≤ 128) (h : WI zns cs₀ l k₀ s k cs) : 0 ≤ s ∧ s ≤ 256 ∧ (s < 256 → s + 2 * l ≤ 256 ∧ 1 ≤ k ∧ k ≤ 127) ∧ cs.length = cs₀.length := by
  obtain ⟨b, hs, rfl, rfl, hle⟩ := h
  have h0 : 0 ≤ 2 * l * (b : Int) := Int.mul_nonneg (by have := hO.bnd; omega) (Int.natCast_nonneg b)
  exact ⟨by omega, hle, fun hlt => hO.blk hl hs hlt, blocks_len ..⟩
theorem WI.next {zns cs₀ cs : List Int} {l k₀ s k : Int} {i : Nat} (hO : OutR i l k₀) (hl : l ≤ 128) (h : WI zns cs₀ l k₀ s k cs) (hlt : s < 256) {s' k' : Int} {cs' : List Int}
    (hs' : s' = s + 2 * l) (hk' : k' = k - 1) (hc' : cs' = bturns l.toNat (zns.getD k.toNat 0) s.toNat l.toNat cs) : WI zns cs₀ l k₀ s' k' cs' := by
  have hf := h.facts hO hl
  have hb := hO.bnd
  obtain ⟨b, hs, rfl, rfl, hle⟩ := h
  obtain ⟨h1, _, h3, _⟩ := hf
  obtain ⟨h4, h5, h6⟩ := h3 hlt
  refine ⟨b + 1, ?_, ?_, ?_, by omega⟩
  · rw [hs', hs, Int.natCast_add, Int.mul_add]; omega
  · rw [hk']; omega
  · rw [hc', blocks]
    have e1 : (k₀ - (b : Int)).toNat = k₀.toNat - b := by omega
    have e2 : s.toNat = 2 * l.toNat * b := by
      rw [hs]
      have e3 : l = (l.toNat : Int) := by omega
      have e4 : 2 * l * (b : Int) = ((2 * l.toNat * b : Nat) : Int) := by
        rw [e3]
        push_cast
        rfl
      rw [e4, Int.toNat_natCast]
    rw [e1, e2]
theorem WI.leave {zns ns cs₀ cs : List Int} {l k₀ s k : Int} {i : Nat} (hO : OutR i l k₀) (hl : l ≤ 128) (h0 : cs₀ = layers zns i ns) (h : WI zns cs₀ l k₀ s k cs) (hge : ¬ s < 256) {l' : Int} (hl' : l' = l + l) : WO zns ns l' k cs := by
  obtain ⟨b, hs, rfl, rfl, hle⟩ := h
  obtain ⟨e1, e2, e3, e4⟩ := hO.all hl hs hle hge
  subst hl'
  refine ⟨i + 1, e4, ?_⟩
  rw [layers, e1, e2, e3, h0]
/-- a turn of the butterfly, as the walk hands it on -/
theorem walk_step {cs : List Int} {j l z : Int} (hj : 0 ≤ j) (hl : 0 < l) (hlen : j + l < (cs.length : Int)) :
    ((cs.set j.toNat (cs.getD j.toNat 0 + cs.getD (j + l).toNat 0)).set (j + l).toNat ((cs.set j.toNat (cs.getD j.toNat 0 + cs.getD (j + l).toNat 0)).getD (j + l).toNat 0 - cs.getD j.toNat 0)).set (j + l).toNat
      (z * ((cs.set j.toNat (cs.getD j.toNat 0 + cs.getD (j + l).toNat 0)).set (j + l).toNat ((cs.set j.toNat (cs.getD j.toNat 0 + cs.getD (j + l).toNat 0)).getD (j + l).toNat 0 - cs.getD j.toNat 0)).getD (j + l).toNat 0) =
    bstep l.toNat z cs j.toNat := by
  have e : (j + l).toNat = j.toNat + l.toNat := by omega
  have h1 : j.toNat + l.toNat < cs.length := by omega
  have hne : j.toNat ≠ j.toNat + l.toNat := by omega
  rw [e, List.set_set]
  unfold bstep
  have g1 : (cs.set j.toNat (cs.getD j.toNat 0 + cs.getD (j.toNat + l.toNat) 0)).getD (j.toNat + l.toNat) 0 = cs.getD (j.toNat + l.toNat) 0 := by
    simp only [List.getD_eq_getElem?_getD, List.getElem?_set_ne hne]
  rw [g1]
  congr 1
  congr 1
  simp [List.getD, h1]
end Mine
namespace Mine
theorem shl_one (l : Int) : l * 2 ^ Int.toNat 1 = l + l := by
  show l * 2 = l + l
  omega
end Mine
namespace Mine
section
variable {M : Model} {A : Around} {E : Value → Shared → Prop} {s : Shared} {K : Frag} {env : Env} {pos : Pos} {x C : Addr} {ox : Obj} {od : Option Obj} {first : List Value} {Q : Value → Shared → Prop}
/-- an object of an own class called, with keywords -/
theorem callWith_instKW {e : Expr} {rest : List Expr} {kws : List Keyword} (_X : K.In s.heap) (_I : InstAt s.heap x ox C od) (hd : ox.data = .plain) (hall : (backToKw pos (keywordEach kws env)).all (·.1.isSome) = true)
    (h : wpAny M A (spliced (backTo pos (starEach (e :: rest) env))) (fun vs s₁ => wpAny M A (evalAll ((backToKw pos (keywordEach kws env)).map (·.2)))
      (fun ks s₂ => kco_P K x C ox od s₂.heap ∧ wpAny M A (call (.ref x) (first ++ vs) (((backToKw pos (keywordEach kws env)).filterMap (·.1)).zip ks)) Q E s₂) E s₁) E s)
    (hplain : ((backTo pos (starEach (e :: rest) env)).any (·.1) || (backToKw pos (keywordEach kws env)).any (·.1.isNone)) = false := by rfl) (he : starEach (e :: rest) env = (false, eval e env) :: starEach rest env := by rfl) :
    wpAny M A (callWith pos (.ref x) first (backTo pos (starEach (e :: rest) env)) (backToKw pos (keywordEach kws env))) Q E s :=
  kco_callWith_of hplain hd (evalArgs_kw2 hall h he)
end
end Mine
namespace Mine
/-- a loop over a range by any step, that turns one list of ints and stores no name but its own -/
def JD (D : Addr) (cD : Nat) (led : List (Addr × Obj)) (f : Nat → List Int) (x : Str) (m₀ : Str → Option Value) (i : Nat) (m : Str → Option Value) (nx : List (Addr × Obj)) : Prop :=
  ∃ us : List Value, nx = (D, listOf us.toArray cD) :: led ∧ IntsAre us (f i) ∧ ∀ z, z ≠ x → m z = m₀ z
theorem range_d {prog : Program} {w : World} {A : Around} {E : Value → Shared → Prop} {s : Shared} {env : Env} {h₀ : Heap} {x : Str} {body : List Stmt} {Q : Flow → Shared → Prop}
    {r L D : Addr} {a₀ b₀ c : Int} {t₀ u₀ v₀ : Tok} {m₀ : Str → Option Value} {cD : Nat} {led : List (Addr × Obj)} {us₀ : List Value} (n : Nat) (f : Nat → List Int) (hL : env.locals = L)
    (hh : A.handled = none) (hr : IsRange s.heap r a₀ b₀ c t₀ u₀ v₀) (hsmall : Builtin.Range.small a₀ b₀ c = true) (hsz : Builtin.Range.rangeSize a₀ b₀ c = (n : Int))
    (F : Fr h₀ L s.heap m₀) (N : News h₀ L s.heap ((D, listOf us₀.toArray cD) :: led)) (hi : IntsAre us₀ (f 0))
    (turn : ∀ i us t h tk own, i < n → OwnOff own (D :: led.map (·.1)) → IntsAre us (f i) →
      Fr h₀ L h (fun z => if z = x then some (.int (a₀ + (i : Int) * c) t) else m₀ z) → News h₀ L h (((D, listOf us.toArray cD) :: led) ++ own) →
      wpAny (model prog w) A (execs body env) (InvPostN h₀ L (JD D cD led f x m₀ (i + 1)) own (D :: led.map (·.1)) { s with heap := h, toks := tk } Q) E { s with heap := h, toks := tk })
    (done : ∀ us u h tk, IntsAre us (f n) → Fr h₀ L h (fun z => if z = x then u else m₀ z) → News h₀ L h ((D, listOf us.toArray cD) :: led) → Q .next { s with heap := h, toks := tk }) :
    wpAny (model prog w) A (pyIter (.ref r)) (fun it s₂ => LoopAtV prog w A h₀ env x body Q E it s₂) E s := by
  subst hL
  refine wpAny_pyIter_range hr hsmall ?_
  have W := (Walks.range (prog := prog) (w := w) hh s.heap.objs.size a₀ c n).bound
  have new : ∀ p ∈ ((D, listOf us₀.toArray cD) :: led), p.1 ∉ [s.heap.objs.size] := fun p hp hI =>
    absurd (Heap.lt_size (N p hp).1) (by rw [List.mem_singleton.mp hI]; exact Nat.lt_irrefl _)
  have one : ∀ {m₁ : Str → Option Value} {v : Option Value}, (∀ z, z ≠ x → m₁ z = m₀ z) → (fun z => if z = x then v else m₁ z) = fun z => if z = x then v else m₀ z := by
    intro m₁ v h
    funext z
    by_cases h1 : z = x
    · simp [h1]
    · simp only [if_neg h1]; exact h z h1
  refine loop_invN (JD D cD led f x m₀) W ?_ ?_ new new ?_ (F.push _) (fun p hp => ⟨Heap.get?_push_of_some _ (N p hp).1, (N p hp).2⟩) ⟨us₀, rfl, hi, fun _ _ => rfl⟩ ?_ ?_
  · intro hm
    exact absurd F.ns.lt (by rw [List.mem_singleton.mp hm]; exact Nat.lt_irrefl _)
  · intro b hb
    rw [List.mem_singleton.mp hb]
    exact next_is_new F
  · show IsRangeIter _ _ _ _ _
    rw [hsz]
    simpa using Heap.get?_push_size _ rfl
  · rintro i v m₁ nx h tk own hi ⟨_, t, rfl⟩ ha hoff ⟨us, rfl, hu, hm⟩ F₁ N₁
    rw [one hm] at F₁
    exact turn i us t h tk own hi hoff hu F₁ N₁
  · rintro m₁ nx h tk ⟨us, rfl, hu, hm⟩ F₁ N₁
    refine done us (m₁ x) h tk hu ?_ N₁
    have e : m₁ = fun z => if z = x then m₁ x else m₀ z := by
      rw [← one hm]
      funext z
      by_cases h1 : z = x
      · simp [h1]
      · simp [h1]
    rw [← e]
    exact F₁
theorem jd_end {D : Addr} {cD : Nat} {led : List (Addr × Obj)} {f : Nat → List Int} {x : Str} {m₀ m' : Str → Option Value} {i : Nat} {h₀ h' : Heap} {L : Addr} {own news' : List (Addr × Obj)} {adr : List Addr} {s₁ : Shared} {tk : Nat}
    {us' : List Value} {cs' : List Int} (F : Fr h₀ L h' m') (N : News h₀ L h' news') (hn : ∀ p ∈ ((D, listOf us'.toArray cD) :: led) ++ own, p ∈ news') (ha : D :: led.map (·.1) = adr)
    (hi : IntsAre us' cs') (he : cs' = f (i + 1)) (hm : ∀ z, z ≠ x → m' z = m₀ z) :
    InvEndN h₀ L (JD D cD led f x m₀ (i + 1)) own adr s₁ { s₁ with heap := h', toks := tk } :=
  InvEndN.intro F N ⟨us', rfl, he ▸ hi, hm⟩ ha (fun p hp => hn p (List.mem_append_left own hp)) (fun p hp => hn p (List.mem_append_right _ hp))
end Mine
namespace Mine
theorem news_skip {h₀ h : Heap} {L : Addr} {a b : Addr × Obj} {l : List (Addr × Obj)} (N : News h₀ L h (a :: b :: l)) : News h₀ L h (a :: l) := fun q hq =>
  N q ((List.mem_cons.mp hq).elim (fun e => e ▸ .head _) fun h => .tail _ (.tail _ h))
end Mine
namespace Mine
theorem news_ring {h₀ h : Heap} {L : Addr} {z c1 c2 x d : Addr × Obj} {l : List (Addr × Obj)} (N : News h₀ L h (z :: c1 :: c2 :: x :: d :: l)) : News h₀ L h (x :: d :: z :: l) := fun q hq => by
  refine N q ?_
  simp only [List.mem_cons] at hq ⊢
  rcases hq with e | e | e | e
  · exact .inr (.inr (.inr (.inl e)))
  · exact .inr (.inr (.inr (.inr (.inl e))))
  · exact .inl e
  · exact .inr (.inr (.inr (.inr (.inr e))))
/-- the zetas, as the constructor reckons them -/
def zL : List Int := List.map (fun k' : Int => 17 ^ ((br7 k'.toNat : Int)).toNat % 3329) (rangeKs 0 (128 - 0 : Int).toNat)
end Mine
namespace Mine
/-- a loop over a list of the ledger, that grows another one -/
def JG (D : Addr) (led : List (Addr × Obj)) (g : Int → List Int) (ns : List Int) (x : Str) (m₀ : Str → Option Value) (i : Nat) (m : Str → Option Value) (nx : List (Addr × Obj)) : Prop :=
  ∃ (us : List Value) (c : Nat), nx = (D, listOf us.toArray c) :: led ∧ IntsAre us ((ns.take i).flatMap g) ∧ ∀ z, z ≠ x → m z = m₀ z
theorem iter_grow {prog : Program} {w : World} {A : Around} {E : Value → Shared → Prop} {s : Shared} {env : Env} {h₀ : Heap} {x : Str} {body : List Stmt} {Q : Flow → Shared → Prop}
    {L D R : Addr} {m₀ : Str → Option Value} {cD cR : Nat} {led : List (Addr × Obj)} {us₀ rs : List Value} {ns : List Int} (g : Int → List Int) (hL : env.locals = L)
    (hh : A.handled = none) (F : Fr h₀ L s.heap m₀) (N : News h₀ L s.heap ((D, listOf us₀.toArray cD) :: led)) (hR : (R, listOf rs.toArray cR) ∈ led) (hu : IntsAre us₀ []) (hi : IntsAre rs ns)
    (turn : ∀ i n us c t h tk own, ns[i]? = some n → OwnOff own (D :: led.map (·.1)) → IntsAre us ((ns.take i).flatMap g) →
      Fr h₀ L h (fun z => if z = x then some (.int n t) else m₀ z) → News h₀ L h (((D, listOf us.toArray c) :: led) ++ own) →
      wpAny (model prog w) A (execs body env) (InvPostN h₀ L (fun m' nx => (R, listOf rs.toArray cR) ∈ nx ∧ JG D led g ns x m₀ (i + 1) m' nx) own (D :: led.map (·.1)) { s with heap := h, toks := tk } Q) E { s with heap := h, toks := tk })
    (done : ∀ us c u h tk, IntsAre us (ns.flatMap g) → Fr h₀ L h (fun z => if z = x then u else m₀ z) → News h₀ L h ((D, listOf us.toArray c) :: led) → Q .next { s with heap := h, toks := tk }) :
    wpAny (model prog w) A (pyIter (.ref R)) (fun it s₂ => LoopAtV prog w A h₀ env x body Q E it s₂) E s := by
  subst hL
  have one : ∀ {m₁ : Str → Option Value} {v : Option Value}, (∀ z, z ≠ x → m₁ z = m₀ z) → (fun z => if z = x then v else m₁ z) = fun z => if z = x then v else m₀ z := by
    intro m₁ v h
    funext z
    by_cases h1 : z = x
    · simp [h1]
    · simp only [if_neg h1]; exact h z h1
  refine iter_invNL (JG D led g ns x m₀) hh (.tail _ hR) hi F N ⟨us₀, cD, rfl, by simpa using hu, fun _ _ => rfl⟩ ?_ ?_
  · rintro i n t m₁ nx h tk own hn _ hoff _ ⟨us, c, rfl, hi', hm⟩ F₁ N₁
    rw [one hm] at F₁
    exact turn i n us c t h tk own hn hoff hi' F₁ N₁
  · rintro m₁ nx h tk _ ⟨us, c, rfl, hi', hm⟩ F₁ N₁
    rw [List.take_length] at hi'
    refine done us c (m₁ x) h tk hi' ?_ N₁
    have e : m₁ = fun z => if z = x then m₁ x else m₀ z := by
      rw [← one hm]
      funext z
      by_cases h1 : z = x
      · simp [h1]
      · simp [h1]
    rw [← e]
    exact F₁
theorem jg_end {D R : Addr} {rs : List Value} {cR : Nat} {led : List (Addr × Obj)} {g : Int → List Int} {ns : List Int} {x : Str} {m₀ m' : Str → Option Value} {i : Nat} {h₀ h' : Heap} {L : Addr} {own news' : List (Addr × Obj)} {adr : List Addr} {s₁ : Shared} {tk : Nat}
    {us' : List Value} {c : Nat} {cs' : List Int} {n : Int} (F : Fr h₀ L h' m') (N : News h₀ L h' news') (hR : (R, listOf rs.toArray cR) ∈ led) (hn : ∀ p ∈ ((D, listOf us'.toArray c) :: led) ++ own, p ∈ news') (ha : D :: led.map (·.1) = adr)
    (hi : IntsAre us' cs') (hx : ns[i]? = some n) (he : cs' = (ns.take i).flatMap g ++ g n) (hm : ∀ z, z ≠ x → m' z = m₀ z) :
    InvEndN h₀ L (fun m' nx => (R, listOf rs.toArray cR) ∈ nx ∧ JG D led g ns x m₀ (i + 1) m' nx) own adr s₁ { s₁ with heap := h', toks := tk } := by
  refine InvEndN.intro F N (nx := (D, listOf us'.toArray c) :: led) ⟨.tail _ hR, us', c, rfl, ?_, hm⟩ ha (fun p hp => hn p (List.mem_append_left own hp)) (fun p hp => hn p (List.mem_append_right _ hp))
  have e : ns.take (i + 1) = ns.take i ++ [n] := by rw [List.take_add_one, hx]; rfl
  rw [e, List.flatMap_append, List.flatMap_cons, List.flatMap_nil, List.append_nil, ← he]
  exact hi
/-- a row of exponents, halved both ways -/
def halves (e : Int) : List Int := [Int.fdiv e 2, Int.fdiv e 2 + 128]
def rowsE : Nat → List Int
  | 0 => [128]
  | i + 1 => (rowsE i).flatMap halves
theorem halves_pos {ns : List Int} (h : ∀ e ∈ ns, 0 ≤ e) : ∀ e ∈ ns.flatMap halves, 0 ≤ e := by
  intro e he
  obtain ⟨a, ha, hb⟩ := List.mem_flatMap.mp he
  have h0 := h a ha
  have e1 : Int.fdiv a 2 = a / 2 := Int.fdiv_eq_ediv_of_nonneg _ (by decide)
  rw [halves, e1] at hb
  simp only [List.mem_cons, List.not_mem_nil, or_false] at hb
  rcases hb with rfl | rfl <;> omega
end Mine
namespace Mine
/-- a turn's end in a written range gone turn by turn: the iterator stands second in the ledger -/
theorem unr_end {h₀ h' : Heap} {L I : Addr} {s₁ : Shared} {it : Obj} {rest : (Str → Option Value) → List (Addr × Obj) → Prop} {m' : Str → Option Value} {tk : Nat} {a : Addr × Obj} {l : List (Addr × Obj)}
    (F : Fr h₀ L h' m') (N : News h₀ L h' (a :: (I, it) :: l)) (hne : ∀ p ∈ a :: l, p.1 ≠ I) (hr : rest m' (a :: l)) : UnrEnd h₀ L s₁ I it rest { s₁ with heap := h', toks := tk } := by
  refine ⟨h', tk, m', a :: l, rfl, F, fun p hp => N p ?_, hne, hr⟩
  simp only [List.mem_cons] at hp ⊢
  rcases hp with e | e | e
  · exact .inr (.inl e)
  · exact .inl e
  · exact .inr (.inr e)
end Mine
namespace Mine
theorem hinpl : fillsInplaceSlot (.type "list") "add" (Operator.Add == .Add) = pure false := by
  unfold fillsInplaceSlot
  show (typeLookup (.type "list") (dunderI "add") >>= fun fi => pure (fi.isSome && !isSeqSlot fi)) = pure false
  rw [PySem.F.slot_list_iadd.lookup]
  rfl
theorem seq_iadd : seqSlot? (.type "list") (dunderI "add") = pure (some (.builtin "list.__iadd__")) := PySem.seqSlot_of PySem.F.slot_list_iadd.lookup (by decide +kernel)
section
variable {prog : Program} {w : World} {A : Around} {E : Value → Shared → Prop} {s : Shared} {h₀ : Heap} {L D B : Addr} {m : Str → Option Value} {news news' : List (Addr × Obj)} {us ws : List Value} {n k : Nat} {Q : Value → Shared → Prop}
/-- «xs += ys», both lists of the ledger -/
theorem iadd_led (F : Fr h₀ L s.heap m) (N : News h₀ L s.heap news) (hB : (B, listOf ws.toArray k) ∈ news)
    (U : Upd D (listOf us.toArray n) (listOf (us ++ ws).toArray (if (us ++ ws).toArray.size == us.toArray.size then n else n + 1)) news news') (hz : us.length + ws.length ≤ 1000000)
    (h : ∀ h', Fr h₀ L h' m → News h₀ L h' news' → Q (.ref D) { s with heap := h' }) : wpAny (model prog w) A (inplaceOp .Add (.ref D) (.ref B)) Q E s := by
  obtain ⟨pre, post, rfl, rfl, a, b⟩ := U.split
  have z := N (D, listOf us.toArray n) (List.mem_append.mpr (.inr (.head _)))
  have zb := N _ hB
  have hs : us.toArray.size + ws.toArray.size ≤ sizeLine := by rw [sizeLine_eq]; simp only [List.size_toArray]; omega
  have ha : s.TypeIs (.ref D) "list" := ⟨_, z.1, rfl⟩
  have hb : s.TypeIs (.ref B) "list" := ⟨_, zb.1, rfl⟩
  unfold inplaceOp
  refine wpAny_holding ?_
  refine wpAny_bind (wpAny_typeOf ha (wpAny_bind (wpAny_of_eq hinpl ?_)))
  show wpAny _ A (if false = true then _ else _) Q E s
  rw [if_neg Bool.false_ne_true]
  refine wpAny_bind (wpAny_binaryOp1_none (nm := "add") ha hb noFill_list_add ?_)
  refine wpAny_bind (wpAny_of_eq seq_iadd ?_)
  refine wpAny_bind (wpAny_rule ?_)
  refine call_meets PySem.F.slot_list_iadd ha PySem.F.entry_list_iadd (PySem.F.args_list_iadd_2 _ _) (AutoSeq1.list___iadd___list_list_0 D us.toArray n B ws.toArray k ?_ ?_ ?_) ⟨z.1, zb.1, ?_⟩
  · simp only [Bool.and_eq_true, not_and, Bool.not_eq_true]
    intro _
    unfold Builtin.List.listTooLong
    simpa using hs
  · omega
  · omega
  · refine h _ (F.change (Heap.SameBut.update ..) z.2.1 z.2.2) (ki_turn _ N a b ?_ rfl)
    simp
end
theorem flat_len (ns : List Int) : (ns.flatMap halves).length = 2 * ns.length := by
  induction ns with
  | nil => rfl
  | cons a r ih => rw [List.flatMap_cons, List.length_append, ih, List.length_cons]; show 2 + _ = _; omega
end Mine
namespace Mine
theorem turn_len {us : List Value} {ns : List Int} {i : Nat} (h : IntsAre us ((ns.take i).flatMap halves)) (hn : ns.length ≤ 200) : us.length ≤ 1000 := by
  rw [h.length, flat_len, List.length_take]
  omega
end Mine
namespace Mine
theorem rowsE_pos : ∀ (i : Nat), ∀ e ∈ rowsE i, 0 ≤ e
  | 0 => by intro e he; rw [rowsE, List.mem_singleton] at he; subst he; decide
  | i + 1 => halves_pos (rowsE_pos i)
end Mine
namespace Mine
theorem news_drop8 {h₀ h : Heap} {L : Addr} {a b1 b2 b3 b4 b5 b6 b7 b8 : Addr × Obj} {l : List (Addr × Obj)} (N : News h₀ L h (a :: b1 :: b2 :: b3 :: b4 :: b5 :: b6 :: b7 :: b8 :: l)) : News h₀ L h (a :: l) := fun q hq => by
  refine N q ?_
  rcases List.mem_cons.mp hq with e | e
  · exact e ▸ .head _
  · exact .tail _ (.tail _ (.tail _ (.tail _ (.tail _ (.tail _ (.tail _ (.tail _ (.tail _ e))))))))
/-- the roots, as _law_roots reckons them -/
def rL : List Int := List.map (fun a : Int => 17 ^ a.toNat % 3329) (rowsE 7)
end Mine
namespace Mine
/-- a drawn number -/
def drawV (ns : List Int) (k : Int) : Int := if k < (ns.length : Int) then ns.getD k.toNat 0 else 62 + 11 * k + 23 * k * k
end Mine
namespace Mine
/-- the script, kept out of the walk's way -/
structure ScriptIs (h : Heap) (lx : Addr) (vs : List Value) (ns : List Int) : Prop where
  l : h.IsList lx vs.toArray
  i : IntsAre vs ns
  n : ns.length ≤ 63
end Mine
namespace Mine
theorem bnd_comp {a k n : Int} (h : k < 0 + ((n - 0).toNat : Int)) (h0 : 0 ≤ n) (hn : a + n ≤ 1000) : a + k ≤ 1000 := by omega
end Mine
namespace Mine
def manyV (v : Int) : Int := if 256 < v.fmod 300 then 256 else v.fmod 300
theorem many_b (v : Int) : 0 ≤ manyV v ∧ manyV v ≤ 256 := by
  have e : v.fmod 300 = v % 300 := Int.fmod_eq_emod_of_nonneg _ (by decide)
  unfold manyV
  rw [e]
  split <;> omega
theorem news_dup {h₀ h : Heap} {L : Addr} {a b c e1 e2 e3 : Addr × Obj} {l : List (Addr × Obj)} (N : News h₀ L h (a :: b :: c :: l)) (h1 : e1 ∈ l) (h2 : e2 ∈ l) (h3 : e3 ∈ l) :
    News h₀ L h (a :: b :: c :: e1 :: e2 :: e3 :: l) := fun q hq => by
  refine N q ?_
  simp only [List.mem_cons] at hq ⊢
  rcases hq with e | e | e | e | e | e | e
  · exact .inl e
  · exact .inr (.inl e)
  · exact .inr (.inr (.inl e))
  · exact .inr (.inr (.inr (e ▸ h1)))
  · exact .inr (.inr (.inr (e ▸ h2)))
  · exact .inr (.inr (.inr (e ▸ h3)))
  · exact .inr (.inr (.inr e))
end Mine
namespace Mine
theorem many_le (v : Int) : 5 + manyV v ≤ 1000 := by have := (many_b v).2; omega
end Mine

namespace Mine
/-- the row that the law draws -/
def rowL (ns : List Int) : List Int :=
  List.map (fun k' => drawV ns (5 + k')) (rangeKs 0 (manyV (drawV ns 0) - 0).toNat) ++ (List.replicate (256 - manyV (drawV ns 0)).toNat [0]).flatten
theorem flat_one (n : Nat) : (List.replicate n [(0 : Int)]).flatten.length = n := by simp
theorem rowL_len (ns : List Int) : (rowL ns).length = 256 := by
  have h := many_b (drawV ns 0)
  unfold rowL
  rw [List.length_append, List.length_map, rangeKs_length, flat_one]
  omega
structure RowMark : Prop where
  mark :: (one : True)
theorem rowMark : RowMark := ⟨trivial⟩
end Mine
namespace Mine
theorem news_front2 {h₀ h : Heap} {L : Addr} {c e1 e2 : Addr × Obj} {l : List (Addr × Obj)} (N : News h₀ L h (c :: l)) (h1 : e1 ∈ l) (h2 : e2 ∈ l) : News h₀ L h (e1 :: e2 :: c :: l) := fun q hq => by
  refine N q ?_
  simp only [List.mem_cons] at hq ⊢
  rcases hq with e | e | e | e
  · exact .inr (e ▸ h1)
  · exact .inr (e ▸ h2)
  · exact .inl e
  · exact .inr e
end Mine
namespace Mine
theorem zL_len : zL.length = 128 := by rw [zL, List.length_map, rangeKs_length]; rfl
theorem zL_bnd (i : Nat) : 0 ≤ zL.getD i 0 ∧ zL.getD i 0 < 3329 := by
  by_cases h : i < zL.length
  · have e : zL.getD i 0 = zL[i] := by simp [h]
    rw [e]
    have hm : zL[i] ∈ zL := List.getElem_mem h
    generalize zL[i] = v at hm
    obtain ⟨k, _, hk⟩ := List.mem_map.mp (show v ∈ List.map (fun k' : Int => 17 ^ ((br7 k'.toNat : Int)).toNat % 3329) (rangeKs 0 (128 - 0 : Int).toNat) from hm)
    rw [← hk]
    exact ⟨Int.emod_nonneg _ (by decide), Int.emod_lt_of_pos _ (by decide)⟩
  · have e : zL.getD i 0 = 0 := by simp [Nat.not_lt.mp h]
    rw [e]; decide
/-- what from_ntt answers -/
def pL (ns : List Int) : List Int := scaled 3303 256 (layers zL 7 (rowL ns))
theorem pL_len (ns : List Int) : (pL ns).length = 256 := by rw [pL, scaled_len, layers_len, rowL_len]
theorem news_re {h₀ h : Heap} {L : Addr} {a b e1 e2 c e3 : Addr × Obj} {l : List (Addr × Obj)} (N : News h₀ L h (a :: b :: e1 :: e2 :: c :: l)) (h3 : e3 ∈ l) :
    News h₀ L h (a :: b :: c :: e1 :: e2 :: e3 :: l) := fun q hq => by
  refine N q ?_
  simp only [List.mem_cons] at hq ⊢
  rcases hq with e | e | e | e | e | e | e
  · exact .inl e
  · exact .inr (.inl e)
  · exact .inr (.inr (.inr (.inr (.inl e))))
  · exact .inr (.inr (.inl e))
  · exact .inr (.inr (.inr (.inl e)))
  · exact .inr (.inr (.inr (.inr (.inr (e ▸ h3)))))
  · exact .inr (.inr (.inr (.inr (.inr e))))
end Mine
namespace Mine
/-- a fact kept out of the walk's way -/
structure PFact (p : Prop) : Prop where
  out : p
end Mine
namespace Mine
theorem news_lx {h₀ h : Heap} {L : Addr} {a b p1 p2 c : Addr × Obj} {l : List (Addr × Obj)} (N : News h₀ L h (a :: b :: p1 :: p2 :: c :: l)) : News h₀ L h (c :: a :: b :: l) := fun q hq => by
  refine N q ?_
  simp only [List.mem_cons] at hq ⊢
  rcases hq with e | e | e | e
  · exact .inr (.inr (.inr (.inr (.inl e))))
  · exact .inl e
  · exact .inr (.inl e)
  · exact .inr (.inr (.inr (.inr (.inr e))))
theorem scaled_bnd (f : Int) (cs : List Int) : ∀ n, n ≤ cs.length → ∀ i, i < n → 0 ≤ (scaled f n cs).getD i 0 ∧ (scaled f n cs).getD i 0 < 3329
  | 0, _, i, h => absurd h (Nat.not_lt_zero i)
  | n + 1, hn, i, h => by
    rw [scaled, List.getD_eq_getElem?_getD]
    by_cases e : n = i
    · subst e
      rw [List.getElem?_set_self (by rw [scaled_len]; omega), Option.getD_some]
      rw [Int.fmod_eq_emod_of_nonneg _ (by decide)]
      exact ⟨Int.emod_nonneg _ (by decide), Int.emod_lt_of_pos _ (by decide)⟩
    · rw [List.getElem?_set_ne e, ← List.getD_eq_getElem?_getD]
      exact scaled_bnd f cs n (by omega) i (by omega)
theorem pL_bnd (ns : List Int) : ∀ c ∈ pL ns, 0 ≤ c ∧ c < 3329 := by
  intro c hc
  obtain ⟨i, hi, e⟩ := List.mem_iff_getElem.mp hc
  have h1 : i < 256 := by rw [pL_len] at hi; exact hi
  have h := scaled_bnd 3303 (layers zL 7 (rowL ns)) 256 (by rw [layers_len, rowL_len]; exact Nat.le_refl _) i h1
  have e2 : (scaled 3303 256 (layers zL 7 (rowL ns))).getD i 0 = c := by
    rw [← e]
    show (pL ns).getD i 0 = _
    simp [hi]
  rw [e2] at h
  exact h
end Mine
namespace Mine
theorem gives_pow3 (a : Int) (t : Tok) (b : Int) (u : Tok) (c : Int) (v : Tok) (hc0 : ¬(c == 0) = true) (hc1 : ¬ (c.natAbs == 1) = true) (hc2 : ¬ b < 0) (hc3 : ¬ c < 0) :
    Gives (Builtin.«int.__pow__» ⟨[.int a t, .int b u, .int c v], []⟩) (.int ((Builtin.powMod ((a % (c.natAbs : Int)).toNat) b.natAbs c.natAbs : Nat) : Int)) :=
  .of_wp fun M A E s Q h => by
    obtain ⟨hp, g, d, tk, os⟩ := s
    repeat (first
    | with_reducible (first
      | refine wpAny_bind ?_ | refine wpAny_pure ?_ | refine wpAny_rule ?_ | refine wpAny_holding ?_ | refine wpAny_mkInt' ?_
      | refine wpAny_of_eq (by assumption) ?_ | refine wpAny_typeOf (by assumption) ?_ | refine wpAny_specialOf (by assumption) (by assumption) ?_)
    | ((with_reducible refine wpAny_ite_false ?hc ?_); (case hc => first | rfl | (simp [*]; done)))
    | ((with_reducible refine wpAny_ite_true ?hc ?_); (case hc => first | rfl | (simp [*]; done)))
    | wp_delta)
    rw [decide_eq_false hc3]
    exact ⟨_, rfl, h⟩
theorem gives_pow_inv (t u v : Tok) :
    Gives (Builtin.«int.__pow__» ⟨[.int 128 t, .int (-1) u, .int 3329 v], []⟩) (.int 3303) :=
  .of_wp fun M A E s Q h => by
    obtain ⟨hp, g, d, tk, os⟩ := s
    repeat (first
    | with_reducible (first
      | refine wpAny_bind ?_ | refine wpAny_pure ?_ | refine wpAny_rule ?_ | refine wpAny_holding ?_ | refine wpAny_mkInt' ?_
      | refine wpAny_of_eq (by assumption) ?_ | refine wpAny_typeOf (by assumption) ?_ | refine wpAny_specialOf (by assumption) (by assumption) ?_)
    | ((with_reducible refine wpAny_ite_false ?hc ?_); (case hc => first | rfl | (simp [*]; done)))
    | ((with_reducible refine wpAny_ite_true ?hc ?_); (case hc => first | rfl | (simp [*]; done)))
    | wp_delta)
    exact ⟨_, rfl, h⟩
theorem kind_pow : builtinKind "pow" = none := by decide +kernel
theorem plain_pow : plainId "pow" = true := by decide +kernel
theorem entry_pow : entryFor table "pow" = some Builtin.«pow» := entryFor_of_tree (by kernel_rfl)
theorem args_pow (a b c : Value) : argsOk "pow" ⟨[a, b, c], []⟩ := by unfold argsOk; kernel_rfl
section
variable {prog : Program} {w : World} {A : Around} {E : Value → Shared → Prop} {s : Shared} {Q : Value → Shared → Prop}
theorem call_pow_of {a b c r : Int} {t u v : Tok} (hg : Gives (Builtin.«int.__pow__» ⟨[.int a t, .int b u, .int c v], []⟩) (.int r))
    (h : Q (.int r s.toks) { s with toks := s.toks + 1 }) :
    wpAny (model prog w) A (call (.builtin "pow") [.int a t, .int b u, .int c v]) Q E s := by
  refine call_function_entry kind_pow plain_pow entry_pow (args_pow _ _ _) ?_
  obtain ⟨hp, g, d, tk, os⟩ := s
  have hT : (⟨hp, g, d, tk, os⟩ : Shared).TypeIs (.int a t) "int" := rfl
  have f3 : typeLookup (Value.type "int") (Str.ofString "__pow__") = pure (some (Value.builtin "int.__pow__")) := F.slot_int_pow.lookup
  have f4 := F.slot_int_pow.bind (.int a t)
  repeat (any_goals (first
    | assumption
    | ((with_reducible show wpAny _ _ (call (Value.builtin "int.__pow__") _ _) _ _ _); refine call_gives F.slot_int_pow hT F.entry_int_pow (F.args_int_pow_3 _ _ _) hg ?_; dsimp only [Made.post])
    | with_reducible (first
      | refine wpAny_bind ?_ | refine wpAny_pure ?_ | refine wpAny_rule ?_ | refine wpAny_holding ?_ | refine wpAny_mkInt' ?_
      | refine wpAny_of_eq (by assumption) ?_ | refine wpAny_typeOf (by assumption) ?_ | refine wpAny_specialOf (by assumption) (by assumption) ?_)
    | ((with_reducible refine wpAny_ite_false ?hc ?_); (case hc => first | rfl | (simp [*]; done)))
    | ((with_reducible refine wpAny_ite_true ?hc ?_); (case hc => first | rfl | (simp [*]; done)))
    | wp_delta))
  all_goals first | exact ⟨_, rfl, h⟩ | exact h | trace_state
end

theorem powMod_fold (b e m : Nat) : ∀ n p, p = b ^ (e / 2 ^ n) % m →
    (List.range n).reverse.foldl (fun p i => if e.testBit i then p * p % m * b % m else p * p % m) p = b ^ e % m
  | 0, p, h => by simpa using h
  | n + 1, p, h => by
    rw [List.range_succ, List.reverse_append, List.reverse_singleton, List.singleton_append, List.foldl_cons]
    refine powMod_fold b e m n _ ?_
    have hq : e / 2 ^ n = 2 * (e / 2 ^ (n + 1)) + (e / 2 ^ n) % 2 := by
      have h2 : e / 2 ^ (n + 1) = e / 2 ^ n / 2 := by rw [Nat.pow_succ, Nat.div_div_eq_div_mul]
      rw [h2]; omega
    have ht : e.testBit n = decide ((e / 2 ^ n) % 2 = 1) := by
      rw [Nat.testBit_eq_decide_div_mod_eq]
    rw [ht]
    have hb : (e / 2 ^ n) % 2 = 0 ∨ (e / 2 ^ n) % 2 = 1 := by omega
    generalize e / 2 ^ (n + 1) = q at h hq
    generalize hx : e / 2 ^ n = x at hb hq
    rcases hb with h0 | h1
    · rw [h0] at hq ⊢
      rw [Nat.add_zero] at hq
      simp only [show ¬ ((0 : Nat) = 1) by decide, decide_false, Bool.false_eq_true, if_false]
      rw [h, hq, Nat.mul_comm 2 q, Nat.pow_mul b q 2, Nat.pow_two, ← Nat.mul_mod]
    · rw [h1] at hq ⊢
      simp only [decide_true, if_true]
      rw [h, hq, Nat.pow_succ, Nat.mul_comm 2 q, Nat.pow_mul b q 2, Nat.pow_two, ← Nat.mul_mod, Nat.mod_mul_mod]
theorem powMod_spec (b e m : Nat) : Builtin.powMod b e m = b ^ e % m := by
  unfold Builtin.powMod
  refine powMod_fold b e m _ _ ?_
  have h0 : e / 2 ^ (Builtin.Int.intBits (e : Int)) = 0 := by
    unfold Builtin.Int.intBits
    by_cases he : e = 0
    · subst he; simp
    · have : ¬ ((e : Int) == 0) = true := by simp [he]
      rw [if_neg this]
      refine Nat.div_eq_of_lt ?_
      exact Nat.lt_log2_self
  rw [h0, Nat.pow_zero]
section
variable {prog : Program} {w : World} {A : Around} {E : Value → Shared → Prop} {s : Shared} {Q : Value → Shared → Prop}
theorem emod_pow (a c : Int) : ∀ n : Nat, (a % c) ^ n % c = a ^ n % c
  | 0 => by simp
  | n + 1 => by rw [Int.pow_succ, Int.pow_succ, Int.mul_emod, emod_pow a c n, Int.emod_emod, ← Int.mul_emod]
theorem pow_val {a b c : Int} (hb : 0 ≤ b) (hc : 1 < c) : ((Builtin.powMod ((a % (c.natAbs : Int)).toNat) b.natAbs c.natAbs : Nat) : Int) = a ^ b.toNat % c := by
  have e1 : ((c.natAbs : Nat) : Int) = c := by omega
  have e2 : b.natAbs = b.toNat := by omega
  have e3 : (((a % c).toNat : Nat) : Int) = a % c := Int.toNat_of_nonneg (Int.emod_nonneg a (by omega))
  rw [powMod_spec, Int.natCast_emod, Int.natCast_pow, e1, e3, e2]
  exact emod_pow a c b.toNat
theorem call_pow3 {a b c : Int} {t u v : Tok} (hb : 0 ≤ b) (hc : 1 < c) (h : Q (.int (a ^ b.toNat % c) s.toks) { s with toks := s.toks + 1 }) :
    wpAny (model prog w) A (call (.builtin "pow") [.int a t, .int b u, .int c v]) Q E s := by
  refine call_pow_of (r := a ^ b.toNat % c) ?_ h
  rw [← pow_val hb hc]
  exact gives_pow3 a t b u c v (by simp; omega) (by simp; omega) (by omega) (by omega)
theorem call_pow_inv {t u v : Tok} (h : Q (.int 3303 s.toks) { s with toks := s.toks + 1 }) :
    wpAny (model prog w) A (call (.builtin "pow") [.int 128 t, .int (-1) u, .int 3329 v]) Q E s := call_pow_of (gives_pow_inv t u v) h
end
end Mine
namespace Mine
abbrev ledP (px dpx lx rx drx zx : Addr) (zs : List Value) (nu nz : Nat) (h1 h2 h3 h4 h5 h6 : Int) (t1 t2 t3 t4 t5 t6 t7 t8 t9 : Tok) (fv : Int) (rest : List (Addr × Obj)) (us : List Value) : List (Addr × Obj) :=
  (px, instObj 426 dpx) :: (dpx, dictOf [⟨h1, .str "parent" t1, .ref rx⟩, ⟨h2, .str "coeffs" t2, .ref lx⟩] 2) :: (lx, listOf us.toArray nu) ::
      (rx, instObj 282 drx) :: (drx, dictOf [⟨h3, .str "q" t3, .int 3329 t7⟩, ⟨h4, .str "n" t4, .int 256 t8⟩, ⟨h5, .str "ntt_zetas" t5, .ref zx⟩, ⟨h6, .str "ntt_f" t6, .int fv t9⟩] 4) :: (zx, listOf zs.toArray nz) :: rest
local macro_rules | `(tactic| walk_at "exec While Compare cons nil") => `(tactic| k_dflt (k_extra "exec While Compare cons nil"))
local macro_rules | `(tactic| walk_at "pyIter ref") => `(tactic| k_dflt (k_extra "pyIter ref"))
local macro_rules | `(tactic| walk_at "InvEndN") => `(tactic| k_dflt (k_extra "InvEndN"))
local macro_rules | `(tactic| walk_at "KswEnd") => `(tactic| k_dflt (k_extra "KswEnd"))
local macro_rules | `(tactic| walk_at "exec For Name Call cons nil") => `(tactic| (k_here; (rename Fr _ _ _ _ => lF'); (with_unfolding_all refine' For_invVF lF' ?k1 ?k2 ?_; (case k1 => exact rfl); (case k2 => exact rfl); k_whole)))
local macro_rules | `(tactic| walk_at "getMethod ref") => `(tactic| (k_here; k_dflt (first
  | (refine' kmu_own ?k1 ?k2 ?k3 ?k4 ?k5 ?_; (case k1 => k_asm); (case k2 => k_asm); (case k3 => k_inst); (case k4 => k_is); (case k5 => k_is); k_whole)
  | (refine' kmu_sm ?k1 ?k2 ?k4 ?k5 ?k6 ?k7 ?k8 ?k9 ?k10 ?k11 ?k12 ?k13 ?k14 ?_; (case k1 => k_asm); (case k2 => k_asm); (case k4 => k_inst); (case k5 => k_is); (case k6 => k_is); (case k7 => k_is); (case k8 => k_is); (case k9 => k_is); (case k10 => k_is); (case k11 => decide +kernel); (case k12 => k_get); (case k13 => k_is); (case k14 => k_handed); k_whole))))
local macro_rules | `(tactic| walk_at "callWith ref") => `(tactic| (k_here; kco_any "__call__"; kco_here; k_dflt (refine' callWith_instKW ?k1 ?k2 ?k3 ?k4 ?_; (case k2 => k_inst); (case k1 => k_in); (case k3 => rfl); (case k4 => exact rfl); k_whole)))
local macro_rules | `(tactic| k_room) => `(tactic| ktr_room)
local macro_rules | `(tactic| k_all) => `(tactic| assumption)
theorem from_ntt_claim {prog : Program} {w : World} {p : Program} {loose : List Str} {mean : ExcName → Option Value} {mg mb : Str → Option Value}
    (px dpx lx rx drx zx : Addr) (us zs : List Value) (ns zns : List Int) (nu nz : Nat) (h1 h2 h3 h4 h5 h6 : Int) (t1 t2 t3 t4 t5 t6 t7 t8 t9 : Tok) (fv : Int) (rest : List (Addr × Obj))
    (dp un : Nat) (gd : Option (List Code)) (cn : Str) (cs : Scope) (a : Addr) (ccd : Value) (cl : List (Str × Addr)) (outer : List Env) (A₀ : Around) (base h₀ : Heap) (L : Addr) (m : Str → Option Value) (s : Shared) (Q E : Value → Shared → Prop)
    (B : Below A₀ base outer h₀) (F : Fr h₀ L s.heap m) (X : (_root_.Mine.fr.heap_1 w.params).In h₀)
    (N : News h₀ L s.heap (ledP px dpx lx rx drx zx zs nu nz h1 h2 h3 h4 h5 h6 t1 t2 t3 t4 t5 t6 t7 t8 t9 fv rest us))
    (hu : IntsAre us ns) (hz : IntsAre zs zns) (hun : ns.length = 256) (hzn : zns.length = 128) (hzb : ∀ i, 0 ≤ zns.getD i 0 ∧ zns.getD i 0 < 3329)
    (hfv : 0 ≤ fv ∧ fv < 3329) (d1 : px ≠ lx) (d2 : dpx ≠ lx) (d3 : rx ≠ lx) (d4 : drx ≠ lx) (d5 : zx ≠ lx) (d6 : ∀ q ∈ rest, q.1 ≠ lx)
    (T : Top p loose mean mg mb h₀) (hk : cs.kind = .function) (hd : dp + 5 < recursionLimit)
    (hret : ∀ (x1 d1 : Addr) (j1 j2 : Int) (k1 k2 : Tok) (us1 : List Value) (h1' : Heap) (tk1 : Nat), Fr h₀ L h1' m → News h₀ L h1' ((x1, instObj 350 d1) :: (d1, dictOf [⟨j1, .str "parent" k1, .ref rx⟩, ⟨j2, .str "coeffs" k2, .ref lx⟩] 2) :: ledP px dpx lx rx drx zx zs nu nz h1 h2 h3 h4 h5 h6 t1 t2 t3 t4 t5 t6 t7 t8 t9 fv rest us1) → IntsAre us1 (scaled fv 256 (layers zns 7 ns)) → Q (.ref x1) { s with heap := h1', toks := tk1 }) :
    wpAny (model prog w) (ktrTop dp un gd cn cs L a ccd cl outer) (call (.ref 380) [.ref px]) Q E s := by
  w_on
  k_with_none
  dsimp only [ledP] at N
  k_with "exec While Compare cons nil" =>
    ((with_reducible show wpAny _ _ (exec (Stmt.While (PySem.Expr.Compare _ [CmpOp.LtE] _ _) _ _ _) _) _ _ _)
     rename Fr _ _ _ _ => lF'
     rename News _ _ _ _ => lN'
     refine' ksw_while (σ := SO) (fun c => ledP px dpx lx rx drx zx zs nu nz h1 h2 h3 h4 h5 h6 t1 t2 t3 t4 t5 t6 t7 t8 t9 fv rest c.us)
       (fun c => [("l", .int c.l c.tl), ("k", .int c.k c.tk)]) (fun c => IntsAre c.us c.cs) ["start", "zeta", "j", "t"]
       (fun c => WO zns ns c.l c.k c.cs) (fun c => (256 - c.l).toNat) ⟨us, ns, ?xlB, ?xkB, ?xtB, ?xuB⟩ lF' ?kn hu ?kk ?kp ?_
     case kk => (dsimp only; refine List.forall_mem_cons.mpr ⟨by with_unfolding_all rfl, List.forall_mem_cons.mpr ⟨by with_unfolding_all rfl, List.forall_mem_nil _⟩⟩)
     case kp => exact ⟨0, .inl ⟨rfl, by rfl, by rfl⟩, rfl⟩
     case kn => exact fun q hq => lN' q (.tail _ hq)
     clear lF' lN'
     intro c u h tk hf hp kF kN
     obtain ⟨us', cs', l, k, tl, tk0⟩ := c
     dsimp only [kstB, ledP] at kF kN hf hp
     obtain ⟨i, hO, hcs⟩ := hp
     have hlen' : cs'.length = 256 := by rw [hcs, layers_len]; assumption
     have hOb := hO.bnd
     (try k_fold))
  k_with "exec While Compare cons nil" =>
    ((with_reducible show wpAny _ _ (exec (Stmt.While (PySem.Expr.Compare _ [CmpOp.Lt] _ _) _ _ _) _) _ _ _)
     rename Fr _ _ _ _ => lF'
     rename News _ _ _ _ => lN'
     rename l ≤ 128 => hl
     refine' ksw_while (σ := SI) (fun c => ledP px dpx lx rx drx zx zs nu nz h1 h2 h3 h4 h5 h6 t1 t2 t3 t4 t5 t6 t7 t8 t9 fv rest c.us)
       (fun c => [("start", .int c.s c.ts), ("k", .int c.k c.tk)]) (fun c => IntsAre c.us c.cs) ["zeta", "j", "t"]
       (fun c => WI zns cs' l k c.s c.k c.cs) (fun c => (256 - c.s).toNat) ⟨us', cs', ?xsA, ?xkA, ?xtA, ?xuA⟩ lF' ?kn (by assumption) ?kk ?kp ?_
     case kk => (dsimp only; refine List.forall_mem_cons.mpr ⟨by with_unfolding_all rfl, List.forall_mem_cons.mpr ⟨by with_unfolding_all rfl, List.forall_mem_nil _⟩⟩)
     case kp => exact ⟨0, by simp, by simp, rfl, by simp⟩
     case kn => exact lN'
     clear lF' lN'
     intro c u h tk hf hp kF kN
     obtain ⟨us2, cs2, s2, k2, ts2, tk2⟩ := c
     dsimp only [kstB, ledP] at kF kN hf hp
     have hWf := hp.facts hO hl
     have hlen2 : cs2.length = 256 := by rw [hWf.2.2.2]; exact hlen'
     have hzk := hzb k2.toNat
     (try k_fold))
  k_with "pyIter ref" =>
    (rename Fr _ _ _ _ => lF'
     rename News _ _ _ _ => lN'
     rename IsRange _ _ _ _ _ _ _ _ => rgX
     rename s2 < 256 => hs2
     refine' range_jt (n := l.toNat) "t" (fun us => ledP px dpx lx rx drx zx zs nu nz h1 h2 h3 h4 h5 h6 t1 t2 t3 t4 t5 t6 t7 t8 t9 fv rest us) (fun i => bturns l.toNat (zns.getD k2.toNat 0) s2.toNat i cs2) us2 (by rfl) (by rfl) rgX ?sm ?nn ?n0 lF' lN' (by assumption) ?turn9 ?done9
     case sm => exact small_one (by omega) (by omega) (by omega) (by omega)
     case nn => omega
     case n0 => omega
     case' turn9 =>
       intro i us3 u t h tk own hi hoff hu3 kF kN
       dsimp only [ledP] at kF kN hoff
       simp only [List.cons_append] at kN
       have hlen3 : (bturns l.toNat (zns.getD k2.toNat 0) s2.toNat i cs2).length = 256 := by rw [bturns_len]; exact hlen2
       have kMark := kstMark
       generalize hcs3 : bturns l.toNat (zns.getD k2.toNat 0) s2.toNat i cs2 = cs3 at hu3 hlen3
       have hoff2 : ∀ q ∈ own, q.1 ≠ lx := fun q hq => hoff q hq lx (by simp)
       clear lF' lN'
       have d6' : ∀ q ∈ rest ++ own, q.1 ≠ lx := List.forall_mem_append.mpr ⟨d6, hoff2⟩
       (try k_fold)
     case' done9 =>
       intro us3 u t h tk hu3 kF kN
       dsimp only [ledP] at kF kN
       clear lF' lN'
       (try k_fold))
  k_with "KswEnd" =>
    (rename Fr _ _ _ _ => eF
     rename News _ _ _ _ => eN
     refine' ksw_end (σ := SI) ⟨us3, _, _, _, _, _⟩ eF eN ?hn ?hf ?hk ?hr ?hp ?hm
     case hn => exact fun q hq => hq
     case hf => assumption
     case hk => (dsimp only; refine List.forall_mem_cons.mpr ⟨by with_unfolding_all rfl, List.forall_mem_cons.mpr ⟨by with_unfolding_all rfl, List.forall_mem_nil _⟩⟩)
     case hr => ksw_same
     case hp => exact WI.next hO hl (by assumption) hs2 (by dsimp only; omega) rfl rfl
     case hm => (dsimp only; omega))
  k_with "InvEndN" =>
    (rename Fr _ _ _ _ => eF
     rename News _ _ _ _ => eN
     refine' jt_end eF eN ?hn ?ho ?ha ?hi ?he ?hx ?hm
     case hn => exact fun q hq => (List.mem_append_left own hq : q ∈ ledP px dpx lx rx drx zx zs nu nz h1 h2 h3 h4 h5 h6 t1 t2 t3 t4 t5 t6 t7 t8 t9 fv rest _ ++ own)
     case ho => exact fun q hq => (List.mem_append_right (ledP px dpx lx rx drx zx zs nu nz h1 h2 h3 h4 h5 h6 t1 t2 t3 t4 t5 t6 t7 t8 t9 fv rest _) hq : q ∈ ledP px dpx lx rx drx zx zs nu nz h1 h2 h3 h4 h5 h6 t1 t2 t3 t4 t5 t6 t7 t8 t9 fv rest _ ++ own)
     case ha => rfl
     case hi => assumption
     case hx => with_unfolding_all rfl
     case hm => (intro z hz1 hz2; simp only [if_neg hz1, if_neg hz2])
     case he => (
       show _ = bturns l.toNat (zns.getD k2.toNat 0) s2.toNat (i + 1) cs2
       rw [bturns, hcs3, show s2.toNat + i = (s2 + (i : Int)).toNat by omega]
       exact walk_step (by omega) (by omega) (by omega)))
  k_with "KswEnd" =>
    (rename Fr _ _ _ _ => eF
     rename News _ _ _ _ => eN
     refine' ksw_end (σ := SO) ⟨us2, _, _, _, _, _⟩ eF eN ?hn ?hf ?hk ?hr ?hp ?hm
     case hn => exact fun q hq => hq
     case hf => assumption
     case hk => (dsimp only; refine List.forall_mem_cons.mpr ⟨by with_unfolding_all rfl, List.forall_mem_cons.mpr ⟨by with_unfolding_all rfl, List.forall_mem_nil _⟩⟩)
     case hr => ksw_same
     case hp => exact WI.leave hO hl hcs (by assumption) (by assumption) (shl_one l)
     case hm => (have e1 := shl_one l; dsimp only; omega))
  k_with "pyIter ref" =>
    (rename Fr _ _ _ _ => lF'
     rename News _ _ _ _ => lN'
     rename IsRange _ _ _ _ _ _ _ _ => rgX
     rename ¬ l ≤ 128 => hl
     refine' range_jt (n := 256) "t" (fun us => ledP px dpx lx rx drx zx zs nu nz h1 h2 h3 h4 h5 h6 t1 t2 t3 t4 t5 t6 t7 t8 t9 fv rest us) (fun i => scaled fv i cs') us' (by rfl) (by rfl) rgX ?sm ?nn ?n0 lF' lN' (by assumption) ?turn8 ?done8
     case sm => decide
     case nn => rfl
     case n0 => decide
     case' turn8 =>
       intro i8 us8 u t h tk own hi8 hoff hu8 kF kN
       dsimp only [ledP] at kF kN hoff
       simp only [List.cons_append] at kN
       have hlen8 : (scaled fv i8 cs').length = 256 := by rw [scaled_len]; exact hlen'
       have kMark := kstMark
       generalize hcs8 : scaled fv i8 cs' = cs8 at hu8 hlen8
       have hoff2 : ∀ q ∈ own, q.1 ≠ lx := fun q hq => hoff q hq lx (by simp)
       clear lF' lN'
       have d6' : ∀ q ∈ rest ++ own, q.1 ≠ lx := List.forall_mem_append.mpr ⟨d6, hoff2⟩
       (try k_fold)
     case' done8 =>
       intro us8 u t h tk hu8 kF kN
       dsimp only [ledP] at kF kN
       clear lF' lN'
       have hlen8 : (scaled fv 256 cs').length = 256 := by rw [scaled_len]; exact hlen'
       (try k_fold))
  k_with "InvEndN" =>
    (rename Fr _ _ _ _ => eF
     rename News _ _ _ _ => eN
     refine' jt_end eF eN ?hn ?ho ?ha ?hi ?he ?hx ?hm
     case hn => exact fun q hq => (List.mem_append_left own hq : q ∈ ledP px dpx lx rx drx zx zs nu nz h1 h2 h3 h4 h5 h6 t1 t2 t3 t4 t5 t6 t7 t8 t9 fv rest _ ++ own)
     case ho => exact fun q hq => (List.mem_append_right (ledP px dpx lx rx drx zx zs nu nz h1 h2 h3 h4 h5 h6 t1 t2 t3 t4 t5 t6 t7 t8 t9 fv rest _) hq : q ∈ ledP px dpx lx rx drx zx zs nu nz h1 h2 h3 h4 h5 h6 t1 t2 t3 t4 t5 t6 t7 t8 t9 fv rest _ ++ own)
     case ha => rfl
     case hi => assumption
     case hx => with_unfolding_all rfl
     case hm => (intro z hz1 hz2; simp only [if_neg hz1, if_neg hz2])
     case he => (
       show _ = scaled fv (i8 + 1) cs'
       rw [scaled, hcs8, show (0 + (i8 : Int)).toNat = i8 by omega]))
  w_strict (
    refine wpAny_call ?_
    k_dflt ktr_enter
    (repeat' (first | (k_unfold; (try dsimp only)) | walk1 | (dsimp only; walk1)))
    rename Fr h₀ L _ _ => eF
    rename News h₀ L _ _ => eN
    refine hret _ _ _ _ _ _ us8 _ _ eF eN ?_
    have e7 : cs' = layers zns 7 ns := by rw [hcs, hO.last hl]
    rw [← e7]
    assumption)
end Mine
namespace Mine
def sT : Nat → Int
  | 0 => 64
  | i + 1 => Int.fdiv (sT i) 2
def eT (place : Int) : Nat → Int
  | 0 => 128
  | i + 1 => if Int.fmod (Int.fdiv place (sT i)) 2 = 1 then Int.fdiv (eT place i) 2 + 128 else Int.fdiv (eT place i) 2
def restT (r : Int) : Nat → List Int → List Int
  | 0, cs => cs
  | i + 1, cs => (restT r i cs).set (253 - i) (Int.fmod ((restT r i cs).getD (253 - i) 0 + r * (restT r i cs).getD (255 - i) 0) 3329)
theorem restT_len (r : Int) (cs : List Int) : ∀ n, (restT r n cs).length = cs.length
  | 0 => rfl
  | n + 1 => by rw [restT, List.length_set, restT_len r cs n]
theorem sT_pos : ∀ {i : Nat}, i < 7 → 1 ≤ sT i ∧ sT i ≤ 64 := by decide
theorem eT_bnd (place : Int) : ∀ i, 0 ≤ eT place i ∧ eT place i ≤ 255
  | 0 => ⟨by show (0 : Int) ≤ 128; decide, by show (128 : Int) ≤ 255; decide⟩
  | i + 1 => by
    have h := eT_bnd place i
    have e : Int.fdiv (eT place i) 2 = eT place i / 2 := Int.fdiv_eq_ediv_of_nonneg _ (by decide)
    rw [eT, e]
    split <;> omega
end Mine
namespace Mine
local macro_rules | `(tactic| k_room) => `(tactic| ktr_room)
local macro_rules | `(tactic| walk_at "call builtin:bin") => `(tactic| k_dflt (k_extra "call builtin:bin"))
local macro_rules | `(tactic| walk_at "subscriptTail Call Name cons nil Slice str ref") => `(tactic| k_dflt (k_extra "slice_a"))
local macro_rules | `(tactic| walk_at "subscriptTail Name Slice str ref") => `(tactic| k_dflt (k_extra "slice_b"))
local macro_rules | `(tactic| walk_at "call type:int") => `(tactic| k_dflt (k_extra "call type:int"))
theorem br_claim {prog : Program} {w : World} {p : Program} {loose : List Str} {mean : ExcName → Option Value} {mg mb : Str → Option Value}
    (fbr : Addr) (i : Int) (t u : Tok) (news : List (Addr × Obj))
    (dp un : Nat) (gd : Option (List Code)) (cn : Str) (cs : Scope) (a : Addr) (ccd : Value) (cl : List (Str × Addr)) (outer : List Env) (A₀ : Around) (base h₀ : Heap) (L : Addr) (m : Str → Option Value) (s : Shared) (Q E : Value → Shared → Prop)
    (B : Below A₀ base outer h₀) (F : Fr h₀ L s.heap m) (X : (_root_.Mine.fr.heap_1 w.params).In h₀)
    (N : News h₀ L s.heap news) (hi0 : 0 ≤ i) (hi1 : i < 128)
    (T : Top p loose mean mg mb h₀) (hk : cs.kind = .function) (hd : dp + 5 < recursionLimit)
    (hret : ∀ (v : Tok) (h1 : Heap) (tk1 : Nat), Fr h₀ L h1 m → News h₀ L h1 news → Q (.int (br7 i.toNat : Int) v) { s with heap := h1, toks := tk1 }) :
    wpAny (model prog w) (ktrTop dp un gd cn cs L a ccd cl outer) (call (.ref 245) [.int i t, .int 7 u]) Q E s := by
  w_on
  k_with_none
  have hbl := bx_len hi0 hi1
  k_with "call builtin:bin" => (refine P.bin_of_int ?_ ?hsz; case hsz => exact Nat.le_trans hbl.1 (by decide))
  k_with "slice_a" =>
    ((with_reducible show wpAny _ _ (subscriptTail _ (PySem.Expr.Slice (some _) none none _) (Value.str _ _) _) _ _ _)
     rename Fr _ _ _ _ => lF'
     rename News _ _ _ _ => lN'
     refine slice_strN_sn (s := ⟨_, _, _, _, _⟩) lF' lN' ?_ (hsz := ?hsz)
     case hsz => exact Nat.le_trans hbl.1 (by decide)
     clear lF' lN'
     intro h9 t9 k9 F9 N9)
  k_with "slice_b" =>
    ((with_reducible show wpAny _ _ (subscriptTail _ (PySem.Expr.Slice none none (some _) _) (Value.str _ _) _) _ _ _)
     rename Fr _ _ _ _ => lF'
     rename News _ _ _ _ => lN'
     refine slice_strK_nn (s := ⟨_, _, _, _, _⟩) lF' lN' ?hk ?_ (hsz := ?hsz)
     case hk => rfl
     case hsz => exact Nat.le_trans hbl.2.2 (by decide)
     clear lF' lN'
     intro h9 t9 k9 F9 N9)
  k_with "call type:int" =>
    (have hr9 := bx_read hi0 hi1
     refine call_int2 (n := (br7 i.toNat : Int)) ?h1 ?h2 ?h3 ?_
     case h2 => exact (hr9 _).2.2
     case h1 => exact (hr9 _).1
     case h3 => exact (hr9 _).2.1)
  k_with "END" =>
    (rename Fr h₀ L _ _ => eF
     rename News h₀ L _ _ => eN
     exact hret _ _ _ eF eN)
  w_strict (
    refine wpAny_call ?_
    k_dflt ktr_enter
    (repeat' (first | (k_unfold; (try dsimp only)) | walk1 | (dsimp only; walk1) | k_extra "END")))
end Mine
namespace Mine
local macro_rules | `(tactic| k_all) => `(tactic| k_extra "k_all")
local macro_rules | `(tactic| k_room) => `(tactic| ktr_room)
local macro_rules | `(tactic| walk_at "call builtin:pow") => `(tactic| (first | (with_reducible refine call_pow3 (by omega) (by omega) ?_) | (with_reducible refine call_pow_inv ?_)))
local macro_rules | `(tactic| walk_at "call ref") => `(tactic| k_dflt (k_extra "call ref"))
local macro_rules | `(tactic| walk_at "getMethod ref") => `(tactic| (k_here; k_dflt (first
  | (refine' kmu_own ?k1 ?k2 ?k3 ?k4 ?k5 ?_; (case k1 => k_asm); (case k2 => k_asm); (case k3 => k_inst); (case k4 => k_is); (case k5 => k_is); k_whole)
  | (refine' kmu_sm ?k1 ?k2 ?k4 ?k5 ?k6 ?k7 ?k8 ?k9 ?k10 ?k11 ?k12 ?k13 ?k14 ?_; (case k1 => k_asm); (case k2 => k_asm); (case k4 => k_inst); (case k5 => k_is); (case k6 => k_is); (case k7 => k_is); (case k8 => k_is); (case k9 => k_is); (case k10 => k_is); (case k11 => decide +kernel); (case k12 => k_get); (case k13 => k_is); (case k14 => k_handed); k_whole))))
theorem ring_claim {prog : Program} {w : World} {p : Program} {loose : List Str} {mean : ExcName → Option Value} {mg mb : Str → Option Value}
    (news : List (Addr × Obj))
    (dp un : Nat) (gd : Option (List Code)) (cn : Str) (cs : Scope) (a : Addr) (ccd : Value) (cl : List (Str × Addr)) (outer : List Env) (A₀ : Around) (base h₀ : Heap) (L : Addr) (m : Str → Option Value) (s : Shared) (Q E : Value → Shared → Prop)
    (B : Below A₀ base outer h₀) (F : Fr h₀ L s.heap m) (X : (_root_.Mine.fr.heap_1 w.params).In h₀)
    (N : News h₀ L s.heap news)
    (T : Top p loose mean mg mb h₀) (hk : cs.kind = .function) (hd : dp + 9 < recursionLimit)
    (hret : ∀ (x d z : Addr) (ys : List Value) (k1 k2 k3 k4 k5 k6 k7 : Tok) (h1 : Heap) (tk1 : Nat), Fr h₀ L h1 m →
      News h₀ L h1 ((x, instObj 282 d) :: (d, dictOf [⟨PyData.keyHash w.params "q", .str "q" k1, .int 3329 k2⟩, ⟨PyData.keyHash w.params "n", .str "n" k3, .int 256 k4⟩, ⟨PyData.keyHash w.params "ntt_zetas", .str "ntt_zetas" k5, .ref z⟩, ⟨PyData.keyHash w.params "ntt_f", .str "ntt_f" k6, .int 3303 k7⟩] 4) :: (z, LCg.lst ys) :: news) →
      IntsAre ys zL → Q (.ref x) { s with heap := h1, toks := tk1 }) :
    wpAny (model prog w) (ktrTop dp un gd cn cs L a ccd cl outer) (call (.ref 282) [] []) Q E s := by
  w_on
  k_with_none
  k_with "call ref" =>
    ((with_reducible show wpAny _ _ (PySem.call (Value.ref 245) _) _ _ _)
     refine' br_claim 0 _ _ _ _ _ _ _ _ _ _ _ _ _ _ _ _ _ _ _ _ _ ?rB ?rF ?rX ?rN ?r0 ?r1 ?rT ?rk ?rd ?rR
     case rB => k_asm
     case rF => k_asm
     case rX => k_asm
     case rN => k_asm
     case r0 => omega
     case r1 => omega
     case rT => k_asm
     case rk => rfl
     case rd => ktr_room
     intro v9 h9 tk9 F9 N9
     (try k_fold))
  k_with "END" =>
    (rename Fr h₀ L _ _ => eF
     rename News h₀ L _ _ => eN
     exact hret _ _ _ _ _ _ _ _ _ _ _ _ _ eF (news_ring eN) (by assumption))
  k_with "k_all" => (intro p9 h9; have h8 := hNL p9 h9; refine neN ?_; (try dsimp only); omega)
  w_strict (
    refine' call_cls F X N ?zm ?zi ?zf ?_
    (case zm => k_is)
    (case zi => k_is)
    (case zf => k_is)
    intro x d h' F1 N1 l1 l2
    k_lt2 l2
    have kMark := kstMark
    k_dflt (refine' code_defC ?za ?zb ?zc ?zd ?ze ?zA ?zF ?zK ?z6 ?z7 ?z8 ?z9 ?zB ?zD ?_ ?zg ?zh ?zi9; (case zA => exact rfl); (case zF => exact rfl); (case zK => exact hk); (case za => exact B); (case zb => k_asm); (case zc => k_asm); (case zd => k_asm); (case ze => k_asm); (case z6 => k_is); (case z7 => k_is); (case z8 => ktr_room); (case z9 => exact BindsTo.of_eq rfl); (case zB => exact rfl); (case zD => decide +kernel); (case zg => exact rfl); (case zh => exact rfl); (case zi9 => exact rfl); k_whole; intro g' L' h' tk' cells' FG' F' N' Y' B' X' T' l3; (have hNL : ∀ q ∈ news, @LT.lt Nat _ q.1 L' := fun q hq => l3 q (.tail _ (.tail _ hq))); (try k_lt l3); k_cells Y'; (try simp only [List.cons_append, List.nil_append] at N'); (try dsimp only); (try k_fold))
    (repeat' (first | (k_unfold; (try dsimp only)) | walk1 | (dsimp only; walk1) | k_extra "END")))
end Mine
namespace Mine
local macro_rules | `(tactic| k_room) => `(tactic| ktr_room)
local macro_rules | `(tactic| k_all) => `(tactic| k_extra "k_all")
local macro_rules | `(tactic| walk_at "pyIter ref") => `(tactic| k_dflt (k_extra "pyIter ref"))
local macro_rules | `(tactic| walk_at "inplaceOp Add ref ref") => `(tactic| k_dflt (k_extra "inplaceOp Add ref ref"))
local macro_rules | `(tactic| walk_at "UnrEnd") => `(tactic| k_dflt (k_extra "UnrEnd"))
local macro_rules | `(tactic| walk_at "InvEndN") => `(tactic| k_dflt (k_extra "InvEndN"))
local macro_rules | `(tactic| walk_at "exec For Name Name cons nil") => `(tactic| (k_here; (rename Fr _ _ _ _ => lF'); (with_unfolding_all refine' For_invVF lF' ?k1 ?k2 ?_; (case k1 => exact rfl); (case k2 => exact rfl); k_whole)))
local macro_rules | `(tactic| walk_at "call builtin:pow") => `(tactic| k_dflt (k_extra "call builtin:pow"))
theorem roots_claim {prog : Program} {w : World} {p : Program} {loose : List Str} {mean : ExcName → Option Value} {mg mb : Str → Option Value}
    (news : List (Addr × Obj))
    (dp un : Nat) (gd : Option (List Code)) (cn : Str) (cs : Scope) (a : Addr) (ccd : Value) (cl : List (Str × Addr)) (outer : List Env) (A₀ : Around) (base h₀ : Heap) (L : Addr) (m : Str → Option Value) (s : Shared) (Q E : Value → Shared → Prop)
    (B : Below A₀ base outer h₀) (F : Fr h₀ L s.heap m) (X : (_root_.Mine.fr.heap_1 w.params).In h₀)
    (N : News h₀ L s.heap news)
    (T : Top p loose mean mg mb h₀) (hk : cs.kind = .function) (hd : dp + 9 < recursionLimit)
    (hret : ∀ (D : Addr) (ys : List Value) (n : Nat) (h1 : Heap) (tk1 : Nat), Fr h₀ L h1 m → News h₀ L h1 ((D, listOf ys.toArray n) :: news) → IntsAre ys rL → Q (.ref D) { s with heap := h1, toks := tk1 }) :
    wpAny (model prog w) (ktrTop dp un gd cn cs L a ccd cl outer) (call (.ref 440) []) Q E s := by
  w_on
  k_with_none
  have kMark := kstMark
  k_with "pyIter ref" =>
    (rename Fr _ _ _ _ => lF'
     rename News _ _ _ _ => lN'
     refine' iter_grow halves (by rfl) (by rfl) lF' lN' ?hR5 ?hu5 ?hi5 ?_ ?_
     case hR5 => k_mem
     case hu5 => exact .nil
     case hi5 => first | assumption | exact .cons _ _ .nil
     (all_goals first
       | (intro i5 n5 us5 c5 t h tk own hx5 hoff hu5 kF kN; simp only [List.cons_append] at kN; have hl5 : us5.length ≤ 1000 := turn_len hu5 (by decide +kernel))
       | intro us5 c5 u h tk hu5 kF kN)
     (all_goals (clear lF' lN'; (try k_fold))))
  k_with "inplaceOp Add ref ref" =>
    (rename Fr _ _ _ _ => eF
     rename News _ _ _ _ => eN
     refine' iadd_led eF eN ?hB4 ?U4 ?z4 ?_
     case hB4 => k_mem
     case U4 => k_upd
     case z4 => (simp only [List.length_cons, List.length_nil]; omega)
     clear eF eN
     intro h9 F9 N9)
  k_with "InvEndN" =>
    (rename Fr _ _ _ _ => eF
     rename News _ _ _ _ => eN
     refine' jg_end eF eN ?hR4 ?hn4 ?ha4 ?hi4 ?hx4 ?he4 ?hm4
     case hn4 => exact fun q hq => .tail _ hq
     case hR4 => k_mem
     case ha4 => rfl
     case hi4 => exact IntsAre.append hu5 (.cons _ _ (.cons _ _ .nil))
     case hx4 => exact hx5
     case he4 => rfl
     case hm4 => (intro z hz1; by_cases hz2 : z = "wide" <;> simp only [hz1, hz2, if_true, if_false]))
  k_with "call builtin:pow" =>
    (rename _ ∈ List.flatMap halves _ => hm4
     have h4 := rowsE_pos 7 _ hm4
     refine call_pow3 h4 (by decide) ?_)
  k_with "END" =>
    (rename Fr h₀ L _ _ => eF
     rename News h₀ L _ _ => eN
     exact hret _ _ _ _ _ eF (news_drop8 eN) (by assumption))
  k_with "UnrEnd" =>
    (rename Fr _ _ _ _ => eF
     rename News _ _ _ _ => eN
     refine' unr_end eF eN (by k_all) ?_
     clear eF eN
     (try dsimp only))
  w_strict (
    refine wpAny_call ?_
    k_dflt ktr_enter
    (repeat' (first | (k_unfold; (try dsimp only)) | walk1 | (dsimp only; walk1) | k_extra "END"))
    (all_goals (try k_data)))
end Mine
namespace Mine
local macro_rules | `(tactic| k_room) => `(tactic| ktr_room)
theorem draw_claim {prog : Program} {w : World} {p : Program} {loose : List Str} {mean : ExcName → Option Value} {mg mb : Str → Option Value}
    (lx : Addr) (vs : List Value) (ns : List Int) (k : Int) (tp : Tok) (news : List (Addr × Obj))
    (dp un : Nat) (gd : Option (List Code)) (cn : Str) (cs : Scope) (a : Addr) (ccd : Value) (cl : List (Str × Addr)) (outer : List Env) (A₀ : Around) (base h₀ : Heap) (L : Addr) (m : Str → Option Value) (s : Shared) (Q E : Value → Shared → Prop)
    (B : Below A₀ base outer h₀) (F : Fr h₀ L s.heap m) (X : (_root_.Mine.fr.heap_1 w.params).In h₀)
    (N : News h₀ L s.heap news) (hS : ScriptIs base lx vs ns) (hk0 : 0 ≤ k) (hk1 : k ≤ 1000)
    (T : Top p loose mean mg mb h₀) (hk : cs.kind = .function) (hd : dp + 5 < recursionLimit)
    (hret : ∀ (t : Tok) (h1 : Heap) (tk1 : Nat), Fr h₀ L h1 m → News h₀ L h1 news → Q (.int (drawV ns k) t) { s with heap := h1, toks := tk1 }) :
    wpAny (model prog w) (ktrTop dp un gd cn cs L a ccd cl outer) (call (.ref 435) [.ref lx, .int k tp]) Q E s := by
  obtain ⟨hl, hi, hn⟩ := hS
  w_on
  k_with_none
  k_with "END" =>
    (rename Fr h₀ L _ _ => eF
     rename News h₀ L _ _ => eN
     (first
       | (rename k < _ => hlt; have e9 : drawV ns k = ns.getD k.toNat 0 := if_pos hlt)
       | (rename ¬ k < _ => hge; have e9 : drawV ns k = 62 + 11 * k + 23 * k * k := if_neg hge))
     (with_reducible rw [e9] at hret)
     exact hret _ _ _ eF eN)
  w_strict (
    refine wpAny_call ?_
    k_dflt cell_enter
    (repeat' (first | (k_unfold; (try dsimp only)) | walk1 | (dsimp only; walk1) | k_extra "END")))
end Mine
namespace Mine
local macro_rules | `(tactic| k_room) => `(tactic| ktr_room)
local macro_rules | `(tactic| k_all) => `(tactic| k_extra "k_all")
theorem ntt_claim {prog : Program} {w : World} {p : Program} {loose : List Str} {mean : ExcName → Option Value} {mg mb : Str → Option Value}
    (x d z lx : Addr) (us : List Value) (ns : List Int) (nu : Nat) (j1 j2 j3 j4 : Int) (k1 k2 k3 k4 k5 k6 k7 : Tok) (rest : List (Addr × Obj))
    (dp un : Nat) (gd : Option (List Code)) (cn : Str) (cs : Scope) (a : Addr) (ccd : Value) (cl : List (Str × Addr)) (outer : List Env) (A₀ : Around) (base h₀ : Heap) (L : Addr) (m : Str → Option Value) (s : Shared) (Q E : Value → Shared → Prop)
    (B : Below A₀ base outer h₀) (F : Fr h₀ L s.heap m) (X : (_root_.Mine.fr.heap_1 w.params).In h₀)
    (N : News h₀ L s.heap ((x, instObj 282 d) :: (d, dictOf [⟨j1, .str "q" k1, .int 3329 k2⟩, ⟨j2, .str "n" k3, .int 256 k4⟩, ⟨j3, .str "ntt_zetas" k5, .ref z⟩, ⟨j4, .str "ntt_f" k6, .int 3303 k7⟩] 4) :: (lx, listOf us.toArray nu) :: rest))
    (hu : IntsAre us ns) (hn : ns.length = 256)
    (T : Top p loose mean mg mb h₀) (hk : cs.kind = .function) (hd : dp + 9 < recursionLimit)
    (hret : ∀ (px dpx : Addr) (i1 i2 : Int) (t1 t2 : Tok) (h1 : Heap) (tk1 : Nat), Fr h₀ L h1 m →
      News h₀ L h1 ((px, instObj 426 dpx) :: (dpx, dictOf [⟨i1, .str "parent" t1, .ref x⟩, ⟨i2, .str "coeffs" t2, .ref lx⟩] 2) :: (x, instObj 282 d) :: (d, dictOf [⟨j1, .str "q" k1, .int 3329 k2⟩, ⟨j2, .str "n" k3, .int 256 k4⟩, ⟨j3, .str "ntt_zetas" k5, .ref z⟩, ⟨j4, .str "ntt_f" k6, .int 3303 k7⟩] 4) :: (lx, listOf us.toArray nu) :: rest) →
      @LT.lt Nat _ lx dpx → @LT.lt Nat _ dpx px → Q (.ref px) { s with heap := h1, toks := tk1 }) :
    wpAny (model prog w) (ktrTop dp un gd cn cs L a ccd cl outer) (call (.ref x) [.ref lx] [("is_ntt", .bool true)]) Q E s := by
  w_on
  k_with_none
  have kMark := kstMark
  k_with "END" =>
    (rename Fr h₀ L _ _ => eF
     rename News h₀ L _ _ => eN
     exact hret _ _ _ _ _ _ _ _ eF eN (by omega) (by omega))
  w_strict (
    refine wpAny_call ?_
    refine' kco_code (K := _root_.Mine.fr.heap_1 w.params) ?za ?zb ?zc ?zd ?ze ?zf ?_
    (case za => k_in)
    (case zb => k_inst)
    (case zc => rfl)
    (case zd => k_is)
    (case ze => k_is)
    (case zf => k_is)
    (try dsimp only)
    k_dflt (refine' code_def ?za ?zb ?zc ?zd ?ze ?zA ?zF ?zK ?z6 ?z7 ?z8 ?z9 ?zB ?_ ?z2 ?z3 ?z4 ?z5; (case zA => exact rfl); (case zF => exact rfl); (case zK => exact hk); (case za => k_asm); (case zb => k_asm); (case zc => k_asm); (case zd => k_asm); (case ze => k_asm); (case z6 => k_is); (case z7 => k_is); (case z8 => ktr_room); (case z9 => first | exact BindsTo.of_eq rfl | exact binds_K (by k_in) rfl (by k_is) rfl rfl rfl); (case z5 => decide); (case zB => exact locs rfl); (case z2 => exact rfl); (case z3 => exact rfl); (case z4 => exact rfl); k_whole; intro g' L' h' FG' F' N' B' X' T'; (try dsimp only); (try k_fold))
    (repeat' (first | (k_unfold; (try dsimp only)) | walk1 | (dsimp only; walk1) | k_extra "END")))
end Mine
namespace Mine
/-! the plain law -/
def Cg (a b : Int) : Prop := ∃ q, a = b + 3329 * q
theorem Cg.rfl {a : Int} : Cg a a := ⟨0, by omega⟩
theorem Cg.of_eq {a b : Int} (h : a = b) : Cg a b := h ▸ Cg.rfl
theorem Cg.symm {a b : Int} (h : Cg a b) : Cg b a := by obtain ⟨q, hq⟩ := h; exact ⟨-q, by omega⟩
theorem Cg.trans {a b c : Int} (h : Cg a b) (k : Cg b c) : Cg a c := by
  obtain ⟨q, hq⟩ := h; obtain ⟨p, hp⟩ := k; exact ⟨q + p, by omega⟩
theorem Cg.add {a b c d : Int} (h : Cg a b) (k : Cg c d) : Cg (a + c) (b + d) := by
  obtain ⟨q, hq⟩ := h; obtain ⟨p, hp⟩ := k; exact ⟨q + p, by omega⟩
theorem Cg.sub {a b c d : Int} (h : Cg a b) (k : Cg c d) : Cg (a - c) (b - d) := by
  obtain ⟨q, hq⟩ := h; obtain ⟨p, hp⟩ := k; exact ⟨q - p, by omega⟩
theorem Cg.mul {a b c d : Int} (h : Cg a b) (k : Cg c d) : Cg (a * c) (b * d) := by
  obtain ⟨q, rfl⟩ := h; obtain ⟨p, rfl⟩ := k; exact ⟨b * p + q * d + 3329 * (q * p), by grind⟩
theorem Cg.mod (a : Int) : Cg (a % 3329) a := ⟨-(a / 3329), by omega⟩
theorem Cg.fmod (a : Int) : Cg (Int.fmod a 3329) a := by rw [Int.fmod_eq_emod_of_nonneg _ (by decide)]; exact Cg.mod a
theorem Cg.pow {a b : Int} (h : Cg a b) : ∀ n : Nat, Cg (a ^ n) (b ^ n)
  | 0 => Cg.of_eq (by rw [Int.pow_zero, Int.pow_zero])
  | n + 1 => by rw [Int.pow_succ, Int.pow_succ]; exact (Cg.pow h n).mul h
theorem Cg.out {a b : Int} (h : Cg a b) : Int.fmod a 3329 = Int.fmod b 3329 := by
  rw [Int.fmod_eq_emod_of_nonneg _ (by decide), Int.fmod_eq_emod_of_nonneg _ (by decide)]
  obtain ⟨q, hq⟩ := h; omega
/-- plain sums -/
def sm (f : Nat → Int) : Nat → Int
  | 0 => 0
  | n + 1 => sm f n + f n
theorem sm_cg {f g : Nat → Int} : ∀ {n : Nat}, (∀ i, i < n → Cg (f i) (g i)) → Cg (sm f n) (sm g n)
  | 0, _ => Cg.rfl
  | n + 1, h => (sm_cg (n := n) fun i hi => h i (by omega)).add (h n (by omega))
theorem sm_eq {f g : Nat → Int} : ∀ {n : Nat}, (∀ i, i < n → f i = g i) → sm f n = sm g n
  | 0, _ => rfl
  | n + 1, h => by rw [sm, sm, sm_eq (n := n) fun i hi => h i (by omega), h n (by omega)]
theorem sm_split (f : Nat → Int) (n : Nat) : ∀ m, sm f (n + m) = sm f n + sm (fun i => f (n + i)) m
  | 0 => by rw [Nat.add_zero, sm]; omega
  | m + 1 => by rw [← Nat.add_assoc, sm, sm_split f n m, sm]; omega
theorem sm_mul (c : Int) (f : Nat → Int) : ∀ n, sm (fun i => c * f i) n = c * sm f n
  | 0 => by rw [sm, sm, Int.mul_zero]
  | n + 1 => by rw [sm, sm, sm_mul c f n, Int.mul_add]
theorem sm_add (f g : Nat → Int) : ∀ n, sm (fun i => f i + g i) n = sm f n + sm g n
  | 0 => rfl
  | n + 1 => by rw [sm, sm, sm, sm_add f g n]; omega
theorem sm_sub (f g : Nat → Int) : ∀ n, sm (fun i => f i - g i) n = sm f n - sm g n
  | 0 => rfl
  | n + 1 => by rw [sm, sm, sm, sm_sub f g n]; omega
theorem sm_head (f : Nat → Int) (n : Nat) : sm f (n + 1) = f 0 + sm (fun i => f (i + 1)) n := by
  rw [Nat.add_comm, sm_split f 1 n]
  show 0 + f 0 + _ = _
  rw [Int.zero_add]
  congr 1
  exact sm_eq fun i _ => by rw [Nat.add_comm]
/-! places -/
theorem getD_set (xs : List Int) (i x : Nat) (v : Int) (h : i < xs.length) : (xs.set i v).getD x 0 = if x = i then v else xs.getD x 0 := by
  rw [List.getD_eq_getElem?_getD]
  by_cases e : x = i
  · subst e; rw [List.getElem?_set_self h, if_pos rfl, Option.getD_some]
  · rw [List.getElem?_set_ne (fun k => e k.symm), if_neg e, ← List.getD_eq_getElem?_getD]
theorem bstep_get (l : Nat) (z : Int) (cs : List Int) (j x : Nat) (hl : 0 < l) (h : j + l < cs.length) :
    (bstep l z cs j).getD x 0 = if x = j + l then z * (cs.getD (j + l) 0 - cs.getD j 0) else if x = j then cs.getD j 0 + cs.getD (j + l) 0 else cs.getD x 0 := by
  rw [bstep, getD_set _ _ _ _ (by rw [List.length_set]; exact h), getD_set _ _ _ _ (by omega)]
theorem bturns_get (l : Nat) (z : Int) (s : Nat) (cs : List Int) (hs : s + 2 * l ≤ cs.length) : ∀ n, n ≤ l → ∀ x,
    (bturns l z s n cs).getD x 0 = if s ≤ x ∧ x < s + n then cs.getD x 0 + cs.getD (x + l) 0 else if s + l ≤ x ∧ x < s + l + n then z * (cs.getD x 0 - cs.getD (x - l) 0) else cs.getD x 0
  | 0, _, x => by rw [bturns, if_neg (by omega), if_neg (by omega)]
  | n + 1, hn, x => by
    have I := bturns_get l z s cs hs n (by omega)
    rw [bturns, bstep_get _ _ _ _ _ (by omega) (by rw [bturns_len]; omega)]
    have e1 : (bturns l z s n cs).getD (s + n) 0 = cs.getD (s + n) 0 := by rw [I, if_neg (by omega), if_neg (by omega)]
    have e2 : (bturns l z s n cs).getD (s + n + l) 0 = cs.getD (s + n + l) 0 := by rw [I, if_neg (by omega), if_neg (by omega)]
    rw [e1, e2, I]
    by_cases h1 : x = s + n + l
    · subst h1; rw [if_pos rfl, if_neg (by omega), if_pos (by omega), show s + n + l - l = s + n by omega]
    · rw [if_neg h1]
      by_cases h2 : x = s + n
      · subst h2; rw [if_pos rfl, if_pos (by omega)]
      · rw [if_neg h2]
        by_cases h3 : s ≤ x ∧ x < s + n
        · rw [if_pos h3, if_pos (by omega)]
        · rw [if_neg h3, if_neg (c := s ≤ x ∧ x < s + (n + 1)) (by omega)]
          by_cases h4 : s + l ≤ x ∧ x < s + l + n
          · rw [if_pos h4, if_pos (by omega)]
          · rw [if_neg h4, if_neg (by omega)]
theorem blocks_get (l : Nat) (zs : List Int) (k : Nat) (cs : List Int) : ∀ b, 2 * l * b ≤ cs.length →
    (∀ x, 2 * l * b ≤ x → (blocks l zs k b cs).getD x 0 = cs.getD x 0) ∧
    ∀ c, c < b → ∀ o, o < l → (blocks l zs k b cs).getD (2 * l * c + o) 0 = cs.getD (2 * l * c + o) 0 + cs.getD (2 * l * c + l + o) 0 ∧
      (blocks l zs k b cs).getD (2 * l * c + l + o) 0 = zs.getD (k - c) 0 * (cs.getD (2 * l * c + l + o) 0 - cs.getD (2 * l * c + o) 0)
  | 0, _ => ⟨fun _ _ => rfl, fun _ h => absurd h (Nat.not_lt_zero _)⟩
  | b + 1, h => by
    have e : 2 * l * (b + 1) = 2 * l * b + 2 * l := Nat.mul_succ _ _
    obtain ⟨I1, I2⟩ := blocks_get l zs k cs b (by omega)
    have G := fun x => bturns_get l (zs.getD (k - b) 0) (2 * l * b) (blocks l zs k b cs) (by rw [blocks_len]; omega) l (Nat.le_refl _) x
    rw [blocks]
    refine ⟨fun x hx => ?_, fun c hc o ho => ?_⟩
    · rw [G, if_neg (by omega), if_neg (by omega), I1 x (by omega)]
    · by_cases hcb : c = b
      · subst hcb
        constructor
        · rw [G, if_pos (by omega), I1 _ (by omega), I1 _ (by omega), show 2 * l * c + o + l = 2 * l * c + l + o by omega]
        · rw [G, if_neg (by omega), if_pos (by omega), I1 _ (by omega), I1 _ (by omega), show 2 * l * c + l + o - l = 2 * l * c + o by omega]
      · have hle : 2 * l * (c + 1) ≤ 2 * l * b := Nat.mul_le_mul_left _ (by omega)
        have e2 : 2 * l * (c + 1) = 2 * l * c + 2 * l := Nat.mul_succ _ _
        obtain ⟨J1, J2⟩ := I2 c (by omega) o ho
        constructor
        · rw [G, if_neg (by omega), if_neg (by omega), J1]
        · rw [G, if_neg (by omega), if_neg (by omega), J2]
/-! one layer of the transform, as the two words see it -/
def LayerR (h : Nat) (z : Nat → Int) (C C' : Nat → Int) : Prop := ∀ b, 2 * h * b + 2 * h ≤ 128 → ∀ o, o < 2 * h →
  C' (2 * (2 * h * b) + o) = C (2 * (2 * h * b) + o) + C (2 * (2 * h * b) + 2 * h + o) ∧
  C' (2 * (2 * h * b) + 2 * h + o) = z b * (C (2 * (2 * h * b) + 2 * h + o) - C (2 * (2 * h * b) + o))
def TabR (h : Nat) (z r : Nat → Int) : Prop := ∀ b, 2 * h * b + 2 * h ≤ 128 → ∀ j, j < h →
  Cg (r (2 * h * b + j) ^ h * z b) (-1) ∧ Cg (r (2 * h * b + h + j) ^ h * z b) 1
def InvB (R C r : Nat → Int) (h : Nat) : Prop := ∀ B, h * B + h ≤ 128 → ∀ o, o < 2 * h →
  Cg (C (2 * (h * B) + o)) (sm (fun j => R (2 * (h * B + j) + o % 2) * r (h * B + j) ^ (256 - o / 2)) h)
def InvA (R C r : Nat → Int) (h : Nat) : Prop := ∀ B, h * B + h ≤ 128 → ∀ j, j < h → ∀ e, e < 2 →
  Cg (sm (fun m => C (2 * (h * B) + 2 * m + e) * r (h * B + j) ^ m) h) ((h : Int) * R (2 * (h * B + j) + e))
theorem stepB {R C C' r z : Nat → Int} {h : Nat} (hL : LayerR h z C C') (hT : TabR h z r) (I : InvB R C r h) : InvB R C' r (2 * h) := by
  intro B hB o ho
  have e1 : h * (2 * B) = 2 * h * B := by rw [← Nat.mul_assoc, Nat.mul_comm h 2]
  have e2 : h * (2 * B + 1) = 2 * h * B + h := by rw [Nat.mul_succ, e1]
  have I1 := I (2 * B) (by omega)
  have I2 := I (2 * B + 1) (by omega)
  rw [e1] at I1
  rw [e2] at I2
  have L := hL B hB
  have T := hT B hB
  rw [show 2 * h = h + h by omega, sm_split, ← show 2 * h = h + h by omega]
  generalize 2 * h * B = v at *
  have hv2 : 2 * (v + h) = 2 * v + 2 * h := by omega
  rw [hv2] at I2
  by_cases hc : o < 2 * h
  · rw [(L o hc).1]
    refine (I1 o hc).add ((I2 o hc).trans (Cg.of_eq (sm_eq fun j _ => ?_)))
    rw [Nat.add_assoc v h j]
  · obtain ⟨o', rfl⟩ : ∃ o', o = 2 * h + o' := ⟨o - 2 * h, by omega⟩
    have ho' : o' < 2 * h := by omega
    rw [← Nat.add_assoc, (L o' ho').2]
    have hmod : (2 * h + o') % 2 = o' % 2 := by omega
    have hdiv : (2 * h + o') / 2 = h + o' / 2 := by omega
    rw [hmod, hdiv]
    have hexp : 256 - o' / 2 = h + (256 - (h + o' / 2)) := by omega
    refine (Cg.mul Cg.rfl ((I2 o' ho').sub (I1 o' ho'))).trans ?_
    rw [Int.mul_sub, ← sm_mul, ← sm_mul, Int.sub_eq_add_neg, Int.add_comm]
    refine Cg.add ?_ (sm_cg fun j hj => ?_)
    · rw [← Int.neg_one_mul, ← sm_mul]
      refine sm_cg fun j hj => ?_
      have t := (T j hj).1
      rw [hexp, Int.pow_add]
      generalize r (v + j) ^ (256 - (h + o' / 2)) = y at *
      generalize r (v + j) ^ h = x at *
      generalize R (2 * (v + j) + o' % 2) = q at *
      refine (Cg.of_eq (show _ = -1 * (x * z B) * (q * y) by grind)).trans (((Cg.mul Cg.rfl t).mul Cg.rfl).trans (Cg.of_eq (by grind)))
    · have t := (T j hj).2
      rw [hexp, Int.pow_add]
      rw [← Nat.add_assoc v h j]
      generalize r (v + h + j) ^ (256 - (h + o' / 2)) = y at *
      generalize r (v + h + j) ^ h = x at *
      generalize R (2 * (v + h + j) + o' % 2) = q at *
      refine (Cg.of_eq (show _ = (x * z B) * (q * y) by grind)).trans ((t.mul Cg.rfl).trans (Cg.of_eq (by grind)))
theorem stepA {R C C' r z : Nat → Int} {h : Nat} (hL : LayerR h z C C') (hT : TabR h z r) (I : InvA R C r h) : InvA R C' r (2 * h) := by
  intro B hB j hj e he
  have e1 : h * (2 * B) = 2 * h * B := by rw [← Nat.mul_assoc, Nat.mul_comm h 2]
  have e2 : h * (2 * B + 1) = 2 * h * B + h := by rw [Nat.mul_succ, e1]
  have I1 := I (2 * B) (by omega)
  have I2 := I (2 * B + 1) (by omega)
  rw [e1] at I1
  rw [e2] at I2
  have L := hL B hB
  have T := hT B hB
  rw [show 2 * h = h + h by omega, sm_split, ← show 2 * h = h + h by omega]
  generalize 2 * h * B = v at *
  have hv2 : 2 * (v + h) = 2 * v + 2 * h := by omega
  rw [hv2] at I2
  rw [← sm_add]
  by_cases hc : j < h
  · have t := (T j hc).1
    have ii := I1 j hc e he
    refine (sm_cg (g := fun m => 2 * (C (2 * v + 2 * m + e) * r (v + j) ^ m)) fun m hm => ?_).trans ?_
    · have l1 := (L (2 * m + e) (by omega)).1
      have l2 := (L (2 * m + e) (by omega)).2
      rw [show 2 * v + 2 * m + e = 2 * v + (2 * m + e) by omega, show 2 * v + 2 * (h + m) + e = 2 * v + 2 * h + (2 * m + e) by omega, l1, l2, Int.pow_add]
      generalize C (2 * v + 2 * h + (2 * m + e)) = a at *
      generalize C (2 * v + (2 * m + e)) = b at *
      generalize r (v + j) ^ m = y at *
      generalize r (v + j) ^ h = x at *
      refine (Cg.of_eq (show _ = (b + a) * y + (x * z B) * ((a - b) * y) by grind)).trans ((Cg.add Cg.rfl (t.mul Cg.rfl)).trans (Cg.of_eq (by grind)))
    · rw [sm_mul]
      refine (Cg.mul Cg.rfl ii).trans (Cg.of_eq ?_)
      rw [Int.natCast_mul, ← Int.mul_assoc]
      rfl
  · obtain ⟨j', rfl⟩ : ∃ j', j = h + j' := ⟨j - h, by omega⟩
    have hj' : j' < h := by omega
    have t := (T j' hj').2
    have ii := I2 j' hj' e he
    rw [Nat.add_assoc v h j'] at t ii
    refine (sm_cg (g := fun m => 2 * (C (2 * v + 2 * h + 2 * m + e) * r (v + (h + j')) ^ m)) fun m hm => ?_).trans ?_
    · have l1 := (L (2 * m + e) (by omega)).1
      have l2 := (L (2 * m + e) (by omega)).2
      rw [show 2 * v + 2 * h + 2 * m + e = 2 * v + 2 * h + (2 * m + e) by omega, show 2 * v + 2 * m + e = 2 * v + (2 * m + e) by omega, show 2 * v + 2 * (h + m) + e = 2 * v + 2 * h + (2 * m + e) by omega, l1, l2, Int.pow_add]
      generalize C (2 * v + 2 * h + (2 * m + e)) = a at *
      generalize C (2 * v + (2 * m + e)) = b at *
      generalize r (v + (h + j')) ^ m = y at *
      generalize r (v + (h + j')) ^ h = x at *
      refine (Cg.of_eq (show _ = (b + a) * y + (x * z B) * ((a - b) * y) by grind)).trans ((Cg.add Cg.rfl (t.mul Cg.rfl)).trans (Cg.of_eq (by grind)))
    · rw [sm_mul]
      refine (Cg.mul Cg.rfl ii).trans (Cg.of_eq ?_)
      rw [Int.natCast_mul, ← Int.mul_assoc]
      rfl
/-! the tables -/
def zN : List Nat := [1, 1729, 2580, 3289, 2642, 630, 1897, 848, 1062, 1919, 193, 797, 2786, 3260, 569, 1746, 296, 2447, 1339, 1476, 3046, 56, 2240, 1333, 1426, 2094, 535, 2882, 2393, 2879, 1974, 821, 289, 331, 3253, 1756, 1197, 2304, 2277, 2055, 650, 1977, 2513, 632, 2865, 33, 1320, 1915, 2319, 1435, 807, 452, 1438, 2868, 1534, 2402, 2647, 2617, 1481, 648, 2474, 3110, 1227, 910, 17, 2761, 583, 2649, 1637, 723, 2288, 1100, 1409, 2662, 3281, 233, 756, 2156, 3015, 3050, 1703, 1651, 2789, 1789, 1847, 952, 1461, 2687, 939, 2308, 2437, 2388, 733, 2337, 268, 641, 1584, 2298, 2037, 3220, 375, 2549, 2090, 1645, 1063, 319, 2773, 757, 2099, 561, 2466, 2594, 2804, 1092, 403, 1026, 1143, 2150, 2775, 886, 1722, 1212, 1874, 1029, 2110, 2935, 885, 2154]
def rN : List Nat := [17, 3312, 2761, 568, 583, 2746, 2649, 680, 1637, 1692, 723, 2606, 2288, 1041, 1100, 2229, 1409, 1920, 2662, 667, 3281, 48, 233, 3096, 756, 2573, 2156, 1173, 3015, 314, 3050, 279, 1703, 1626, 1651, 1678, 2789, 540, 1789, 1540, 1847, 1482, 952, 2377, 1461, 1868, 2687, 642, 939, 2390, 2308, 1021, 2437, 892, 2388, 941, 733, 2596, 2337, 992, 268, 3061, 641, 2688, 1584, 1745, 2298, 1031, 2037, 1292, 3220, 109, 375, 2954, 2549, 780, 2090, 1239, 1645, 1684, 1063, 2266, 319, 3010, 2773, 556, 757, 2572, 2099, 1230, 561, 2768, 2466, 863, 2594, 735, 2804, 525, 1092, 2237, 403, 2926, 1026, 2303, 1143, 2186, 2150, 1179, 2775, 554, 886, 2443, 1722, 1607, 1212, 2117, 1874, 1455, 1029, 2300, 2110, 1219, 2935, 394, 885, 2444, 2154, 1175]
theorem zL_lit : zL = zN.map Int.ofNat := by decide +kernel
theorem rL_lit : rL = rN.map Int.ofNat := by decide +kernel
theorem tab_all : ∀ i, i < 7 → ∀ j, j < 128 → (rN.getD j 0 ^ 2 ^ i * zN.getD (2 ^ (7 - i) - 1 - j / 2 ^ (i + 1)) 0) % 3329 = if j / 2 ^ i % 2 = 1 then 1 else 3328 := by decide +kernel
theorem getD_ofNat (xs : List Nat) (i : Nat) : (xs.map Int.ofNat).getD i 0 = ((xs.getD i 0 : Nat) : Int) := by
  rw [List.getD_eq_getElem?_getD, List.getD_eq_getElem?_getD, List.getElem?_map]
  cases xs[i]? <;> rfl
theorem pow256 : ∀ j, j < 128 → rN.getD j 0 ^ 256 % 3329 = 1 := by decide +kernel
def rF (j : Nat) : Int := rL.getD j 0
def zF (i b : Nat) : Int := zL.getD (2 ^ (7 - i) - 1 - b) 0
theorem tabR (i : Nat) (hi : i < 7) : TabR (2 ^ i) (zF i) rF := by
  intro b hb j hj
  have hp : 0 < 2 ^ i := Nat.pow_pos (by decide)
  have e0 : 2 ^ (i + 1) = 2 * 2 ^ i := by rw [Nat.pow_succ, Nat.mul_comm]
  unfold rF zF
  rw [zL_lit, rL_lit, getD_ofNat, getD_ofNat, getD_ofNat]
  have key : ∀ j', j' < 128 → j' / 2 ^ (i + 1) = b → Cg (((rN.getD j' 0 : Nat) : Int) ^ 2 ^ i * ((zN.getD (2 ^ (7 - i) - 1 - b) 0 : Nat) : Int)) (if j' / 2 ^ i % 2 = 1 then 1 else -1) := by
    intro j' h1 h2
    have t := tab_all i hi j' h1
    rw [h2] at t
    rw [← Int.natCast_pow, ← Int.natCast_mul]
    generalize rN.getD j' 0 ^ 2 ^ i * zN.getD (2 ^ (7 - i) - 1 - b) 0 = y at *
    split at t
    · rename_i h3; rw [if_pos h3]; exact ⟨(y : Int) / 3329, by omega⟩
    · rename_i h3; rw [if_neg h3]; exact ⟨(y : Int) / 3329 + 1, by omega⟩
  generalize hg : 2 ^ i = h at *
  have d1 : (2 * h * b + j) / (2 ^ (i + 1)) = b := by
    rw [e0, Nat.mul_add_div (by omega), Nat.div_eq_of_lt (by omega), Nat.add_zero]
  have d2 : (2 * h * b + h + j) / (2 ^ (i + 1)) = b := by
    rw [e0, Nat.add_assoc, Nat.mul_add_div (by omega), Nat.div_eq_of_lt (by omega), Nat.add_zero]
  have c1 : 2 * h * b = h * (2 * b) := by rw [Nat.mul_comm 2 h, Nat.mul_assoc]
  have d3 : (2 * h * b + j) / h = 2 * b := by
    rw [c1, Nat.mul_add_div (by omega), Nat.div_eq_of_lt hj, Nat.add_zero]
  have d4 : (2 * h * b + h + j) / h = 2 * b + 1 := by
    rw [c1, ← Nat.mul_succ, Nat.mul_add_div (by omega), Nat.div_eq_of_lt hj, Nat.add_zero]
  have k1 := key (2 * h * b + j) (by omega) d1
  have k2 := key (2 * h * b + h + j) (by omega) d2
  rw [d3, if_neg (by omega)] at k1
  rw [d4, if_pos (by omega)] at k2
  exact ⟨k1, k2⟩
def lF (ns : List Int) (i x : Nat) : Int := (layers zL i ns).getD x 0
theorem layerR (ns : List Int) (hn : ns.length = 256) (i : Nat) (hi : i < 7) : LayerR (2 ^ i) (zF i) (lF ns i) (lF ns (i + 1)) := by
  have e0 : 2 ^ (i + 1) = 2 * 2 ^ i := by rw [Nat.pow_succ, Nat.mul_comm]
  have e1 : 2 * 2 ^ (i + 1) * 2 ^ (6 - i) = 256 := by
    rw [Nat.mul_assoc, ← Nat.pow_add, show i + 1 + (6 - i) = 7 by omega]
  obtain ⟨_, G⟩ := blocks_get (2 ^ (i + 1)) zL (2 ^ (7 - i) - 1) (layers zL i ns) (2 ^ (6 - i)) (by rw [layers_len, hn]; omega)
  intro b hb o ho
  have hb2 : b < 2 ^ (6 - i) := by
    rw [e0] at e1
    apply Nat.lt_of_not_le
    intro hle
    have := Nat.mul_le_mul_left (2 * (2 * 2 ^ i)) hle
    have c1 : 2 * (2 * 2 ^ i) * b = 2 * (2 * 2 ^ i * b) := Nat.mul_assoc _ _ _
    have hp : 0 < 2 ^ i := Nat.pow_pos (by decide)
    omega
  have g := G b hb2 o (by omega)
  rw [e0, Nat.mul_assoc 2 (2 * 2 ^ i) b] at g
  unfold lF zF
  rw [layers, e0]
  exact g
theorem inv_all (ns : List Int) (hn : ns.length = 256) : ∀ i, i ≤ 7 → InvB (fun x => ns.getD x 0) (lF ns i) rF (2 ^ i) ∧ InvA (fun x => ns.getD x 0) (lF ns i) rF (2 ^ i)
  | 0, _ => by
    refine ⟨fun B hB o ho => ?_, fun B hB j hj e he => ?_⟩
    · have h1 : o / 2 = 0 := by omega
      have h2 : o % 2 = o := by omega
      rw [h1, h2]
      rw [Nat.pow_zero, Nat.one_mul] at *
      show Cg _ (0 + _ * rF (B + 0) ^ 256)
      rw [Int.zero_add, Nat.add_zero]
      have t1 : Cg (rF B ^ 256) 1 := by
        have t := (pow256 B (by omega))
        unfold rF
        rw [rL_lit, getD_ofNat, ← Int.natCast_pow]
        generalize rN.getD B 0 ^ 256 = y at *
        exact ⟨(y : Int) / 3329, by omega⟩
      exact ((Cg.mul Cg.rfl t1).trans (Cg.of_eq (Int.mul_one _))).symm
    · have h1 : j = 0 := by omega
      subst h1
      rw [Nat.pow_zero, Nat.one_mul] at *
      show Cg (0 + _ * rF (B + 0) ^ 0) _
      rw [Int.zero_add, Int.pow_zero, Int.mul_one]
      show Cg _ (1 * _)
      rw [Int.one_mul]
      exact Cg.rfl
  | i + 1, h => by
    obtain ⟨b, a⟩ := inv_all ns hn i (by omega)
    have e0 : 2 ^ (i + 1) = 2 * 2 ^ i := by rw [Nat.pow_succ, Nat.mul_comm]
    rw [e0]
    exact ⟨stepB (layerR ns hn i (by omega)) (tabR i (by omega)) b, stepA (layerR ns hn i (by omega)) (tabR i (by omega)) a⟩
/-! the answer -/
theorem scaled_get (f : Int) (cs : List Int) : ∀ n, n ≤ cs.length → ∀ x, (scaled f n cs).getD x 0 = if x < n then Int.fmod (cs.getD x 0 * f) 3329 else cs.getD x 0
  | 0, _, x => by rw [scaled, if_neg (by omega)]
  | n + 1, h, x => by
    rw [scaled, getD_set _ _ _ _ (by rw [scaled_len]; omega), scaled_get f cs n (by omega), scaled_get f cs n (by omega), if_neg (Nat.lt_irrefl n)]
    by_cases e : x = n
    · subst e; rw [if_pos rfl, if_pos (by omega)]
    · rw [if_neg e]
      by_cases e2 : x < n
      · rw [if_pos e2, if_pos (by omega)]
      · rw [if_neg e2, if_neg (by omega)]
/-- the answer, of any row of 256 -/
def pR (ns : List Int) : List Int := scaled 3303 256 (layers zL 7 ns)
theorem pR_get (ns : List Int) (hn : ns.length = 256) (x : Nat) (hx : x < 256) : Cg ((pR ns).getD x 0) (3303 * lF ns 7 x) := by
  rw [pR, scaled_get _ _ _ (by rw [layers_len, hn]; exact Nat.le_refl _), if_pos hx]
  exact (Cg.fmod _).trans (Cg.of_eq (Int.mul_comm _ _))
theorem law_B (ns : List Int) (hn : ns.length = 256) (x : Nat) (hx : x < 256) :
    Cg (128 * (pR ns).getD x 0) (sm (fun j => ns.getD (2 * j + x % 2) 0 * rF j ^ (256 - x / 2)) 128) := by
  have b := (inv_all ns hn 7 (Nat.le_refl _)).1 0 (by decide) x hx
  refine (Cg.mul Cg.rfl (pR_get ns hn x hx)).trans ?_
  rw [show 2 ^ 7 = 128 from rfl] at b
  rw [Nat.mul_zero, Nat.zero_add] at b
  refine (Cg.trans (b := lF ns 7 x) ⟨lF ns 7 x * 127, by omega⟩ b).trans (Cg.of_eq (sm_eq fun j _ => ?_))
  rw [Nat.zero_add]
theorem law_A (ns : List Int) (hn : ns.length = 256) (j : Nat) (hj : j < 128) (e : Nat) (he : e < 2) :
    Cg (sm (fun m => (pR ns).getD (2 * m + e) 0 * rF j ^ m) 128) (ns.getD (2 * j + e) 0) := by
  have a := (inv_all ns hn 7 (Nat.le_refl _)).2 0 (by decide) j hj e he
  rw [show 2 ^ 7 = 128 from rfl] at a
  rw [Nat.mul_zero, Nat.zero_add] at a
  refine (sm_cg (g := fun m => 3303 * (lF ns 7 (0 + 2 * m + e) * rF j ^ m)) fun m hm => ?_).trans ?_
  · rw [Nat.zero_add, ← Int.mul_assoc]
    exact (pR_get ns hn _ (by omega)).mul Cg.rfl
  · rw [sm_mul]
    refine (Cg.mul Cg.rfl a).trans ?_
    show Cg (3303 * (128 * ns.getD (2 * j + e) 0)) _
    generalize ns.getD (2 * j + e) 0 = y
    exact ⟨127 * y, by omega⟩
/-! the school's division -/
theorem rest_get (r : Int) (cs : List Int) (hn : cs.length = 256) : ∀ i, i ≤ 254 → ∀ x,
    (x < 254 - i → (restT r i cs).getD x 0 = cs.getD x 0) ∧ (254 ≤ x → (restT r i cs).getD x 0 = cs.getD x 0) ∧
    (254 - i ≤ x → x < 254 → Cg ((restT r i cs).getD x 0) (cs.getD x 0 + r * (restT r i cs).getD (x + 2) 0))
  | 0, _, x => ⟨fun _ => rfl, fun _ => rfl, fun _ _ => by omega⟩
  | i + 1, hi, x => by
    have I := rest_get r cs hn i (by omega)
    have G := fun y => getD_set (restT r i cs) (253 - i) y (Int.fmod ((restT r i cs).getD (253 - i) 0 + r * (restT r i cs).getD (255 - i) 0) 3329) (by rw [restT_len]; omega)
    rw [restT]
    refine ⟨fun h => ?_, fun h => ?_, fun h1 h2 => ?_⟩
    · rw [G, if_neg (by omega)]; exact (I x).1 (by omega)
    · rw [G, if_neg (by omega)]; exact (I x).2.1 h
    · rw [G, G]
      by_cases e : x = 253 - i
      · subst e
        rw [if_pos rfl, if_neg (by omega), (I _).1 (by omega), show 253 - i + 2 = 255 - i by omega]
        exact Cg.fmod _
      · rw [if_neg e, if_neg (by omega)]
        exact (I x).2.2 (by omega) h2
theorem rest_sum (r : Int) (cs : List Int) (hn : cs.length = 256) (e : Nat) (he : e < 2) : ∀ n, n ≤ 127 →
    Cg ((restT r 254 cs).getD (2 * (127 - n) + e) 0) (sm (fun m => cs.getD (2 * (127 - n + m) + e) 0 * r ^ m) (n + 1))
  | 0, _ => by
    rw [(rest_get r cs hn 254 (Nat.le_refl _) _).2.1 (by omega)]
    show Cg _ (0 + _ * r ^ 0)
    rw [Int.zero_add, Int.pow_zero, Int.mul_one]
    exact Cg.rfl
  | n + 1, h => by
    have I := rest_sum r cs hn e he n (by omega)
    have g := (rest_get r cs hn 254 (Nat.le_refl _) (2 * (127 - (n + 1)) + e)).2.2 (by omega) (by omega)
    rw [show 2 * (127 - (n + 1)) + e + 2 = 2 * (127 - n) + e by omega] at g
    rw [sm_head]
    refine g.trans (Cg.add (Cg.of_eq ?_) ((Cg.mul Cg.rfl I).trans (Cg.of_eq ?_)))
    · simp only [Int.pow_zero, Int.mul_one, Nat.add_zero]
    · rw [← sm_mul]
      refine sm_eq fun m _ => ?_
      rw [show 127 - (n + 1) + (m + 1) = 127 - n + m by omega, Int.pow_succ]
      grind
theorem eT_tab : ∀ k : Nat, k < 128 → (17 ^ (eT (k : Int) 7).toNat % 3329 == (rN.getD k 0)) = true := by decide +kernel
theorem eT_root {place : Int} (h0 : 0 ≤ place) (h1 : place < 128) : (17 : Int) ^ (eT place 7).toNat % 3329 = rF place.toNat := by
  obtain ⟨k, rfl⟩ := Int.eq_ofNat_of_zero_le h0
  have t := eT_tab k (by omega)
  rw [beq_iff_eq] at t
  unfold rF
  rw [Int.toNat_natCast, rL_lit, getD_ofNat, ← t]
  push_cast
  rfl
theorem plain_A (ns : List Int) (hn : ns.length = 256) {place : Int} (h0 : 0 ≤ place) (h1 : place < 128) (e : Nat) (he : e < 2) :
    Int.fmod ((restT (17 ^ (eT place 7).toNat % 3329) 254 (pR ns)).getD e 0) 3329 = Int.fmod (ns.getD (2 * place.toNat + e) 0) 3329 := by
  rw [eT_root h0 h1]
  have hp : (pR ns).length = 256 := by rw [pR, scaled_len, layers_len, hn]
  have a := rest_sum (rF place.toNat) (pR ns) hp e he 127 (Nat.le_refl _)
  rw [Nat.sub_self, Nat.mul_zero, Nat.zero_add] at a
  refine (a.trans ((Cg.of_eq (sm_eq fun m _ => ?_)).trans (law_A ns hn place.toNat (by omega) e he))).out
  rw [Nat.zero_add]
theorem rL_len : rL.length = 128 := by rw [rL_lit]; rfl
theorem pL_eq (ns : List Int) : pL ns = pR (rowL ns) := rfl
theorem plain_A0 (ns : List Int) {place : Int} (h0 : 0 ≤ place) (h1 : place < 128) :
    Int.fmod ((restT (17 ^ (eT place 7).toNat % 3329) 254 (pL ns)).getD 0 0) 3329 = Int.fmod ((rowL ns).getD (2 * place).toNat 0) 3329 := by
  rw [pL_eq, plain_A (rowL ns) (rowL_len ns) h0 h1 0 (by decide), show 2 * place.toNat + 0 = (2 * place).toNat by omega]
theorem plain_A1 (ns : List Int) {place : Int} (h0 : 0 ≤ place) (h1 : place < 128) :
    Int.fmod ((restT (17 ^ (eT place 7).toNat % 3329) 254 (pL ns)).getD 1 0) 3329 = Int.fmod ((rowL ns).getD (2 * place + 1).toNat 0) 3329 := by
  rw [pL_eq, plain_A (rowL ns) (rowL_len ns) h0 h1 1 (by decide), show 2 * place.toNat + 1 = (2 * place + 1).toNat by omega]
def sumF (ns : List Int) (spot : Int) : Nat → Int := sm (fun j => (rowL ns).getD (2 * (j : Int) + Int.fmod spot 2).toNat 0 * (rL.getD j 0 ^ (256 - Int.fdiv spot 2).toNat % 3329))
theorem sumF_succ (ns : List Int) (spot : Int) (i : Nat) : sumF ns spot (i + 1) = sumF ns spot i + (rowL ns).getD (2 * (i : Int) + Int.fmod spot 2).toNat 0 * (rL.getD i 0 ^ (256 - Int.fdiv spot 2).toNat % 3329) := rfl
theorem plain_B (ns : List Int) {spot : Int} (h0 : 0 ≤ spot) (h1 : spot < 256) :
    Int.fmod (128 * (pL ns).getD spot.toNat 0) 3329 = Int.fmod (sumF ns spot 128) 3329 := by
  rw [pL_eq]
  refine ((law_B (rowL ns) (rowL_len ns) spot.toNat (by omega)).trans (sm_cg fun j hj => ?_)).out
  have e1 : Int.fmod spot 2 = spot % 2 := Int.fmod_eq_emod_of_nonneg _ (by decide)
  have e2 : Int.fdiv spot 2 = spot / 2 := Int.fdiv_eq_ediv_of_nonneg _ (by decide)
  rw [e1, e2, show (2 * (j : Int) + spot % 2).toNat = 2 * j + spot.toNat % 2 by omega, show (256 - spot / 2).toNat = 256 - spot.toNat / 2 by omega]
  exact Cg.mul Cg.rfl (Cg.mod _).symm
end Mine
namespace Mine
section
variable {prog : Program} {w : World} {A A₀ : Around} {E : Value → Shared → Prop} {s : Shared} {K : Frag} {C L : Addr} {h₀ base : Heap} {m mg mb : Str → Option Value} {news : List (Addr × Obj)} {p : Program} {loose : List Str} {Q : Value → Shared → Prop}
/-- a def called, the top only read -/
theorem code_defR {env : Env} {outer : List Env} {R : Result → Shared → Prop} {name qual : Str} {params : Arguments} {body : List Stmt} {scope : Scope} {dV kV doc pm cdv ct oc : Value} {an od : Option Addr} {osl : Array (Option Value)} {f : Addr} {args : Args} {binds : List (Str × Value)}
    (B : Below A₀ base outer h₀) (F : Fr h₀ L s.heap m) (X₀ : K.In h₀) (N : News h₀ L s.heap news) (T : TopRead p loose mg mb h₀) (hA : A.frames = some (env :: outer)) (hf : env.frame = some L) (hke : env.scope.kind = .function)
    (ho : K.lookup f = some ⟨oc, od, .func (fnOf name qual params body scope dV kV doc pm an cdv ct), osl⟩) (hcd : codeIn K cdv qual = true) (hroom : A.depth < recursionLimit)
    (hbind : BindsTo s (fnOf name qual params body scope dV kV doc pm an cdv ct) args binds) (hloc : ∀ y ∈ binds, scope.names.lookup y.1 = some .local)
    (h : ∀ g L' h₁, Fr h₀ L g m → Fr g L' h₁ (fun y => binds.reverse.lookup y) → News g L' h₁ news → Below A base (env :: outer) g → K.In g → TopRead p loose mg mb g →
      wpAny (model prog w) (A.deeper (envOf qual scope L' f cdv)) (execs body (envOf qual scope L' f cdv))
        (fun fl s' => LeaveK h₀ L m g R (match fl with | .ret v => v | _ => .none) s')
        (fun e s' => wpAny (model prog w) (A.deeper (envOf qual scope L' f cdv)) (leaving (envOf qual scope L' f cdv) e) (fun _ s'' => R (.error e) s'') (fun e' s'' => R (.error e') s'') s')
        { s with heap := h₁, toks := s.toks + binds.length })
    (hco : scope.isCoroutine = false) (hgen : scope.isGenerator = false) (hk : scope.kind = .function)
    (hcell : ∀ x ∈ scope.names, x.2 ≠ .cell) : codeAny (model prog w) A (.call (.ref f) args) R s :=
  callX_plain (cl := []) B F N T.nolimit hA hf hke ((X₀.keeps F.keep) _ _ ho) rfl (codeRec_of (X₀.keeps F.keep) hcd) hroom hbind hloc (fun g L' h₁ FG F' N' B' st _ => h g L' h₁ FG F' N' B' (X₀.keeps st) (T.keeps st)) hcell hco hgen hk
end
local macro_rules | `(tactic| walk_at "pyIter ref") => `(tactic| k_dflt (k_extra "pyIter ref"))
local macro_rules | `(tactic| walk_at "InvEndN") => `(tactic| k_dflt (k_extra "InvEndN"))
local macro_rules | `(tactic| walk_at "exec For Name Call cons nil") => `(tactic| (k_here; (rename Fr _ _ _ _ => lF'); (with_unfolding_all refine' For_invVF lF' ?k1 ?k2 ?_; (case k1 => exact rfl); (case k2 => exact rfl); k_whole)))
local macro_rules | `(tactic| walk_at "call builtin:pow") => `(tactic| (with_reducible refine call_pow3 (by omega) (by omega) ?_))
local macro_rules | `(tactic| walk_at "binaryOp FloorDiv int int") => `(tactic| (with_reducible refine floordiv_int (by omega) ?_))
local macro_rules | `(tactic| k_room) => `(tactic| ktr_room)
local macro_rules | `(tactic| k_all) => `(tactic| assumption)
theorem law_rest_claimR {prog : Program} {w : World} {p : Program} {loose : List Str} {mg mb : Str → Option Value}
    (lx : Addr) (us : List Value) (ns : List Int) (nu : Nat) (place : Int) (tp : Tok) (rest : List (Addr × Obj))
    (dp un : Nat) (gd : Option (List Code)) (cn : Str) (cs : Scope) (a : Addr) (ccd : Value) (cl : List (Str × Addr)) (outer : List Env) (A₀ : Around) (base h₀ : Heap) (L : Addr) (m : Str → Option Value) (s : Shared) (Q E : Value → Shared → Prop)
    (B : Below A₀ base outer h₀) (F : Fr h₀ L s.heap m) (X : (_root_.Mine.fr.heap_1 w.params).In h₀)
    (N : News h₀ L s.heap ((lx, listOf us.toArray nu) :: rest))
    (hu : IntsAre us ns) (hun : ns.length = 256) (hp0 : 0 ≤ place) (hp1 : place < 128)
    (T : TopRead p loose mg mb h₀) (hk : cs.kind = .function) (hd : dp + 5 < recursionLimit)
    (hret : ∀ (D1 : Addr) (k1 k2 : Tok) (h1 : Heap) (tk1 : Nat), Fr h₀ L h1 m → News h₀ L h1 ((D1, listOf #[.int (((restT (17 ^ (eT place 7).toNat % 3329) 254 ns).getD 0 0).fmod 3329) k1, .int (((restT (17 ^ (eT place 7).toNat % 3329) 254 ns).getD 1 0).fmod 3329) k2] 0) :: (lx, listOf us.toArray nu) :: rest) → Q (.ref D1) { s with heap := h1, toks := tk1 }) :
    wpAny (model prog w) (ktrTop dp un gd cn cs L a ccd cl outer) (call (.ref 447) [.ref lx, .int place tp]) Q E s := by
  w_on
  k_with_none
  k_with "pyIter ref" =>
    (rename Fr _ _ _ _ => lF'
     rename News _ _ _ _ => lN'
     rename IsRange _ _ _ 7 1 _ _ _ => rgX
     refine' kst_range (σ := Int × Int × Tok × Tok) (n := 7) (fun c => (lx, listOf us.toArray nu) :: rest) (fun c => [("e", .int c.1 c.2.2.1), ("step", .int c.2.1 c.2.2.2)]) (fun _ => True) []
       (fun pre c => c.1 = eT place pre.length ∧ c.2.1 = sT pre.length) ⟨?xaC, ?xbC, ?xcC, ?xdC⟩ (by rfl) rgX (by decide) (by rfl) lF' lN' trivial ?kk ?kp ?turn7 ?done7
     case kk => (dsimp only; refine List.forall_mem_cons.mpr ⟨by with_unfolding_all rfl, List.forall_mem_cons.mpr ⟨by with_unfolding_all rfl, List.forall_mem_nil _⟩⟩)
     case kp => exact ⟨rfl, rfl⟩
     case' turn7 =>
       intro c pre k t u h tk own hk7 hlt7 hoff _ hP kF kN
       obtain ⟨e7, s7, te7, ts7⟩ := c
       dsimp only [kstB] at kF kN hP hoff
       obtain ⟨hP1, hP2⟩ := hP
       have hs7 := sT_pos hlt7
       rw [← hP2] at hs7
       have kMark := kstMark
       clear lF' lN'
       (try k_fold)
     case' done7 =>
       intro c u h tk _ hP kF kN
       obtain ⟨e7, s7, te7, ts7⟩ := c
       dsimp only [kstB] at kF kN hP
       obtain ⟨hP1, hP2⟩ := hP
       rw [rangeKs_length] at hP1
       have he7 := eT_bnd place 7
       rw [← hP1] at he7
       clear lF' lN'
       (try k_fold))
  k_with "pyIter ref" =>
    (rename Fr _ _ _ _ => lF'
     rename News _ _ _ _ => lN'
     rename IsRange _ _ _ _ _ _ _ _ => rgX
     refine' range_d 254 (fun i => restT (17 ^ e7.toNat % 3329) i ns) (by rfl) (by rfl) rgX (by decide) (by rfl) lF' lN' (by assumption) ?turn6 ?done6
     case' turn6 =>
       intro i6 us6 t h tk own hi6 hoff hu6 kF kN
       simp only [List.cons_append] at kN
       have hlen6 : (restT (17 ^ e7.toNat % 3329) i6 ns).length = 256 := by rw [restT_len]; exact hun
       have kMark := kstMark
       have hr6 : 0 ≤ (17 : Int) ^ e7.toNat % 3329 ∧ (17 : Int) ^ e7.toNat % 3329 < 3329 := ⟨Int.emod_nonneg _ (by decide), Int.emod_lt_of_pos _ (by decide)⟩
       generalize hcs6 : restT (17 ^ e7.toNat % 3329) i6 ns = cs6 at hu6 hlen6
       clear lF' lN'
       (try k_fold)
     case' done6 =>
       intro us6 u h tk hu6 kF kN
       have hlen6 : (restT (17 ^ e7.toNat % 3329) 254 ns).length = 256 := by rw [restT_len]; exact hun
       clear lF' lN'
       (try k_fold))
  k_with "InvEndN" =>
    (rename Fr _ _ _ _ => eF
     rename News _ _ _ _ => eN
     refine' jd_end eF eN ?hn ?ha ?hi ?he ?hm
     case hn => exact fun q hq => hq
     case ha => rfl
     case hi => assumption
     case hm => (intro z hz1; simp only [if_neg hz1])
     case he => (
       show _ = restT (17 ^ e7.toNat % 3329) (i6 + 1) ns
       rw [restT, hcs6, show (255 + (i6 : Int) * (-1) - 2).toNat = 253 - i6 by omega, show (255 + (i6 : Int) * (-1)).toNat = 255 - i6 by omega]))
  k_with "InvEndN" =>
    (rename Fr _ _ _ _ => eF
     rename News _ _ _ _ => eN
     refine' kst_end (⟨_, _, _, _⟩ : Int × Int × Tok × Tok) eF eN ?hn ?ho ?ha ?hf ?hk ?hr ?hp
     case hk => (dsimp only; refine List.forall_mem_cons.mpr ⟨by with_unfolding_all rfl, List.forall_mem_cons.mpr ⟨by with_unfolding_all rfl, List.forall_mem_nil _⟩⟩)
     case hn => exact fun q hq => List.mem_append_left own hq
     case ho => exact fun q hq => List.mem_append_right _ hq
     case ha => rfl
     case hf => trivial
     case hr => kst_same
     case hp => (
       rw [List.length_append, List.length_singleton]
       exact ⟨by (show _ = eT place (pre.length + 1)); rw [eT, ← hP1, ← hP2]; first | (rw [if_pos (by assumption)]) | (rw [if_neg (by assumption)]), by (show _ = sT (pre.length + 1)); rw [sT, ← hP2]⟩))
  k_with "END" =>
    (rename Fr h₀ L _ _ => eF
     rename News h₀ L _ _ => eN
     rw [hP1] at eN
     exact hret _ _ _ _ _ eF (news_skip eN))
  w_strict (
    refine wpAny_call ?_
    k_dflt (refine' code_defR ?k1 ?k2 ?k3 ?k4 ?k5 ?kA ?kF ?kK ?k6 ?k7 ?k8 ?k9 ?kB ?_ ?c2 ?c3 ?c4 ?c5; (case kA => exact rfl); (case kF => exact rfl); (case kK => assumption); (case k1 => k_asm); (case k2 => k_asm); (case k3 => k_asm); (case k4 => k_asm); (case k5 => k_asm); (case k6 => k_is); (case k7 => k_is); (case k8 => ktr_room); (case k9 => exact BindsTo.of_eq rfl); (case c5 => decide); (case kB => exact locs rfl); (case c2 => exact rfl); (case c3 => exact rfl); (case c4 => exact rfl); k_whole; intro g' L' h' FG' F' N' B' X' T'; (try dsimp only); (try k_fold))
    (repeat' (first | (k_unfold; (try dsimp only)) | walk1 | (dsimp only; walk1) | k_extra "END")))
end Mine
namespace Mine
/-- a loop over a list of the ledger, that keeps all but its own name -/
def JR (R : Addr) (rs : List Value) (cR : Nat) (led : List (Addr × Obj)) (x y1 y2 : Str) (m₀ : Str → Option Value) (m : Str → Option Value) (nx : List (Addr × Obj)) : Prop :=
  (R, listOf rs.toArray cR) ∈ nx ∧ nx = led ∧ ∀ z, z ≠ x → z ≠ y1 → z ≠ y2 → m z = m₀ z
theorem map3 {x y1 y2 : Str} {v : Option Value} {m₁ m₀ : Str → Option Value} (h : ∀ z, z ≠ x → z ≠ y1 → z ≠ y2 → m₁ z = m₀ z) :
    (fun z => if z = x then v else m₁ z) = fun z => if z = x then v else if z = y1 then m₁ y1 else if z = y2 then m₁ y2 else m₀ z := by
  funext z
  by_cases h1 : z = x
  · simp only [if_pos h1]
  · by_cases h2 : z = y1
    · subst h2; simp only [if_neg h1, if_true]
    · by_cases h3 : z = y2
      · subst h3; simp only [if_neg h1, if_neg h2, if_true]
      · simp only [if_neg h1, if_neg h2, if_neg h3]; exact h z h1 h2 h3
theorem map3' {x y1 y2 : Str} {m₁ m₀ : Str → Option Value} (h : ∀ z, z ≠ x → z ≠ y1 → z ≠ y2 → m₁ z = m₀ z) :
    m₁ = fun z => if z = x then m₁ x else if z = y1 then m₁ y1 else if z = y2 then m₁ y2 else m₀ z := by
  rw [← map3 h]
  funext z
  by_cases h1 : z = x
  · subst h1; simp only [if_true]
  · simp only [if_neg h1]
theorem iter_read {prog : Program} {w : World} {A : Around} {E : Value → Shared → Prop} {s : Shared} {env : Env} {h₀ : Heap} {x : Str} {body : List Stmt} {Q : Flow → Shared → Prop}
    {L R : Addr} {m₀ : Str → Option Value} {cR : Nat} {led : List (Addr × Obj)} {rs : List Value} {ns : List Int} (y1 y2 : Str) (hL : env.locals = L)
    (hh : A.handled = none) (F : Fr h₀ L s.heap m₀) (N : News h₀ L s.heap led) (hR : (R, listOf rs.toArray cR) ∈ led) (hi : IntsAre rs ns)
    (turn : ∀ (i : Nat) n u1 u2 t h tk own, ns[i]? = some n → OwnOff own (led.map (·.1)) →
      Fr h₀ L h (fun z => if z = x then some (.int n t) else if z = y1 then u1 else if z = y2 then u2 else m₀ z) → News h₀ L h (led ++ own) →
      wpAny (model prog w) A (execs body env) (InvPostN h₀ L (JR R rs cR led x y1 y2 m₀) own (led.map (·.1)) { s with heap := h, toks := tk } Q) E { s with heap := h, toks := tk })
    (done : ∀ u u1 u2 h tk, Fr h₀ L h (fun z => if z = x then u else if z = y1 then u1 else if z = y2 then u2 else m₀ z) → News h₀ L h led → Q .next { s with heap := h, toks := tk }) :
    wpAny (model prog w) A (pyIter (.ref R)) (fun it s₂ => LoopAtV prog w A h₀ env x body Q E it s₂) E s := by
  subst hL
  refine iter_invNL (fun _ m nx => nx = led ∧ ∀ z, z ≠ x → z ≠ y1 → z ≠ y2 → m z = m₀ z) hh hR hi F N ⟨rfl, fun _ _ _ _ => rfl⟩ ?_ ?_
  · rintro i n t m₁ nx h tk own hn _ hoff _ ⟨rfl, hm⟩ F₁ N₁
    rw [map3 hm] at F₁
    exact turn i n (m₁ y1) (m₁ y2) t h tk own hn hoff F₁ N₁
  · rintro m₁ nx h tk _ ⟨rfl, hm⟩ F₁ N₁
    rw [map3' hm] at F₁
    exact done (m₁ x) (m₁ y1) (m₁ y2) h tk F₁ N₁
theorem jr_end {R : Addr} {rs : List Value} {cR : Nat} {led : List (Addr × Obj)} {x y1 y2 : Str} {m₀ m' : Str → Option Value} {h₀ h' : Heap} {L : Addr} {own news' : List (Addr × Obj)} {adr : List Addr} {s₁ : Shared} {tk : Nat}
    (F : Fr h₀ L h' m') (N : News h₀ L h' news') (hR : (R, listOf rs.toArray cR) ∈ led) (hn : ∀ p ∈ led ++ own, p ∈ news') (ha : led.map (·.1) = adr)
    (hm : ∀ z, z ≠ x → z ≠ y1 → z ≠ y2 → m' z = m₀ z) :
    InvEndN h₀ L (JR R rs cR led x y1 y2 m₀) own adr s₁ { s₁ with heap := h', toks := tk } :=
  InvEndN.intro F N ⟨hR, rfl, hm⟩ ha (fun p hp => hn p (List.mem_append_left own hp)) (fun p hp => hn p (List.mem_append_right _ hp))
/-- a loop over a range that sums into one name -/
def JS (led : List (Addr × Obj)) (f : Nat → Int) (x y : Str) (m₀ : Str → Option Value) (i : Nat) (m : Str → Option Value) (nx : List (Addr × Obj)) : Prop :=
  nx = led ∧ (∃ u, m y = some (.int (f i) u)) ∧ ∀ z, z ≠ x → z ≠ y → m z = m₀ z
theorem range_sum {prog : Program} {w : World} {A : Around} {E : Value → Shared → Prop} {s : Shared} {env : Env} {h₀ : Heap} {x : Str} {body : List Stmt} {Q : Flow → Shared → Prop}
    {r L : Addr} {a₀ b₀ : Int} {t₀ u₀ v₀ tv : Tok} {n : Nat} {m₀ : Str → Option Value} {led : List (Addr × Obj)} (y : Str) (f : Nat → Int) (hxy : y ≠ x) (hL : env.locals = L)
    (hh : A.handled = none) (hr : IsRange s.heap r a₀ b₀ 1 t₀ u₀ v₀) (hsmall : Builtin.Range.small a₀ b₀ 1 = true) (hn : (b₀ - a₀).toNat = n)
    (F : Fr h₀ L s.heap m₀) (N : News h₀ L s.heap led) (h0 : m₀ y = some (.int (f 0) tv))
    (turn : ∀ i t u h tk own, i < n → OwnOff own (led.map (·.1)) →
      Fr h₀ L h (fun z => if z = x then some (.int (a₀ + (i : Int)) t) else if z = y then some (.int (f i) u) else m₀ z) → News h₀ L h (led ++ own) →
      wpAny (model prog w) A (execs body env) (InvPostN h₀ L (JS led f x y m₀ (i + 1)) own (led.map (·.1)) { s with heap := h, toks := tk } Q) E { s with heap := h, toks := tk })
    (done : ∀ u v h tk, Fr h₀ L h (fun z => if z = x then u else if z = y then some (.int (f n) v) else m₀ z) → News h₀ L h led → Q .next { s with heap := h, toks := tk }) :
    wpAny (model prog w) A (pyIter (.ref r)) (fun it s₂ => LoopAtV prog w A h₀ env x body Q E it s₂) E s := by
  subst hL
  refine range_inv (JS led f x y m₀) hh hr hsmall hn F N ⟨rfl, ⟨tv, h0⟩, fun _ _ _ => rfl⟩ ?_ ?_
  · rintro i t m₁ nx h tk own hi ha hoff ⟨rfl, ⟨u, hu⟩, hm⟩ F₁ N₁
    rw [map_xy hm, hu] at F₁
    exact turn i t u h tk own hi hoff F₁ N₁
  · rintro m₁ nx h tk ⟨rfl, ⟨u, hu⟩, hm⟩ F₁ N₁
    refine done (m₁ x) u h tk ?_ N₁
    have e := map_xy (v := m₁ x) hm
    rw [hu] at e
    rw [← e]
    have e2 : (fun z => if z = x then m₁ x else m₁ z) = m₁ := by
      funext z
      by_cases h1 : z = x
      · subst h1; simp only [if_true]
      · simp only [if_neg h1]
    rw [e2]
    exact F₁
theorem js_end {led : List (Addr × Obj)} {f : Nat → Int} {x y : Str} {m₀ m' : Str → Option Value} {i : Nat} {h₀ h' : Heap} {L : Addr} {own news' : List (Addr × Obj)} {adr : List Addr} {s₁ : Shared} {tk : Nat} {v : Int} {u : Tok}
    (F : Fr h₀ L h' m') (N : News h₀ L h' news') (hn : ∀ p ∈ led ++ own, p ∈ news') (ha : led.map (·.1) = adr)
    (hy : m' y = some (.int v u)) (he : v = f (i + 1)) (hm : ∀ z, z ≠ x → z ≠ y → m' z = m₀ z) :
    InvEndN h₀ L (JS led f x y m₀ (i + 1)) own adr s₁ { s₁ with heap := h', toks := tk } :=
  InvEndN.intro F N ⟨rfl, ⟨u, he ▸ hy⟩, hm⟩ ha (fun p hp => hn p (List.mem_append_left own hp)) (fun p hp => hn p (List.mem_append_right _ hp))
/-- a drawn place, a drawn spot -/
theorem drawn_bnd {f : Int → Int} {k : Int} (hk : 0 < k) {ks : List Int} {i : Nat} {n : Int} (h : (List.map (fun k' => (f k').fmod k) ks)[i]? = some n) : 0 ≤ n ∧ n < k := by
  obtain ⟨a, _, rfl⟩ := List.mem_map.mp (List.mem_of_getElem? h)
  rw [Int.fmod_eq_emod_of_nonneg _ (Int.le_of_lt hk)]
  exact ⟨Int.emod_nonneg _ (Int.ne_of_gt hk), Int.emod_lt_of_pos _ hk⟩
theorem news_tail {h₀ h : Heap} {L : Addr} {a b c e1 e2 e3 row e4 e5 e6 spots places roots : Addr × Obj} {l : List (Addr × Obj)}
    (N : News h₀ L h (a :: b :: c :: e1 :: e2 :: e3 :: row :: e4 :: e5 :: e6 :: spots :: places :: roots :: l)) : News h₀ L h [a, b, c, row, spots, places, roots] := fun q hq => by
  refine N q ?_
  simp only [List.mem_cons, List.not_mem_nil, or_false] at hq ⊢
  rcases hq with e | e | e | e | e | e | e
  · exact .inl e
  · exact .inr (.inl e)
  · exact .inr (.inr (.inl e))
  · exact .inr (.inr (.inr (.inr (.inr (.inr (.inl e))))))
  · exact .inr (.inr (.inr (.inr (.inr (.inr (.inr (.inr (.inr (.inr (.inl e))))))))))
  · exact .inr (.inr (.inr (.inr (.inr (.inr (.inr (.inr (.inr (.inr (.inr (.inl e)))))))))))
  · exact .inr (.inr (.inr (.inr (.inr (.inr (.inr (.inr (.inr (.inr (.inr (.inr (.inl e))))))))))))
theorem ite_no {c : Prop} [Decidable c] {p q : Prop} (h : ¬ c) (k : q) : ite c p q := by rw [if_neg h]; exact k
theorem bne_no {a b : Int} (h : a = b) : ¬ ((a != b) = true) := by simp [h]
theorem pow_ok {s : Int} (h0 : 0 ≤ s) (h1 : s < 256) : 0 ≤ 256 - Int.fdiv s 2 := by
  have e2 : Int.fdiv s 2 = s / 2 := Int.fdiv_eq_ediv_of_nonneg _ (by decide)
  rw [e2]; omega
theorem sumF_turn (ns : List Int) (spot : Int) (i : Nat) :
    sumF ns spot i + (rowL ns).getD (2 * (0 + (i : Int)) + Int.fmod spot 2).toNat 0 * (rL.getD (0 + (i : Int)).toNat 0 ^ (256 - Int.fdiv spot 2).toNat % 3329) = sumF ns spot (i + 1) := by
  rw [sumF_succ, Int.zero_add, Int.toNat_natCast]
end Mine
namespace Mine
theorem carried_true {b : Bool} (h : b = true) : Carried (.bool b) (.bool true) := h ▸ Carried.bool b
theorem post_ok (xs : List WData) : (PySem.Challenge.rw_yi0058_01.row.toRowW).claim.post xs (WData.bool true) xs = true := postW_of (by wrow_shape) (by wtm_val) (by str_meet; first | done | w_fin)
theorem raises_ok (xs : List WData) (cls : ExcName) : (PySem.Challenge.rw_yi0058_01.row.toRowW).claim.raises xs cls = false := raisesW_false (by wrow_none_raised) cls
theorem classed39 (w : World) : kb_classed (_root_.Mine.fr.heap_1 w.params) = true := by kernel_rfl
local macro_rules | `(tactic| walk_at "call ref") => `(tactic| k_dflt (k_extra "call ref"))
local macro_rules | `(tactic| walk_at "callWith ref") => `(tactic| (k_here; kco_any "__call__"; kco_here; k_dflt (refine' callWith_instKW ?k1 ?k2 ?k3 ?k4 ?_; (case k2 => k_inst); (case k1 => k_in); (case k3 => rfl); (case k4 => exact rfl); k_whole)))
local macro_rules | `(tactic| walk_at "storeName") => `(tactic| k_dflt (k_extra "storeName"))
local macro_rules | `(tactic| walk_at "call builtin:len") => `(tactic| k_dflt (k_extra "call builtin:len"))
local macro_rules | `(tactic| walk_at "pyIter ref") => `(tactic| k_dflt (k_extra "pyIter ref"))
local macro_rules | `(tactic| walk_at "call builtin:all") => `(tactic| k_dflt (k_extra "call builtin:all"))
local macro_rules | `(tactic| walk_at "InvEndN") => `(tactic| k_dflt (k_extra "InvEndN"))
local macro_rules | `(tactic| walk_at "ite") => `(tactic| k_dflt (k_extra "ite"))
local macro_rules | `(tactic| walk_at "call builtin:pow") => `(tactic| k_dflt (k_extra "call builtin:pow"))
local macro_rules | `(tactic| walk_at "SeqLeaf") => `(tactic| k_dflt (k_extra "SeqLeaf"))
local macro_rules | `(tactic| k_all) => `(tactic| k_extra "k_all")
def law.tw13907695276051963155 : Unit := ()
def law.tw17038989161820919810 : Unit := ()
def law.tw12072918262129465612 : Unit := ()
def law.tw14457996101469503984 : Unit := ()
def law.tw6603711355055834884 : Unit := ()
def law.tw17268576072614951534 : Unit := ()
def law.tw12447676645149583606 : Unit := ()
def law.tw3658399733352078227 : Unit := ()
def law.tw11378091334480120755 : Unit := ()
def law.tw18224535460685113982 : Unit := ()
def law.tw12246657066270729845 : Unit := ()
def law.tw655683508416521606 : Unit := ()
def law.tw4555462946037337122 : Unit := ()
def law.tw2446730921751395402 : Unit := ()
def law.tw16979417059122617732 : Unit := ()
def law.tw4273496761429035384 : Unit := ()
def law.tw16135512224290333599 : Unit := ()
def law.tw8214018013531795001 : Unit := ()
def law.tw9465032496250510172 : Unit := ()
def law.tw16360857089514365176 : Unit := ()
def law.tw4733010638956210534 : Unit := ()
def law.tw13817118937593592305 : Unit := ()
def law.tw8111664155686639096 : Unit := ()
def law.tw9937669407633546576 : Unit := ()
def law.tw15041525498782234677 : Unit := ()
def law.tw654278399032429246 : Unit := ()
def law.tw17985451953469339569 : Unit := ()
def law.tw7167135338594676765 : Unit := ()
def law.tw15976744160287997598 : Unit := ()
def law.tw10217726386000427819 : Unit := ()
def law.tw17506701968014169379 : Unit := ()
def law.tw9507168425194765073 : Unit := ()
def law.tw1894415437690322856 : Unit := ()
def law.tw6424448315993446631 : Unit := ()
def law.tw7928155888929269629 : Unit := ()
def law.tw8765402361407721219 : Unit := ()
def law.tw3911520878051630713 : Unit := ()
def law.tw6627507069022015959 : Unit := ()
def law.tw8481551819484204512 : Unit := ()
def law.tw5727335911104298072 : Unit := ()
def law.tw3635574925395915108 : Unit := ()
def law.tw9378306084680490058 : Unit := ()
def law.tw743264849047517613 : Unit := ()
def law.tw16176092079185841447 : Unit := ()
def law.tw11097398223588278986 : Unit := ()
def law.tw6320052863035037261 : Unit := ()
def law.tw472668490227771761 : Unit := ()
def law.tw8541979377530643823 : Unit := ()
def law.tw14035150605665280278 : Unit := ()
def law.tw8011040964148999876 : Unit := ()
set_option Elab.async true in
theorem law : PySem.Challenge.rw_yi0058_01.Holds := by
  w_on
  o_law
  o_head (kHook Mine.fr.heap_1 [nat_lit 2, nat_lit 3, nat_lit 15, nat_lit 17, nat_lit 18, nat_lit 20, nat_lit 21, nat_lit 29, nat_lit 31, nat_lit 32, nat_lit 34, nat_lit 35, nat_lit 36, nat_lit 38, nat_lit 39, nat_lit 41, nat_lit 42, nat_lit 43, nat_lit 45, nat_lit 46, nat_lit 48, nat_lit 49, nat_lit 50, nat_lit 52, nat_lit 53, nat_lit 55, nat_lit 56, nat_lit 57, nat_lit 58, nat_lit 59, nat_lit 60, nat_lit 61, nat_lit 71, nat_lit 73, nat_lit 74, nat_lit 76, nat_lit 77, nat_lit 78, nat_lit 80, nat_lit 81, nat_lit 83, nat_lit 84, nat_lit 85, nat_lit 87, nat_lit 88, nat_lit 90, nat_lit 91, nat_lit 92, nat_lit 95, nat_lit 96, nat_lit 97, nat_lit 99, nat_lit 100, nat_lit 102, nat_lit 103, nat_lit 104, nat_lit 106, nat_lit 107, nat_lit 109, nat_lit 110, nat_lit 111, nat_lit 113, nat_lit 114, nat_lit 116, nat_lit 117, nat_lit 118, nat_lit 121, nat_lit 122, nat_lit 123, nat_lit 126, nat_lit 127, nat_lit 128, nat_lit 131, nat_lit 132, nat_lit 133, nat_lit 135, nat_lit 136, nat_lit 138, nat_lit 139, nat_lit 140, nat_lit 142, nat_lit 143, nat_lit 145, nat_lit 146, nat_lit 147, nat_lit 149, nat_lit 150, nat_lit 152, nat_lit 153, nat_lit 154, nat_lit 157, nat_lit 158, nat_lit 159, nat_lit 161, nat_lit 162, nat_lit 164, nat_lit 165, nat_lit 166, nat_lit 168, nat_lit 169, nat_lit 171, nat_lit 172, nat_lit 173, nat_lit 175, nat_lit 176, nat_lit 178, nat_lit 179, nat_lit 180, nat_lit 183, nat_lit 184, nat_lit 185, nat_lit 187, nat_lit 188, nat_lit 190, nat_lit 191, nat_lit 192, nat_lit 194, nat_lit 195, nat_lit 197, nat_lit 198, nat_lit 199, nat_lit 201, nat_lit 202, nat_lit 204, nat_lit 205, nat_lit 206, nat_lit 208, nat_lit 209, nat_lit 211, nat_lit 212, nat_lit 213, nat_lit 215, nat_lit 216, nat_lit 218, nat_lit 219, nat_lit 220, nat_lit 221, nat_lit 222, nat_lit 223, nat_lit 224, nat_lit 227, nat_lit 234, nat_lit 237, nat_lit 238, nat_lit 239, nat_lit 241, nat_lit 242, nat_lit 244, nat_lit 245, nat_lit 246, nat_lit 247, nat_lit 248, nat_lit 249, nat_lit 251, nat_lit 252, nat_lit 254, nat_lit 255, nat_lit 256, nat_lit 257, nat_lit 259, nat_lit 260, nat_lit 262, nat_lit 263, nat_lit 264, nat_lit 265, nat_lit 267, nat_lit 268, nat_lit 270, nat_lit 271, nat_lit 272, nat_lit 273, nat_lit 275, nat_lit 276, nat_lit 278, nat_lit 279, nat_lit 280, nat_lit 281, nat_lit 282, nat_lit 285, nat_lit 292, nat_lit 294, nat_lit 295, nat_lit 297, nat_lit 298, nat_lit 299, nat_lit 301, nat_lit 302, nat_lit 304, nat_lit 305, nat_lit 306, nat_lit 308, nat_lit 309, nat_lit 311, nat_lit 312, nat_lit 313, nat_lit 315, nat_lit 316, nat_lit 318, nat_lit 319, nat_lit 320, nat_lit 322, nat_lit 323, nat_lit 325, nat_lit 326, nat_lit 327, nat_lit 329, nat_lit 330, nat_lit 332, nat_lit 333, nat_lit 334, nat_lit 336, nat_lit 337, nat_lit 339, nat_lit 340, nat_lit 341, nat_lit 343, nat_lit 344, nat_lit 346, nat_lit 347, nat_lit 348, nat_lit 349, nat_lit 350, nat_lit 353, nat_lit 360, nat_lit 362, nat_lit 363, nat_lit 365, nat_lit 366, nat_lit 367, nat_lit 369, nat_lit 370, nat_lit 372, nat_lit 373, nat_lit 374, nat_lit 376, nat_lit 377, nat_lit 379, nat_lit 380, nat_lit 381, nat_lit 383, nat_lit 384, nat_lit 386, nat_lit 387, nat_lit 388, nat_lit 389, nat_lit 390, nat_lit 391, nat_lit 393, nat_lit 394, nat_lit 396, nat_lit 397, nat_lit 398, nat_lit 400, nat_lit 401, nat_lit 403, nat_lit 404, nat_lit 405, nat_lit 407, nat_lit 408, nat_lit 410, nat_lit 411, nat_lit 412, nat_lit 414, nat_lit 415, nat_lit 417, nat_lit 418, nat_lit 419, nat_lit 422, nat_lit 423, nat_lit 424, nat_lit 425, nat_lit 426, nat_lit 429, nat_lit 431, nat_lit 432, nat_lit 434, nat_lit 435, nat_lit 436, nat_lit 439, nat_lit 440, nat_lit 441, nat_lit 443, nat_lit 444, nat_lit 446, nat_lit 447, nat_lit 448, nat_lit 451, nat_lit 452] (fun _ => by kernel_rfl))
  (case hw => w_witness2)
  k_with_none
  have kMark := kstMark
  k_with "call ref" =>
    ((with_reducible show wpAny _ _ (PySem.call (Value.ref 282) _ _) _ _ _)
     refine' ring_claim _ _ _ _ _ _ _ _ _ _ _ _ _ _ _ _ _ _ ?rB ?rF ?rX ?rN ?rT ?rk ?rd ?_
     case rB => k_asm
     case rF => k_asm
     case rX => k_asm
     case rN => k_asm
     case rT => k_asm
     case rk => rfl
     case rd => ktr_room
     intro xR dR zR zys kA1 kA2 kA3 kA4 kA5 kA6 kA7 h9 tk9 F9 N9 Iz
     (try k_fold))
  k_with "call ref" =>
    ((with_reducible show wpAny _ _ (PySem.call (Value.ref 440) _ _) _ _ _)
     refine' roots_claim _ _ _ _ _ _ _ _ _ _ _ _ _ _ _ _ _ _ ?rB ?rF ?rX ?rN ?rT ?rk ?rd ?_
     case rB => k_asm
     case rF => k_asm
     case rX => k_asm
     case rN => k_asm
     case rT => k_asm
     case rk => rfl
     case rd => ktr_room
     intro rD rys rn h9 tk9 F9 N9 Ir
     have hPz : PFact (IntsAre zys zL) := ⟨by assumption⟩
     have hPr : PFact (IntsAre rys rL) := ⟨Ir⟩
     (try k_fold))
  k_with "call ref" =>
    ((with_reducible show wpAny _ _ (PySem.call (Value.ref 435) _ _) _ _ _)
     refine' draw_claim _ _ _ _ _ _ _ _ _ _ _ _ _ _ _ _ _ _ _ _ _ _ _ ?rB ?rF ?rX ?rN ?rS ?r0 ?r1 ?rT ?rk ?rd ?_
     case rB => k_asm
     case rF => k_asm
     case rX => k_asm
     case rN => k_asm
     case rS => exact hS
     case r0 => first | decide | exact Int.add_nonneg (by decide) (by assumption)
     case r1 => first | decide | exact bnd_comp (by assumption) (by decide) (by decide) | exact bnd_comp (by assumption) (many_b _).1 (many_le _)
     case rT => k_asm
     case rk => rfl
     case rd => ktr_room
     intro t9 h9 tk9 F9 N9
     (try k_fold))
  k_with "storeName" =>
    ((with_reducible show wpAny _ _ (storeName _ (Str.ofString "row") _) _ _ _)
     (fail_if_success (with_reducible rename RowMark => hRM))
     rename IntsAre _ _ => hRow0
     have hRow : IntsAre _ (rowL wns) := hRow0
     clear hRow0
     have hRM := rowMark
     have hRlen := rowL_len wns)
  k_with "call ref" =>
    ((with_reducible show wpAny _ _ (PySem.call (Value.ref _) [Value.ref _] _) _ _ _)
     rename Fr _ _ _ _ => eF
     rename News _ _ _ _ => eN
     refine' ntt_claim xR dR zR _ _ _ _ _ _ _ _ kA1 kA2 kA3 kA4 kA5 kA6 kA7 _ _ _ _ _ _ _ _ _ _ _ _ _ _ _ _ _ _ ?rB eF ?rX (news_front2 eN ?rm1 ?rm2) hRow hRlen ?rT ?rk ?rd ?_
     case rm1 => k_mem
     case rm2 => k_mem
     case rB => k_asm
     case rX => k_asm
     case rT => k_asm
     case rk => rfl
     case rd => ktr_room
     intro px dpx i1 i2 t1 t2 h9 tk9 F9 N9 hpl hpd
     (try k_fold))
  k_with "call ref" =>
    ((with_reducible show wpAny _ _ (PySem.call (Value.ref 380) _ _) _ _ _)
     rename Fr _ _ _ _ => eF
     rename News _ _ _ _ => eN
     refine' from_ntt_claim px dpx _ xR dR zR _ zys (rowL wns) zL _ zys.length _ _ _ _ _ _ _ _ _ _ _ _ _ _ _ 3303 _ _ _ _ _ _ _ _ _ _ _ _ _ _ _ _ _ _ ?rB eF ?rX (news_re eN ?rm3) hRow ?rz hRlen zL_len zL_bnd ⟨by decide, by decide⟩ ?rd1 ?rd2 ?rd3 ?rd4 ?rd5 ?rd6 ?rT ?rk ?rd ?_
     case rm3 => k_mem
     case rz => exact hPz.out
     case rB => k_asm
     case rX => k_asm
     case rT => k_asm
     case rk => rfl
     case rd => ktr_room
     case rd1 => k_ne
     case rd2 => k_ne
     case rd3 => k_ne
     case rd4 => k_ne
     case rd5 => k_ne
     case rd6 => k_all
     intro x1 d1 j1 j2 kk1 kk2 us1 h9 tk9 F9 N9 I1
     dsimp only [ledP] at N9
     have N8 := news_lx N9
     clear N9
     have hPb := pL_bnd wns
     have hPlen := pL_len wns
     have hP : IntsAre us1 (pL wns) := I1
     clear I1
     have hUlen : us1.length = 256 := hP.length.trans hPlen
     have hUsz : us1.toArray.size = 256 := by rw [List.size_toArray]; exact hUlen
     (try k_fold))
  k_with "call builtin:len" =>
    (rename News _ _ _ _ => eN
     refine' kst_len eN ?ml hUlen (by decide) ?_
     case ml => k_mem)
  k_with "pyIter ref" =>
    ((with_reducible show wpAny _ _ (pyIter _) (GenPost _ _ _ _ _ _ _ _ _ _ _ _ _ _ _ _ _ _) _ _)
     with_reducible rename Fr _ _ _ _ => gF
     with_reducible rename News _ _ _ _ => gN
     have hLK' := Fr.kb1 gF
     have hle' := News.le gN
     have gL := Heap.NoLimit.keeps (Glob.nolimit (by with_reducible assumption)) (Fr.keep gF)
     with_unfolding_all refine src_listD (K := ItemKind.int) (pz := fun _ => true) (d := fun _ => PyData.bool true) gB (News.isList gN (.head _)) (IntsAre.areOf hP) gF (by first | with_reducible assumption | exact AllBare.of_eq (by with_reducible assumption)) gL hLK' (Fr.kb2 gF) ?g1 ?g2 ?g3
     case g1 =>
       intro c4 C4 A4 E4 a4 v4 u4 m4 hA4 hD4 hU4 ha4 hv4 F4 hm4 hL4 hk4
       exact wpAny_pure ⟨rfl, ⟨_, _, rfl, fun _ _ e => e⟩⟩
     case' g2 =>
       intro c4 C4 A4 E4 a4 v4 u4 m4 hA4 hD4 hU4 ha4 hv4 hp4 F4 hm4 hL4 hk4
       obtain ⟨t4, rfl⟩ := ItemKind.int_is hv4
       have h04 := (hPb a4 ha4).1
       have h14 := (hPb a4 ha4).2
       (try (with_reducible refine wpAny_leafK ?_))
     case' g3 =>
       intro c5 a5 s5 gB5 F5 hb5 ho5 hk5 hX5
       have N5 := newsFor F5 (News.rebase gN gB hk5)
       have T5 := LGe.top_regrown F5 (topRead_of hT) gB
       have X5 := LGeL.in_regrown F5 hKX (topRead_of hT) gB (classed39 _)
       have G5 := globFor F5 (Glob.regrown hGL gB)
       have M5 := bmodFor F5 (BMod.regrown hM gB)
       have B5 := LGeL.below_at F5)
  k_with "call builtin:all" =>
    (refine all_genD (q := fun _ => true) F5 hb5 hX5 hLK' ?_
     intro s6 F6 hb6 ho6 hk6
     have N6 := News.kept N5 hle' hk6
     have e6 : ((pL wns).filter (fun _ => true)).all (fun _ => true) = true := by simp
     rw [e6]
     have N7 := news_tail N6
     generalize bindL _ _ _ = mB at F6
     with_reducible rename IntsAre _ (List.map (fun k' => Int.fmod (drawV _ (1 + k')) 128) _) => hIp
     with_reducible rename IntsAre _ (List.map (fun k' => Int.fmod (drawV _ (3 + k')) 256) _) => hIs
     clear e6 hk6 N5 N6 hX5 F5 gF gN hLK' hle' gL hk5 hb5
     (try clear from_ntt_claim)
     (try clear ring_claim)
     (try clear roots_claim)
     (try clear draw_claim)
     (try clear ntt_claim)
     (try clear classed39))
  k_with "pyIter ref" =>
    ((with_reducible show wpAny _ _ (pyIter _) (fun _ _ => LoopAtV _ _ _ _ _ (Str.ofString "place") _ _ _ _ _) _ _)
     with_reducible rename Fr _ _ _ _ => lF9
     with_reducible rename News _ _ _ _ => lN9
     refine' iter_read (Str.ofString "place") (Str.ofString "place") (by rfl) (by rfl) lF9 lN9 ?hRp hIp ?turnP ?doneP
     case hRp => k_mem
     case' turnP =>
       intro iP place uP1 uP2 tP hP9 tkP ownP hnP hoffP FP NP
       simp only [List.cons_append, List.nil_append] at NP
       have hbP := drawn_bnd (by decide) hnP
       have hbP0 := hbP.1
       have hbP1 := hbP.2
       have kMark := kstMark
       clear lF9 lN9
       (try k_fold)
     case' doneP =>
       intro uP uP1 uP2 hP9 tkP FP NP
       clear lF9 lN9
       (try k_fold))
  k_with "call ref" =>
    ((with_reducible show wpAny _ _ (PySem.call (Value.ref 447) _ _) _ _ _)
     rename Fr _ _ _ _ => eF
     rename News _ _ _ _ => eN
     refine' law_rest_claimR _ _ _ _ _ _ _ _ _ _ _ _ _ _ _ _ _ _ _ _ _ _ _ _ ?rB eF ?rX eN hP hPlen hbP0 hbP1 T5 ?rk ?rd ?_
     case rB => k_asm
     case rX => k_asm
     case rk => rfl
     case rd => ktr_room
     intro D8 k81 k82 h9 tk9 F9 N9
     rw [plain_A0 _ hbP0 hbP1, plain_A1 _ hbP0 hbP1] at N9
     clear eF eN
     (try k_fold))
  k_with "InvEndN" =>
    ((with_reducible show InvEndN _ _ (JR _ _ _ _ (Str.ofString "place") _ _ _) _ _ _ _)
     rename Fr _ _ _ _ => eF
     rename News _ _ _ _ => eN
     refine' jr_end eF eN ?hR4 ?hn4 ?ha4 ?hm4
     case hR4 => k_mem
     case hn4 => first | exact fun q hq => hq | exact fun q hq => .tail _ hq | exact fun q hq => .tail _ (.tail _ hq)
     case ha4 => rfl
     case hm4 => (intro z hz1 hz2 hz3; simp only [if_neg hz1]))
  k_with "pyIter ref" =>
    ((with_reducible show wpAny _ _ (pyIter _) (fun _ _ => LoopAtV _ _ _ _ _ (Str.ofString "spot") _ _ _ _ _) _ _)
     with_reducible rename Fr _ _ _ _ => lF9
     with_reducible rename News _ _ _ _ => lN9
     refine' iter_read (Str.ofString "total") (Str.ofString "i") (by rfl) (by rfl) lF9 lN9 ?hRs hIs ?turnT ?doneT
     case hRs => k_mem
     case' turnT =>
       intro iS spot uS1 uS2 tS hS9 tkS ownS hnS hoffS FS NS
       simp only [List.cons_append, List.nil_append] at NS
       have hbS := drawn_bnd (by decide) hnS
       have hbS0 := hbS.1
       have hbS1 := hbS.2
       have hplB := plain_B wns hbS0 hbS1
       have kMark := kstMark
       clear lF9 lN9
       (try k_fold)
     case' doneT =>
       intro uS uS1 uS2 hS9 tkS FZ NZ
       clear lF9 lN9
       (try k_fold))
  k_with "pyIter ref" =>
    ((with_reducible show wpAny _ _ (pyIter _) (fun _ _ => LoopAtV _ _ _ _ _ (Str.ofString "i") _ _ _ _ _) _ _)
     with_reducible rename Fr _ _ _ _ => lF9
     with_reducible rename News _ _ _ _ => lN9
     rename IsRange _ _ _ 128 1 _ _ _ => rgX
     refine' range_sum (n := 128) (Str.ofString "total") (sumF wns spot) (by decide) (by rfl) (by rfl) rgX (by decide) (by rfl) lF9 lN9 ?hR0 ?turnU ?doneU
     case hR0 => exact rfl
     case' turnU =>
       intro iU tU uU hU9 tkU ownU hltU hoffU FU NU
       simp only [List.cons_append, List.nil_append] at NU
       have kMark := kstMark
       have hrl := rL_len
       have hfm0 : 0 ≤ Int.fmod spot 2 ∧ Int.fmod spot 2 < 2 := ⟨Int.fmod_nonneg_of_pos _ (by decide), Int.fmod_lt_of_pos _ (by decide)⟩
       clear lF9 lN9
       (try k_fold)
     case' doneU =>
       intro uU vU hU9 tkU FU NU
       have kMark := kstMark
       clear lF9 lN9
       (try k_fold))
  k_with "InvEndN" =>
    ((with_reducible show InvEndN _ _ (JR _ _ _ _ (Str.ofString "spot") _ _ _) _ _ _ _)
     rename Fr _ _ _ _ => eF
     rename News _ _ _ _ => eN
     refine' jr_end eF eN ?hR4 ?hn4 ?ha4 ?hm4
     case hR4 => k_mem
     case hn4 => first | exact fun q hq => hq | exact fun q hq => .tail _ hq | exact fun q hq => .tail _ (.tail _ hq)
     case ha4 => rfl
     case hm4 => (intro z hz1 hz2 hz3; simp only [if_neg hz1, if_neg hz2, if_neg hz3]))
  k_with "InvEndN" =>
    ((with_reducible show InvEndN _ _ (JS _ _ _ _ _ _) _ _ _ _)
     rename Fr _ _ _ _ => eF
     rename News _ _ _ _ => eN
     refine' js_end eF eN ?hn4 ?ha4 ?hy4 ?he4 ?hm4
     case hn4 => first | exact fun q hq => hq | exact fun q hq => .tail _ hq | exact fun q hq => .tail _ (.tail _ hq)
     case ha4 => rfl
     case hy4 => exact rfl
     case he4 => with_reducible exact sumF_turn _ _ _
     case hm4 => (intro z hz1 hz2; simp only [if_neg hz1, if_neg hz2]))
  k_with "END" =>
    (have hFZ9 := FZ
     (try clear from_ntt_claim)
     (try clear ring_claim)
     (try clear roots_claim)
     (try clear draw_claim)
     (try clear ntt_claim)
     (try clear law_rest_claimR)
     (try clear classed39)
     refine goodWG_reads (d := .bool true) (as := []) gB5 hFZ9 hb6 (raises_ok _) ?hr9 ?hu9 (post_ok _) (ho6.trans ho5)
     case hr9 => exact ReadsW.bool _
     case hu9 => first | exact unshared_nil | exact fun h => absurd h (by decide))
  k_with "ite" =>
    (have hbne := bne_no hplB
     with_reducible refine ite_no ?hc9 ?_
     case hc9 => with_reducible exact hbne)
  k_with "call builtin:pow" =>
    (refine call_pow3 (pow_ok hbS0 hbS1) (by decide) ?_)
  k_with "SeqLeaf" =>
    (refine SeqLeaf.intro ⟨?lc, ?lk⟩
     case lk => exact ⟨_, _, rfl, fun _ _ e => e⟩
     case lc => first | exact carried_true (decide_eq_true h14) | (exfalso; omega))
  w_strict (
    lgec_go0
    with_reducible rename Based _ _ _ _ _ => gB
    with_reducible rename Top _ _ _ _ _ _ => hT
    with_reducible rename Frag.In _ _ => hKX
    with_reducible rename Glob _ _ _ _ _ _ _ _ => hGL
    with_reducible rename BMod _ _ _ _ _ => hM
    rename Heap.IsList _ _ _ => hLs
    rename IntsAre _ _ => hIs
    rename List Int => wns
    rename ¬ _ < _ => hLn
    have hS : ScriptIs _ _ _ _ := ⟨hLs, hIs, by omega⟩
    (all_goals try k_fold)
    (repeat' (first | k_extra "END" | (k_unfold; (try dsimp only)) | (lge_end; wrow_closeG) | walk1 | (dsimp only; walk1) | (leave1; try dsimp only) | wrow_closeG)))
end Mine
theorem PySem.Challenge.cw_yi0058_01_holds : PySem.Challenge.rw_yi0058_01.Holds :=
  Mine.law
