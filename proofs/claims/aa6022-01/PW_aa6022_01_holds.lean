import PyProof.Rows.All
import Wide.All
import OpenK.AllK
import Wide.FinOn
import PySem.Challenge.RW_aa6022_01

-- HD
open PySem PySem.W PyProof.Rows
set_option Elab.async false
set_option maxRecDepth 100000
set_option maxHeartbeats 8000000
namespace Mine
local macro_rules | `(tactic| walk_at "no such key") => `(tactic| skip)
open_top hd for PySem.Challenge.rw_aa6022_01
end Mine

-- Rd
open PySem PySem.W PyProof.Rows PySem.Calls
set_option Elab.async false
set_option maxRecDepth 100000
set_option maxHeartbeats 4000000
namespace Mine
theorem fresh_Rd : True := by
  w_top off
  trivial
abbrev pDict (w : World) (l : Addr) (n : Int) (ta tb tc : Tok) : Obj :=
  dictOf [⟨PyData.keyHash w.params (Str.ofString "octets"), .str (Str.ofString "octets") ta, .ref l⟩, ⟨PyData.keyHash w.params (Str.ofString "place"), .str (Str.ofString "place") tb, .int n tc⟩] 2

local macro_rules | `(tactic| k_room) => `(tactic| ((try simp only [depth_under_make, depth_under_kw, depth_in1, depth_deeper, depth_caller]); omega))
local macro_rules | `(tactic| k_all) => `(tactic| assumption)

def Shut (p : Prop) : Prop := p
theorem Shut.mk {p : Prop} (h : p) : Shut p := h
theorem Shut.out {p : Prop} (h : Shut p) : p := h
theorem News.sub {h₀ h : Heap} {L : Addr} {a b : List (Addr × Obj)} (N : News h₀ L h a) (s : ∀ p ∈ b, p ∈ a) : News h₀ L h b := fun p hp => N p (s p hp)
theorem News.apart {h₀ h : Heap} {L : Addr} {a : List (Addr × Obj)} {p q : Addr × Obj} (N : News h₀ L h a) (hp : p ∈ a) (hq : q ∈ a) (ne : p.2 ≠ q.2) : p.1 ≠ q.1 := fun e => ne (by
  have h1 := (N p hp).1
  have h2 := (N q hq).1
  rw [e, h2] at h1
  exact (Option.some.inj h1).symm)

theorem allLt_all {d : Addr} {l : List (Addr × Obj)} (h : AllLt d l) : ∀ p ∈ l, p.1 < d := by
  induction l with
  | nil => intro p hp; cases hp
  | cons q r ih =>
    intro p hp
    rcases List.mem_cons.mp hp with e | hp
    · rw [e]; exact h.1
    · exact ih h.2 p hp
theorem take_run (octs : List Int) (n size : Int) (hn : 0 ≤ n) (hs : 0 ≤ size) : (octs.drop n.toNat).take (min (n + size).toNat octs.length - n.toNat) = (octs.drop n.toNat).take size.toNat := by
  rw [List.take_eq_take_iff, List.length_drop]
  omega

theorem read_core {w : World} {A₀ : Around} {d u : Nat} {gs : Option (List Code)} {base h₀ : Heap} {env : Env} {outer : List Env} {L : Addr} {m mg mb : Str → Option Value} {rest : List (Addr × Obj)} {s : Shared} {loose : List Str} {mean : ExcName → Option Value} {E : Value → Shared → Prop} {Q : Value → Shared → Prop} {x dx l : Addr} {ws : List Value} {octs : List Int} {v : Nat} {n size : Int} {ta tb tc ts : Tok}
    (B : Below A₀ base outer h₀) (F : Fr h₀ L s.heap m) (X : (hd.heap_39 w.params).In h₀) (N : News h₀ L s.heap ((x, instObj 80 dx) :: (dx, pDict w l n ta tb tc) :: (l, listOf ws.toArray v) :: rest)) (T : Top hd.view_39 loose mean mg mb h₀)
    (hf : env.frame = some L) (hke : env.scope.kind = .function) (hd : d + 20 < recursionLimit) (hu : u + 100 < cLine)
    (hxd : x ≠ dx) (hld : l ≠ dx) (hoff : ∀ p ∈ rest, p.1 ≠ dx)
    (hI : IntsAre ws octs) (hn : 0 ≤ n) (hs : 0 ≤ size) (hlen : octs.length ≤ 1000)
    (h : ∀ D h' tk ws' tc', Fr h₀ L h' m → News h₀ L h' ((D, listOf ws'.toArray 0) :: (x, instObj 80 dx) :: (dx, pDict w l (n + ((octs.drop n.toNat).take size.toNat).length) ta tb tc') :: (l, listOf ws.toArray v) :: rest) →
      x < D → dx < D → l < D → (∀ p ∈ rest, p.1 < D) →
      IntsAre ws' ((octs.drop n.toNat).take size.toNat) → Q (.ref D) { s with heap := h', toks := tk }) :
    wpAny (model PySem.Challenge.rw_aa6022_01.row.prog w) ⟨none, d, some (env :: outer), gs, u⟩ (call (.ref 63) [.ref x, .int size ts]) Q E s := by
  revert X; k_fill; intro X
  replace h := Shut.mk h
  refine wpAny_call ?_
  refine' code_def B F X N T rfl hf hke ?k6 ?k7 ?k8 ?k9 ?kB ?_ ?c2 ?c3 ?c4 ?c5
  case k6 => k_is
  case k7 => k_is
  case k8 => k_room
  case k9 => first | exact BindsTo.of_eq rfl | exact binds_K (by k_in) rfl (by k_is) rfl rfl rfl
  case kB => exact locs rfl
  case c2 => exact rfl
  case c3 => exact rfl
  case c4 => exact rfl
  case c5 => decide
  intro g' L' h' FG' F' N' B' X' T'
  (try dsimp only); (try k_lift B'); (try k_fold)
  k_steps
  (with_reducible rename IntsAre _ (List.take (min _ _ - _) _) => hI1)
  (with_reducible rename _ ∧ _ ∧ _ ∧ AllLt _ _ => l1)
  (with_reducible rename News h₀ L _ _ => N2)
  (with_reducible rename Fr h₀ L _ _ => F2)
  rw [take_run octs n size hn hs] at hI1 N2
  replace h := h.out
  refine' h _ _ _ _ _ ?F ?N l1.1 l1.2.1 l1.2.2.1 (allLt_all l1.2.2.2) ?I
  case F => exact F2
  case N => exact N2
  case I => exact hI1
end Mine

-- Rb
open PySem PySem.W PyProof.Rows PySem.Calls
set_option Elab.async false
set_option maxRecDepth 100000
set_option maxHeartbeats 4000000
namespace Mine
theorem fresh_Rb : True := by
  w_top off
  trivial
local macro_rules | `(tactic| walk_at "no such key") => `(tactic| skip)
local macro_rules | `(tactic| k_room) => `(tactic| ((try simp only [depth_under_make, depth_under_kw, depth_in1, depth_deeper, depth_caller]); omega))
local macro_rules | `(tactic| k_all) => `(tactic| assumption)

theorem dicts_push {env : Env} {outer : List Env} {g h₀ : Heap} {L : Addr} {m : Str → Option Value} (hf : env.frame = some L) (D : KtsDicts (outer.filterMap (·.frame)) h₀) (FG : Fr h₀ L g m) :
    KtsDicts ((env :: outer).filterMap (·.frame)) g := fun b hb => by
  obtain ⟨o, es, ep, ho, hd, _⟩ := FG.ns
  obtain ⟨e1, he, hb1⟩ := List.mem_filterMap.mp hb
  rcases List.mem_cons.mp he with rfl | he
  · rw [hf] at hb1
    obtain rfl := Option.some.inj hb1
    exact ⟨o, es, ep, ho, hd⟩
  · obtain ⟨o', es', n', h1, h2⟩ := D b (List.mem_filterMap.mpr ⟨e1, he, hb1⟩)
    exact ⟨o', es', n', FG.keep _ _ h1, h2⟩

theorem raisedS_sub {base G : Heap} {l : List Env} {e t : Addr} {cls : Value} {vs : List Value} {a b : List (Addr × Obj)} {h : Heap} (R : RaisedS base G l e cls t vs a h) (s : ∀ p ∈ b, p ∈ a) : RaisedS base G l e cls t vs b h := by
  obtain ⟨⟨B, h1, h2, h3, h4⟩, h5⟩ := R
  exact ⟨⟨B, h1, h2, fun q hq => h3 q (s q hq), h4⟩, h5⟩

theorem read_byte_core {w : World} {A₀ : Around} {d u : Nat} {gs : Option (List Code)} {base h₀ : Heap} {env : Env} {outer : List Env} {L : Addr} {m mg mb : Str → Option Value} {rest : List (Addr × Obj)} {s : Shared} {loose : List Str} {mean : ExcName → Option Value} {E : Value → Shared → Prop} {Q : Value → Shared → Prop} {x dx l : Addr} {ws : List Value} {octs : List Int} {v : Nat} {n : Int} {ta tb tc : Tok}
    (B : Below A₀ base outer h₀) (F : Fr h₀ L s.heap m) (X : (hd.heap_39 w.params).In h₀) (N : News h₀ L s.heap ((x, instObj 80 dx) :: (dx, pDict w l n ta tb tc) :: (l, listOf ws.toArray v) :: rest)) (T : Top hd.view_39 loose mean mg mb h₀)
    (D : KtsDicts (outer.filterMap (·.frame)) h₀)
    (hf : env.frame = some L) (hke : env.scope.kind = .function) (hd : d + 20 < recursionLimit) (hu : u + 100 < cLine)
    (hxd : x ≠ dx) (hld : l ≠ dx) (hoff : ∀ p ∈ rest, p.1 ≠ dx)
    (hI : IntsAre ws octs) (hn : 0 ≤ n) (hlen : octs.length ≤ 1000)
    (hQ : ∀ b r h' tk tb' tc', octs.drop n.toNat = b :: r → Fr h₀ L h' m → News h₀ L h' ((x, instObj 80 dx) :: (dx, pDict w l (n + 1) ta tb tc') :: (l, listOf ws.toArray v) :: rest) →
      Q (.int b tb') { s with heap := h', toks := tk })
    (hE : ∀ g h' e t tk tc', octs.drop n.toNat = [] → Fr h₀ L g m → RaisedS base g (env :: outer) e (.ref 24) t [] ((x, instObj 80 dx) :: (dx, pDict w l n ta tb tc') :: (l, listOf ws.toArray v) :: rest) h' → g.UpToSlots h' →
      E (.ref e) { s with heap := h', toks := tk }) :
    wpAny (model PySem.Challenge.rw_aa6022_01.row.prog w) ⟨none, d, some (env :: outer), gs, u⟩ (call (.ref 98) [.ref x]) Q E s := by
  revert X; k_fill; intro X
  replace hQ := Shut.mk hQ
  replace hE := Shut.mk hE
  refine wpAny_call ?_
  refine' code_def B F X N T rfl hf hke ?k6 ?k7 ?k8 ?k9 ?kB ?_ ?c2 ?c3 ?c4 ?c5
  case k6 => k_is
  case k7 => k_is
  case k8 => k_room
  case k9 => first | exact BindsTo.of_eq rfl | exact binds_K (by k_in) rfl (by k_is) rfl rfl rfl
  case kB => exact locs rfl
  case c2 => exact rfl
  case c3 => exact rfl
  case c4 => exact rfl
  case c5 => decide
  intro g' L' h' FG' F' N' B' X' T'
  have D' := dicts_push (env := env) hf D FG'
  (try dsimp only); (try k_lift B'); (try k_fold)
  k_steps
  · (with_reducible rename RaisedS _ _ _ _ _ _ _ _ _ => R)
    (with_reducible rename Heap.UpToSlots _ _ => U)
    (with_reducible rename decide _ = true => he)
    rw [take_run octs n 1 hn (by decide)] at he R
    have he := of_decide_eq_true he
    rw [he] at R
    have he2 : octs.drop n.toNat = [] := by
      cases q : octs.drop n.toNat with
      | nil => rfl
      | cons a b => rw [q] at he; simp at he
    simp only [List.length_nil, Int.natCast_zero, Int.add_zero] at R
    exact hE.out _ _ _ _ _ _ he2 FG' (raisedS_sub R (fun p hp => .tail _ (.tail _ hp))) U
  · (with_reducible rename News h₀ L _ _ => N2)
    (with_reducible rename Fr h₀ L _ _ => F2)
    (with_reducible rename decide _ = false => he)
    rw [take_run octs n 1 hn (by decide)] at he N2 ⊢
    have he := of_decide_eq_false he
    cases q : octs.drop n.toNat with
    | nil => rw [q] at he; simp at he
    | cons b r =>
      rw [q] at N2
      exact hQ.out b r _ _ _ _ q F2 (News.sub N2 (fun p hp => .tail _ (.tail _ hp)))
end Mine

-- Pu
open PySem PySem.W PyProof.Rows PySem.Calls
set_option Elab.async false
set_option maxRecDepth 100000
set_option maxHeartbeats 1000000
namespace Mine
theorem fresh_Pu : True := by
  w_top off
  trivial
theorem and_low (a y k : Nat) (h : y < 2 ^ k) : (a * 2 ^ k) &&& y = 0 := by
  apply Nat.eq_of_testBit_eq
  intro i
  rw [Nat.testBit_and, Nat.zero_testBit, Nat.mul_comm, Nat.testBit_two_pow_mul]
  by_cases hi : i ≥ k
  · rw [Nat.testBit_lt_two_pow (Nat.lt_of_lt_of_le h (Nat.pow_le_pow_right (by decide) hi)), Bool.and_false]
  · simp [hi]
theorem or_low (a y : Int) (k : Nat) (ha : 0 ≤ a) (h0 : 0 ≤ y) (h1 : y < 2 ^ k) : Builtin.bitOr (a * 2 ^ k) y = a * 2 ^ k + y := by
  obtain ⟨a, rfl⟩ := Int.eq_ofNat_of_zero_le ha
  obtain ⟨y, rfl⟩ := Int.eq_ofNat_of_zero_le h0
  have e : ((a : Int) * 2 ^ k) = ((a * 2 ^ k : Nat) : Int) := by simp
  have h1' : y < 2 ^ k := by exact_mod_cast h1
  have z : Builtin.bitAnd ((a : Int) * 2 ^ k) (y : Int) = 0 := by
    rw [e]
    unfold Builtin.bitAnd
    simp only [Int.natCast_nonneg, decide_true, Int.toNat_natCast]
    rw [and_low a y k h1']
    rfl
  rw [bitOr_and, z]
  omega

def wordOf (r : List Int) : Int := ((r.getD 4 0 * 256 + r.getD 5 0) * 256 + r.getD 6 0) * 256 + r.getD 7 0
theorem or_word {a b c d : Int} (ha : 0 ≤ a ∧ a < 256) (hb : 0 ≤ b ∧ b < 256) (hc : 0 ≤ c ∧ c < 256) (hd : 0 ≤ d ∧ d < 256) :
    Builtin.bitOr (Builtin.bitOr (Builtin.bitOr (a * 2 ^ Int.toNat 24) (b * 2 ^ Int.toNat 16)) (c * 2 ^ Int.toNat 8)) d = ((a * 256 + b) * 256 + c) * 256 + d := by
  have e1 : Builtin.bitOr (a * 2 ^ Int.toNat 24) (b * 2 ^ Int.toNat 16) = (a * 256 + b) * 2 ^ 16 := by
    rw [show Int.toNat 24 = 24 from rfl, show Int.toNat 16 = 16 from rfl, or_low a _ 24 ha.1 (by omega) (by omega)]
    omega
  have e2 : Builtin.bitOr ((a * 256 + b) * 2 ^ 16) (c * 2 ^ Int.toNat 8) = ((a * 256 + b) * 256 + c) * 2 ^ 8 := by
    rw [show Int.toNat 8 = 8 from rfl, or_low _ _ 16 (by omega) (by omega) (by omega)]
    omega
  rw [e1, e2, or_low _ _ 8 (by omega) (by omega) (by omega)]
  omega
def shortOf (a b : Int) : Int := (a * 256 + b + 32768).fmod 65536 - 32768
theorem or_short {a b : Int} (ha : 0 ≤ a ∧ a < 256) (hb : 0 ≤ b ∧ b < 256) : Builtin.bitOr (a * 2 ^ Int.toNat 8) b = a * 256 + b := by
  rw [show Int.toNat 8 = 8 from rfl, or_low a _ 8 ha.1 (by omega) (by omega)]
  omega
theorem short_hi {a b : Int} (ha : 0 ≤ a ∧ a < 256) (hb : 0 ≤ b ∧ b < 256) (h : 32768 ≤ a * 256 + b) : a * 256 + b - 65536 = shortOf a b := by
  unfold shortOf
  rw [Int.fmod_eq_emod_of_nonneg _ (by decide)]
  omega
theorem short_lo {a b : Int} (ha : 0 ≤ a ∧ a < 256) (hb : 0 ≤ b ∧ b < 256) (h : ¬ 32768 ≤ a * 256 + b) : a * 256 + b = shortOf a b := by
  unfold shortOf
  rw [Int.fmod_eq_emod_of_nonneg _ (by decide)]
  omega

theorem News.drop1 {h₀ h : Heap} {L : Addr} {a : Addr × Obj} {r : List (Addr × Obj)} (N : News h₀ L h (a :: r)) : News h₀ L h r := News.sub N fun _ hp => .tail _ hp
theorem News.drop2 {h₀ h : Heap} {L : Addr} {a b : Addr × Obj} {r : List (Addr × Obj)} (N : News h₀ L h (a :: b :: r)) : News h₀ L h (a :: r) := News.sub N fun p hp => by
  rcases List.mem_cons.mp hp with rfl | hp
  · exact .head _
  · exact .tail _ (.tail _ hp)
theorem News.drop3 {h₀ h : Heap} {L : Addr} {a b c : Addr × Obj} {r : List (Addr × Obj)} (N : News h₀ L h (a :: b :: c :: r)) : News h₀ L h (a :: b :: r) := News.sub N fun p hp => by
  rcases List.mem_cons.mp hp with rfl | hp
  · exact .head _
  · rcases List.mem_cons.mp hp with rfl | hp
    · exact .tail _ (.head _)
    · exact .tail _ (.tail _ (.tail _ hp))
theorem ledger_split {x dx l : Addr} {ox od ol : Obj} {news : List (Addr × Obj)} {f : Obj → List (Addr × Obj)} (hx : (x, ox) ∈ news) (hl : (l, ol) ∈ news) (U : UpdF dx od news f) :
    ∃ rest, (∀ p ∈ rest, p.1 ≠ dx) ∧ (∀ p ∈ (x, ox) :: (dx, od) :: (l, ol) :: rest, p ∈ news) ∧ ∀ o', ∀ p ∈ f o', p ∈ (x, ox) :: (dx, o') :: (l, ol) :: rest := by
  obtain ⟨pre, post, rfl, hf, a, b⟩ := U.split
  refine ⟨pre ++ post, fun p hp => (List.mem_append.mp hp).elim (a p) (b p), fun p hp => ?_, fun o' p hp => ?_⟩
  · rcases List.mem_cons.mp hp with rfl | hp
    · exact hx
    · rcases List.mem_cons.mp hp with rfl | hp
      · simp
      · rcases List.mem_cons.mp hp with rfl | hp
        · exact hl
        · rcases List.mem_append.mp hp with h | h
          · exact List.mem_append_left _ h
          · exact List.mem_append_right _ (.tail _ h)
  · rw [hf] at hp
    rcases List.mem_append.mp hp with h | h
    · exact .tail _ (.tail _ (.tail _ (List.mem_append_left _ h)))
    · rcases List.mem_cons.mp h with rfl | h
      · exact .tail _ (.head _)
      · exact .tail _ (.tail _ (.tail _ (List.mem_append_right _ h)))
theorem paper_apart {h₀ h : Heap} {L : Addr} {w : World} {x dx l : Addr} {n : Int} {ta tb tc : Tok} {ws : List Value} {v : Nat} {news : List (Addr × Obj)} (N : News h₀ L h ((x, instObj 80 dx) :: (dx, pDict w l n ta tb tc) :: (l, listOf ws.toArray v) :: news)) : x ≠ dx ∧ l ≠ dx :=
  ⟨News.apart N (p := (x, instObj 80 dx)) (q := (dx, pDict w l n ta tb tc)) (.head _) (.tail _ (.head _)) (by intro e; cases e), News.apart N (p := (l, listOf ws.toArray v)) (q := (dx, pDict w l n ta tb tc)) (.tail _ (.tail _ (.head _))) (.tail _ (.head _)) (by intro e; cases (congrArg Obj.data e))⟩
end Mine

-- Ch
open PySem PySem.W PyProof.Rows PySem.Calls
set_option Elab.async false
set_option maxRecDepth 100000
set_option maxHeartbeats 4000000
namespace Mine
theorem fresh_Ch : True := by
  w_top off
  trivial
local macro_rules | `(tactic| walk_at "no such key") => `(tactic| skip)
local macro_rules | `(tactic| k_room) => `(tactic| ((try simp only [depth_under_make, depth_under_kw, depth_in1, depth_deeper, depth_caller]); omega))
local macro_rules | `(tactic| k_all) => `(tactic| assumption)
theorem byte_at {octs : List Int} (hb : ∀ b ∈ octs, 0 ≤ b ∧ b < 256) (n k i : Nat) : 0 ≤ ((octs.drop n).take k).getD i 0 ∧ ((octs.drop n).take k).getD i 0 < 256 := by
  rw [List.getD_eq_getElem?_getD]
  cases q : ((octs.drop n).take k)[i]? with
  | none => simp
  | some b => exact hb b (List.mem_of_mem_drop (List.mem_of_mem_take (List.mem_of_getElem? q)))
theorem byte_abs {octs : List Int} {n k i : Nat} (hb : ∀ b ∈ octs, 0 ≤ b ∧ b < 256) : (((octs.drop n).take k).getD i 0).natAbs < 2 ^ 64 := by
  have := byte_at hb n k i
  omega
local macro_rules | `(tactic| walk_at "binaryOp LShift int int") => `(tactic| ((with_reducible refine lshift_int_small ?a ?b ?c ?_); (case a => decide); (case b => decide); (case c => exact byte_abs (by assumption))))
theorem chunk_core {w : World} {A₀ : Around} {d u : Nat} {gs : Option (List Code)} {base h₀ : Heap} {env : Env} {outer : List Env} {L : Addr} {m mg mb : Str → Option Value} {s : Shared} {loose : List Str} {mean : ExcName → Option Value} {E : Value → Shared → Prop} {Q : Value → Shared → Prop} {rest : List (Addr × Obj)} {x dx l : Addr} {ws : List Value} {octs : List Int} {v : Nat} {n : Int} {ta tb tc : Tok}
    (B : Below A₀ base outer h₀) (F : Fr h₀ L s.heap m) (X : (hd.heap_39 w.params).In h₀) (N : News h₀ L s.heap ((x, instObj 80 dx) :: (dx, pDict w l n ta tb tc) :: (l, listOf ws.toArray v) :: rest)) (T : Top hd.view_39 loose mean mg mb h₀)
    (D : KtsDicts (outer.filterMap (·.frame)) h₀)
    (hf : env.frame = some L) (hke : env.scope.kind = .function) (hd : d + 20 < recursionLimit) (hu : u + 100 < cLine)
    (hxd : x ≠ dx) (hld : l ≠ dx) (hoff : ∀ p ∈ rest, p.1 ≠ dx)
    (hI : IntsAre ws octs) (hn : 0 ≤ n) (hlen : octs.length ≤ 1000)
    (hb : ∀ b ∈ octs, 0 ≤ b ∧ b < 256)
    (hQ : ∀ P NM h' tk tc' tw wn, 8 ≤ (octs.drop n.toNat).length → Fr h₀ L h' m → News h₀ L h' ((P, { cls := .type "tuple", data := .seq #[.ref NM, .int (wordOf (octs.drop n.toNat)) tw] }) :: (NM, listOf wn.toArray 0) :: (x, instObj 80 dx) :: (dx, pDict w l (n + 8) ta tb tc') :: (l, listOf ws.toArray v) :: rest) →
      (∀ p ∈ ((x, instObj 80 dx) :: (dx, pDict w l n ta tb tc) :: (l, listOf ws.toArray v) :: rest), p.1 < NM) → NM < P → IntsAre wn ((octs.drop n.toNat).take 4) → Q (.ref P) { s with heap := h', toks := tk })
    (hE : ∀ g h' e t tk tc', (octs.drop n.toNat).length < 8 → Fr h₀ L g m → RaisedS base g (env :: outer) e (.ref 24) t [] ((x, instObj 80 dx) :: (dx, pDict w l (n + (octs.drop n.toNat).length) ta tb tc') :: (l, listOf ws.toArray v) :: rest) h' → g.UpToSlots h' →
      E (.ref e) { s with heap := h', toks := tk }) :
    wpAny (model PySem.Challenge.rw_aa6022_01.row.prog w) ⟨none, d, some (env :: outer), gs, u⟩ (call (.ref 110) [.ref x]) Q E s := by
  revert X; k_fill; intro X
  replace hQ := Shut.mk hQ
  replace hE := Shut.mk hE
  refine wpAny_call ?_
  refine' code_def B F X N T rfl hf hke ?k6 ?k7 ?k8 ?k9 ?kB ?_ ?c2 ?c3 ?c4 ?c5
  case k6 => k_is
  case k7 => k_is
  case k8 => k_room
  case k9 => first | exact BindsTo.of_eq rfl | exact binds_K (by k_in) rfl (by k_is) rfl rfl rfl
  case kB => exact locs rfl
  case c2 => exact rfl
  case c3 => exact rfl
  case c4 => exact rfl
  case c5 => decide
  intro g' L' h' FG' F' N' B' X' T'
  have D' := dicts_push (env := env) hf D FG'
  (try dsimp only); (try k_lift B'); (try k_fold)
  k_steps
  · (with_reducible rename RaisedS _ _ _ _ _ _ _ _ _ => R)
    (with_reducible rename Heap.UpToSlots _ _ => U)
    (with_reducible rename (_ : Int) < 8 => he)
    rw [take_run octs n 8 hn (by decide)] at he R
    have he2 : (octs.drop n.toNat).length < 8 := by
      rw [List.length_take] at he; omega
    rw [List.take_of_length_le (show (octs.drop n.toNat).length ≤ Int.toNat 8 by omega)] at R
    exact hE.out _ _ _ _ _ _ he2 FG' (raisedS_sub R (fun p hp => .tail _ hp)) U
  · (with_reducible rename News h₀ L _ _ => N2)
    (with_reducible rename Fr h₀ L _ _ => F2)
    (with_reducible rename ¬ (_ : Int) < 8 => he)
    (with_reducible rename IntsAre _ (List.take 4 _) => hI4)
    (with_reducible rename _ ∧ _ ∧ _ ∧ _ ∧ AllLt _ _ => l4)
    (with_reducible rename _ ∧ _ ∧ _ ∧ _ ∧ _ ∧ AllLt _ _ => l5)
    rw [take_run octs n 8 hn (by decide)] at he N2 hI4
    have he2 : 8 ≤ (octs.drop n.toNat).length := by
      rw [List.length_take] at he; omega
    have hw : ∀ i, i < 8 → ((octs.drop n.toNat).take (Int.toNat 8)).getD i 0 = (octs.drop n.toNat).getD i 0 := fun i hi => by
      simp only [List.getD_eq_getElem?_getD, List.getElem?_take, show i < Int.toNat 8 from hi, if_true]
    rw [or_word (byte_at hb _ _ _) (byte_at hb _ _ _) (byte_at hb _ _ _) (byte_at hb _ _ _), show Int.toNat 4 = 4 from rfl, show Int.toNat 5 = 5 from rfl, show Int.toNat 6 = 6 from rfl, show Int.toNat 7 = 7 from rfl, hw 4 (by decide), hw 5 (by decide), hw 6 (by decide), hw 7 (by decide),
      show ((octs.drop n.toNat).take (Int.toNat 8)).length = 8 by rw [List.length_take]; omega] at N2
    rw [List.take_take] at hI4
    refine hQ.out _ _ _ _ _ _ _ he2 F2 (News.drop3 N2) (fun p hp => ?_) l5.1 hI4
    exact allLt_all (l := (x, instObj 80 dx) :: (dx, pDict w l n ta tb tc) :: (l, listOf ws.toArray v) :: rest) ⟨l4.2.1, l4.2.2.1, l4.2.2.2.1, l4.2.2.2.2⟩ p hp
end Mine

-- Sh
open PySem PySem.W PyProof.Rows PySem.Calls
set_option Elab.async false
set_option maxRecDepth 100000
set_option maxHeartbeats 4000000
namespace Mine
theorem fresh_Sh : True := by
  w_top off
  trivial
local macro_rules | `(tactic| k_room) => `(tactic| ((try simp only [depth_under_make, depth_under_kw, depth_in1, depth_deeper, depth_caller]); omega))
local macro_rules | `(tactic| k_all) => `(tactic| assumption)
theorem short_core {w : World} {A₀ : Around} {d u : Nat} {gs : Option (List Code)} {base h₀ : Heap} {env : Env} {outer : List Env} {L : Addr} {m mg mb : Str → Option Value} {s : Shared} {loose : List Str} {mean : ExcName → Option Value} {E : Value → Shared → Prop} {Q : Value → Shared → Prop} {rest : List (Addr × Obj)} {a b : Int} {t1 t2 : Tok}
    (B : Below A₀ base outer h₀) (F : Fr h₀ L s.heap m) (X : (hd.heap_39 w.params).In h₀) (N : News h₀ L s.heap (rest)) (T : Top hd.view_39 loose mean mg mb h₀)
    (hf : env.frame = some L) (hke : env.scope.kind = .function) (hd : d + 20 < recursionLimit) (hu : u + 100 < cLine)
    (ha : 0 ≤ a ∧ a < 256) (hb : 0 ≤ b ∧ b < 256)
    (hQ : ∀ h' tk t, Fr h₀ L h' m → News h₀ L h' rest → Q (.int (shortOf a b) t) { s with heap := h', toks := tk }) :
    wpAny (model PySem.Challenge.rw_aa6022_01.row.prog w) ⟨none, d, some (env :: outer), gs, u⟩ (call (.ref 91) [.int a t1, .int b t2]) Q E s := by
  revert X; k_fill; intro X
  replace hQ := Shut.mk hQ
  refine wpAny_call ?_
  refine' code_def B F X N T rfl hf hke ?k6 ?k7 ?k8 ?k9 ?kB ?_ ?c2 ?c3 ?c4 ?c5
  case k6 => k_is
  case k7 => k_is
  case k8 => k_room
  case k9 => first | exact BindsTo.of_eq rfl | exact binds_K (by k_in) rfl (by k_is) rfl rfl rfl
  case kB => exact locs rfl
  case c2 => exact rfl
  case c3 => exact rfl
  case c4 => exact rfl
  case c5 => decide
  intro g' L' h' FG' F' N' B' X' T'
  (try dsimp only); (try k_lift B'); (try k_fold)
  k_steps
  · (with_reducible rename News h₀ L _ _ => N2)
    (with_reducible rename Fr h₀ L _ _ => F2)
    (with_reducible rename 32768 ≤ Builtin.bitOr _ _ => he)
    rw [or_short ha hb] at he ⊢
    rw [short_hi ha hb he]
    exact hQ.out _ _ _ F2 N2
  · (with_reducible rename News h₀ L _ _ => N2)
    (with_reducible rename Fr h₀ L _ _ => F2)
    (with_reducible rename ¬ 32768 ≤ Builtin.bitOr _ _ => he)
    rw [or_short ha hb] at he ⊢
    rw [short_lo ha hb he]
    exact hQ.out _ _ _ F2 N2
theorem lshort_core {w : World} {A₀ : Around} {d u : Nat} {gs : Option (List Code)} {base h₀ : Heap} {env : Env} {outer : List Env} {L : Addr} {m mg mb : Str → Option Value} {s : Shared} {loose : List Str} {mean : ExcName → Option Value} {E : Value → Shared → Prop} {Q : Value → Shared → Prop} {rest : List (Addr × Obj)} {a b : Int} {t1 t2 : Tok}
    (B : Below A₀ base outer h₀) (F : Fr h₀ L s.heap m) (X : (hd.heap_39 w.params).In h₀) (N : News h₀ L s.heap (rest)) (T : Top hd.view_39 loose mean mg mb h₀)
    (hf : env.frame = some L) (hke : env.scope.kind = .function) (hd : d + 20 < recursionLimit) (hu : u + 100 < cLine)
    (ha : 0 ≤ a ∧ a < 256) (hb : 0 ≤ b ∧ b < 256)
    (hQ : ∀ h' tk t, Fr h₀ L h' m → News h₀ L h' rest → Q (.int (shortOf a b) t) { s with heap := h', toks := tk }) :
    wpAny (model PySem.Challenge.rw_aa6022_01.row.prog w) ⟨none, d, some (env :: outer), gs, u⟩ (call (.ref 153) [.int a t1, .int b t2]) Q E s := by
  revert X; k_fill; intro X
  replace hQ := Shut.mk hQ
  refine wpAny_call ?_
  refine' code_def B F X N T rfl hf hke ?k6 ?k7 ?k8 ?k9 ?kB ?_ ?c2 ?c3 ?c4 ?c5
  case k6 => k_is
  case k7 => k_is
  case k8 => k_room
  case k9 => first | exact BindsTo.of_eq rfl | exact binds_K (by k_in) rfl (by k_is) rfl rfl rfl
  case kB => exact locs rfl
  case c2 => exact rfl
  case c3 => exact rfl
  case c4 => exact rfl
  case c5 => decide
  intro g' L' h' FG' F' N' B' X' T'
  (try dsimp only); (try k_lift B'); (try k_fold)
  k_steps
  (with_reducible rename News h₀ L _ _ => N2)
  (with_reducible rename Fr h₀ L _ _ => F2)
  exact hQ.out _ _ _ F2 N2
end Mine

-- Sp
open PySem PySem.W PyProof.Rows PySem.Calls
set_option Elab.async false
set_option maxRecDepth 100000
set_option maxHeartbeats 4000000
namespace Mine
theorem fresh_Sp : True := by
  w_top off
  trivial
local macro_rules | `(tactic| walk_at "no such key") => `(tactic| skip)
local macro_rules | `(tactic| k_room) => `(tactic| ((try simp only [depth_under_make, depth_under_kw, depth_in1, depth_deeper, depth_caller]); omega))
local macro_rules | `(tactic| k_all) => `(tactic| assumption)
theorem drop_byte {octs : List Int} (hb : ∀ b ∈ octs, 0 ≤ b ∧ b < 256) (k i : Nat) : 0 ≤ (octs.drop k).getD i 0 ∧ (octs.drop k).getD i 0 < 256 := by
  rw [List.getD_eq_getElem?_getD]
  cases q : (octs.drop k)[i]? with
  | none => simp
  | some b => exact hb b (List.mem_of_mem_drop (List.mem_of_getElem? q))
theorem word_range {octs : List Int} (hb : ∀ b ∈ octs, 0 ≤ b ∧ b < 256) (k : Nat) : 0 ≤ wordOf (octs.drop k) ∧ wordOf (octs.drop k) < 4294967296 := by
  unfold wordOf
  have h4 := drop_byte hb k 4
  have h5 := drop_byte hb k 5
  have h6 := drop_byte hb k 6
  have h7 := drop_byte hb k 7
  omega
theorem read_byte_spec {w : World} {A₀ : Around} {d u : Nat} {gs : Option (List Code)} {base h₀ : Heap} {env : Env} {outer : List Env} {L : Addr} {m mg mb : Str → Option Value} {s : Shared} {loose : List Str} {mean : ExcName → Option Value} {E : Value → Shared → Prop} {Q : Value → Shared → Prop} {news : List (Addr × Obj)} {f : Obj → List (Addr × Obj)} {x dx l : Addr} {ws : List Value} {octs : List Int} {v : Nat} {n : Int} {ta tb tc : Tok}
    (B : Below A₀ base outer h₀) (F : Fr h₀ L s.heap m) (X : (hd.heap_39 w.params).In h₀) (N : News h₀ L s.heap (news)) (T : Top hd.view_39 loose mean mg mb h₀)
    (D : KtsDicts (outer.filterMap (·.frame)) h₀)
    (hf : env.frame = some L) (hke : env.scope.kind = .function) (hd : d + 20 < recursionLimit) (hu : u + 100 < cLine)
    (hx : (x, instObj 80 dx) ∈ news) (hl : (l, listOf ws.toArray v) ∈ news) (U : UpdF dx (pDict w l n ta tb tc) news f)
    (hI : IntsAre ws octs) (hn : 0 ≤ n) (hlen : octs.length ≤ 1000)
    (hQ : ∀ b r h' tk tb' tc', octs.drop n.toNat = b :: r → Fr h₀ L h' m → News h₀ L h' (f (pDict w l (n + 1) ta tb tc')) →
      Q (.int b tb') { s with heap := h', toks := tk })
    (hE : ∀ g h' e t tk tc', octs.drop n.toNat = [] → Fr h₀ L g m → RaisedS base g (env :: outer) e (.ref 24) t [] (f (pDict w l n ta tb tc')) h' → g.UpToSlots h' →
      E (.ref e) { s with heap := h', toks := tk }) :
    wpAny (model PySem.Challenge.rw_aa6022_01.row.prog w) ⟨none, d, some (env :: outer), gs, u⟩ (call (.ref 98) [.ref x]) Q E s := by
  obtain ⟨rest, hoff, hin, hout⟩ := ledger_split hx hl U
  have N' := News.sub N hin
  obtain ⟨hxd, hld⟩ := paper_apart N'
  exact read_byte_core B F X N' T D hf hke hd hu hxd hld hoff hI hn hlen (fun b r h' tk tb' tc' e F' N' => hQ b r h' tk tb' tc' e F' (News.sub N' (hout _)))
    (fun g h' e t tk tc' z FG R U => hE g h' e t tk tc' z FG (raisedS_sub R (hout _)) U)
theorem chunk_spec {w : World} {A₀ : Around} {d u : Nat} {gs : Option (List Code)} {base h₀ : Heap} {env : Env} {outer : List Env} {L : Addr} {m mg mb : Str → Option Value} {s : Shared} {loose : List Str} {mean : ExcName → Option Value} {E : Value → Shared → Prop} {Q : Value → Shared → Prop} {news : List (Addr × Obj)} {f : Obj → List (Addr × Obj)} {x dx l : Addr} {ws : List Value} {octs : List Int} {v : Nat} {n : Int} {ta tb tc : Tok}
    (B : Below A₀ base outer h₀) (F : Fr h₀ L s.heap m) (X : (hd.heap_39 w.params).In h₀) (N : News h₀ L s.heap (news)) (T : Top hd.view_39 loose mean mg mb h₀)
    (D : KtsDicts (outer.filterMap (·.frame)) h₀)
    (hf : env.frame = some L) (hke : env.scope.kind = .function) (hd : d + 20 < recursionLimit) (hu : u + 100 < cLine)
    (hx : (x, instObj 80 dx) ∈ news) (hl : (l, listOf ws.toArray v) ∈ news) (U : UpdF dx (pDict w l n ta tb tc) news f)
    (hI : IntsAre ws octs) (hn : 0 ≤ n) (hlen : octs.length ≤ 1000)
    (hb : ∀ b ∈ octs, 0 ≤ b ∧ b < 256)
    (hQ : ∀ P NM h' tk tc' tw wn, 8 ≤ (octs.drop n.toNat).length → 0 ≤ wordOf (octs.drop n.toNat) ∧ wordOf (octs.drop n.toNat) < 4294967296 → Fr h₀ L h' m → News h₀ L h' ((P, { cls := .type "tuple", data := .seq #[.ref NM, .int (wordOf (octs.drop n.toNat)) tw] }) :: (NM, listOf wn.toArray 0) :: f (pDict w l (n + 8) ta tb tc')) →
      (∀ p ∈ news, p.1 < NM) → NM < P → IntsAre wn ((octs.drop n.toNat).take 4) → Q (.ref P) { s with heap := h', toks := tk })
    (hE : ∀ g h' e t tk tc', (octs.drop n.toNat).length < 8 → Fr h₀ L g m → RaisedS base g (env :: outer) e (.ref 24) t [] (f (pDict w l (n + (octs.drop n.toNat).length) ta tb tc')) h' → g.UpToSlots h' →
      E (.ref e) { s with heap := h', toks := tk }) :
    wpAny (model PySem.Challenge.rw_aa6022_01.row.prog w) ⟨none, d, some (env :: outer), gs, u⟩ (call (.ref 110) [.ref x]) Q E s := by
  obtain ⟨rest, hoff, hin, hout⟩ := ledger_split hx hl U
  have N' := News.sub N hin
  obtain ⟨hxd, hld⟩ := paper_apart N'
  have hadr : ∀ p ∈ news, ∃ q ∈ (x, instObj 80 dx) :: (dx, pDict w l n ta tb tc) :: (l, listOf ws.toArray v) :: rest, q.1 = p.1 := fun p hp => by
    by_cases e : p.1 = dx
    · exact ⟨_, .tail _ (.head _), e.symm⟩
    · obtain ⟨pre, post, rfl, hf', a, b⟩ := U.split
      have : p ∈ f (pDict w l n ta tb tc) := by rw [hf']; exact hp
      exact ⟨p, hout _ p this, rfl⟩
  exact chunk_core B F X N' T D hf hke hd hu hxd hld hoff hI hn hlen hb (fun P NM h' tk tc' tw wn e F' N' lt lt2 hw => hQ P NM h' tk tc' tw wn e (word_range hb _) F' (News.sub N' (fun p hp => by
      rcases List.mem_cons.mp hp with rfl | hp
      · exact .head _
      · rcases List.mem_cons.mp hp with rfl | hp
        · exact .tail _ (.head _)
        · exact .tail _ (.tail _ (hout _ p hp)))) (fun p hp => by obtain ⟨q, hq, e⟩ := hadr p hp; rw [← e]; exact lt q hq) lt2 hw)
    (fun g h' e t tk tc' z FG R U => hE g h' e t tk tc' z FG (raisedS_sub R (hout _)) U)
end Mine

-- Gen
open PySem PySem.W PyProof.Rows PySem.Calls
set_option Elab.async false
set_option maxRecDepth 100000
set_option maxHeartbeats 1000000
namespace Mine
theorem fresh_Gen : True := by
  w_top off
  trivial
section
variable {M : Model} {A A' : Around} {E : Value → Shared → Prop} {s' : Shared} {base g g₂ G h : Heap} {env env' : Env} {outer : List Env} {L e t : Addr} {m : Str → Option Value} {Q : Unit → Shared → Prop} {news : List (Addr × Obj)} {cls : Value} {vs : List Value}

theorem frame_cases (hf : env.frame = some L) {b : Addr} (hm : b ∈ (env :: outer).filterMap (·.frame)) : b = L ∨ b ∈ outer.filterMap (·.frame) := by
  rw [List.filterMap_cons, hf] at hm
  exact List.mem_cons.mp hm
theorem frame_self (F : Fr g L h m) : g.get? L = none := by
  cases q : g.get? L with
  | none => rfl
  | some o => exact absurd (Nat.lt_of_lt_of_le (Heap.lt_size q) F.above) (Nat.lt_irrefl _)

/-- held at this frame -/
def HeldS (base G : Heap) (l : List Env) (e : Addr) (cls : Value) (t : Addr) (vs : List Value) (news : List (Addr × Obj)) (L : Addr) (h : Heap) : Prop :=
  (∃ B, base.StaysIn B ∧ (∀ b o, G.get? b = some o → b ∉ l.filterMap (·.frame) → B.get? b = some o) ∧ (∀ q ∈ news, B.get? q.1 = some q.2 ∧ G.get? q.1 = none ∧ base.get? q.1 = none) ∧ Heap.HeldW B l e cls (.ref t) L h ∧ B.get? t = none) ∧ h.TupAt t vs

theorem note_first (hfr : A.frames = some (env :: outer)) (hf : env.frame = some L) (hf' : env'.frame = some L) (R : RaisedS base G (env :: outer) e cls t vs news s'.heap)
    (hsw : noteFrame (.ref e) env' = noteFrame (.ref e) env)
    (k : ∀ h', HeldS base G (env :: outer) e cls t vs news L h' → s'.heap.UpToSlots h' → Q () { s' with heap := h' }) : wpAny M A (noteFrame (.ref e) env') Q E s' := by
  obtain ⟨⟨B, h1, h2, h3, h4, h5⟩, h6⟩ := R
  rw [hsw]
  exact wpAny_looks_onW hfr hf h4 fun h' hh sm => k h' ⟨⟨B, h1, h2, h3, hh, h5⟩, h6.of_slots sm⟩ sm
theorem note_again (hf' : env'.frame = some L) (H : HeldS base G (env :: outer) e cls t vs news L s'.heap) (k : Q () s') : wpAny M A (noteFrame (.ref e) env') Q E s' := by
  obtain ⟨⟨B, h1, h2, h3, h4, h5⟩, h6⟩ := H
  exact wpAny_noteFrame_againW hf' h4.2.2.2 k
theorem leave_held (hf : env.frame = some L) (F : Fr g L G m) (K : Below A base outer g) (H : HeldS base G (env :: outer) e cls t vs news L s'.heap) (hsm : G.UpToSlots s'.heap)
    (k : ∀ h', RaisedS base g outer e cls t vs news h' → g.UpToSlots h' → Q () { s' with heap := h' }) : wpAny M A' (leaving env (.ref e)) Q E s' := by
  obtain ⟨⟨B, h1, h2, h3, h4, h5⟩, h6⟩ := H
  unfold leaving
  refine wpAny_bind (wpAny_noteFrame_againW hf h4.2.2.2 (wpAny_landsW h4 fun h' hfl sm => ?_))
  obtain ⟨f1, f2, ⟨_, _, f3⟩, f4⟩ := hfl
  refine k h' ⟨⟨B, h1, fun b o q nm => h2 b o (F.keep b o q) fun hm => ?_, fun q hq => ⟨(h3 q hq).1, ?_, (h3 q hq).2.2⟩, ⟨f1, f2, f3, f4⟩, h5⟩, h6.of_slots sm⟩ ((Heap.UpToSlots.of_keeps F.keep).trans (hsm.trans sm))
  · rcases frame_cases hf hm with z | z
    · rw [z, frame_self F] at q; cases q
    · exact nm z
  · exact kts_none F.keep (h3 q hq).2.1
theorem leave_raised (hfr : A'.frames = some (env :: outer)) (hf : env.frame = some L) (F : Fr g L G m) (R : RaisedS base G (env :: outer) e cls t vs news s'.heap) (hsm : G.UpToSlots s'.heap)
    (k : ∀ h', RaisedS base g outer e cls t vs news h' → g.UpToSlots h' → Q () { s' with heap := h' }) : wpAny M A' (leaving env (.ref e)) Q E s' := by
  obtain ⟨⟨B, h1, h2, h3, h4, h5⟩, h6⟩ := R
  refine wpAny_leaves_onW hfr hf h4 fun h' hfl sm => ?_
  refine k h' ⟨⟨B, h1, fun b o q nm => h2 b o (F.keep b o q) fun hm => ?_, fun q hq => ⟨(h3 q hq).1, ?_, (h3 q hq).2.2⟩, hfl, h5⟩, h6.of_slots sm⟩ ((Heap.UpToSlots.of_keeps F.keep).trans (hsm.trans sm))
  · rcases frame_cases hf hm with z | z
    · rw [z, frame_self F] at q; cases q
    · exact nm z
  · exact kts_none F.keep (h3 q hq).2.1
theorem leave_made (hfr : A'.frames = some (env :: outer)) (hf : env.frame = some L) (hk : env.scope.kind ≠ .module) (K : Below A base outer g) (hx : Heap.MadeExcOf h s'.heap e cls vs) (F : Fr g L h m) (N : News g L h news)
    (k : ∀ h' t, RaisedS base g outer e cls t vs news h' → g.UpToSlots h' → Q () { s' with heap := h' }) : wpAny M A' (leaving env (.ref e)) Q E s' := by
  have hbL : base.get? L = none := kts_none K.stays (frame_self F)
  have hFF : h.FunFrames base (env :: outer) := .cons hk hf F.ns hbL (K.frames.of_keeps fun b o q _ => ⟨o, F.keep b o q, rfl⟩)
  have ground : ∀ b o, h.get? b = some o → b ∉ (env :: outer).filterMap (·.frame) → (hideAll h ((env :: outer).filterMap (·.frame))).get? b = some o := fun b o q nm => hideAll_get _ q nm
  have offBase : ∀ b, b ∈ (env :: outer).filterMap (·.frame) → base.get? b = none := fun b hb => (hFF.mem hb).1
  have hin : ∀ e1 ∈ (env :: outer), ∀ b, e1.frame = some b → b ∈ (env :: outer).filterMap (·.frame) := fun e1 he b hb => List.mem_filterMap.mpr ⟨e1, he, hb⟩
  refine wpAny_leaves_madeW (base := hideAll h ((env :: outer).filterMap (·.frame))) hfr hf (fun b o q => of_hideAll _ q) (funFrames_hide hFF hin) hx fun h' t x1 x2 x3 x4 => ?_
  refine k h' t ⟨⟨_, fun b o q => ground b o (F.keep b o (K.stays b o q)) fun hm => ?_, fun b o q nm => ground b o (F.keep b o q) fun hm => ?_, fun q hq => ⟨ground _ _ (N q hq).1 fun hm => ?_, (N q hq).2.2, kts_none K.stays (N q hq).2.2⟩, x1, x3⟩, x2⟩
    (((Heap.UpToSlots.of_keeps F.keep).trans (Heap.UpToSlots.of_keeps hx.keeps)).trans x4)
  · rw [offBase b hm] at q; cases q
  · rcases frame_cases hf hm with z | z
    · rw [z, frame_self F] at q; cases q
    · exact nm z
  · rcases frame_cases hf hm with z | z
    · exact (N q hq).2.1 z
    · obtain ⟨o, ho, _⟩ := (K.frames.mem z).2
      rw [(N q hq).2.2] at ho; cases ho
end
end Mine

-- Ge2
open PySem PySem.W PyProof.Rows PySem.Calls
set_option Elab.async false
set_option maxRecDepth 100000
set_option maxHeartbeats 4000000
namespace Mine
theorem fresh_Ge2 : True := by
  w_top off
  trivial
local macro_rules | `(tactic| walk_at "no such key") => `(tactic| skip)
local macro_rules | `(tactic| k_room) => `(tactic| ((try simp only [depth_under_make, depth_under_kw, depth_in1, depth_deeper, depth_caller]); omega))
local macro_rules | `(tactic| k_all) => `(tactic| assumption)
theorem noteFrame_frame {env env' : Env} {e : Value} (h : env'.frame = env.frame) : noteFrame e env' = noteFrame e env := by
  unfold noteFrame PySem.frameOf
  rw [h]
theorem vi_shl {d : Int} {i : Nat} (h : 0 ≤ d ∧ d < 2 ^ (7 * i)) (hi : i ≤ 1000) : (Builtin.Int.intBits d : Int) + 7 ≤ 2 ^ 27 := by
  have : Builtin.Int.intBits d ≤ 7 * i := intBits_le_iff.mpr (by
    have h2 : ((d.natAbs : Nat) : Int) < ((2 ^ (7 * i) : Nat) : Int) := by
      rw [Int.natAbs_of_nonneg h.1]; simpa using h.2
    exact_mod_cast h2)
  omega
theorem vi_step {d b : Int} (hd : 0 ≤ d) : Builtin.bitOr (d * 2 ^ Int.toNat 7) (Builtin.bitAnd b 127) = d * 128 + b % 128 := by
  rw [bitAnd_m7, show Int.toNat 7 = 7 from rfl, or_low d (b % 128) 7 hd (Int.emod_nonneg _ (by decide)) (Int.emod_lt_of_pos _ (by decide))]
  omega
def vfold (l : List Int) : Int := l.foldl (fun a b => a * 128 + b % 128) 0
theorem vfold_snoc (l : List Int) (b : Int) : vfold (l ++ [b]) = vfold l * 128 + b % 128 := by
  unfold vfold; rw [List.foldl_append]; rfl
theorem vfold_go (l : List Int) : ∀ (a : Int) (k : Nat), 0 ≤ a ∧ a < 2 ^ (7 * k) → 0 ≤ l.foldl (fun a b => a * 128 + b % 128) a ∧ l.foldl (fun a b => a * 128 + b % 128) a < 2 ^ (7 * (k + l.length)) := by
  induction l with
  | nil => intro a k h; exact h
  | cons b r ih =>
    intro a k h
    have h1 := Int.emod_nonneg b (show (128 : Int) ≠ 0 by decide)
    have h2 := Int.emod_lt_of_pos b (show (0 : Int) < 128 by decide)
    have := ih (a * 128 + b % 128) (k + 1) (by
      rw [show 7 * (k + 1) = 7 * k + 7 from rfl, Int.pow_add, show (2 : Int) ^ 7 = 128 by decide]
      omega)
    rw [List.foldl_cons, List.length_cons, show k + (r.length + 1) = k + 1 + r.length by omega]
    exact this
theorem vfold_range (l : List Int) : 0 ≤ vfold l ∧ vfold l < 2 ^ (7 * l.length) := by
  have := vfold_go l 0 0 ⟨by decide, by decide⟩
  rwa [Nat.zero_add] at this
theorem Fr.congr {h₀ h : Heap} {L : Addr} {m m' : Str → Option Value} (F : Fr h₀ L h m) (e : m = m') : Fr h₀ L h m' := e ▸ F
theorem look1 {a y : Str} {v : Value} : List.lookup y [(a, v)] = if y = a then some v else none := by
  rw [List.lookup_cons, List.lookup_nil]
  by_cases h : y = a
  · simp [h]
  · rw [if_neg h, show (y == a) = false from by simpa using h]
theorem keep_flight {base G : Heap} {l : List Env} {e t L : Addr} {cls : Value} {vs : List Value} {news : List (Addr × Obj)} {M : Model} {A : Around} {E : Value → Shared → Prop} {s' : Shared} {Q : Unit → Shared → Prop}
    (H : HeldS base G l e cls t vs news L s'.heap) (k : ∀ h', HeldS base G l e cls t vs news L h' → s'.heap.UpToSlots h' → Q () { s' with heap := h' }) : wpAny M A (setFlight (.ref e) (some L)) Q E s' := by
  obtain ⟨⟨B, h1, h2, h3, ⟨f1, f2, f3, oe, ws, T, oT, ts, he, hc, hd, g1, hn, hne, hT, hdT, g3⟩, h5⟩, h6⟩ := H
  have sz : 3 < ts.size := (Array.getElem?_eq_some_iff.mp g3).1
  have other : ∀ b, b ≠ T → (s'.heap.update T (Obj.mapFields (·.setIfInBounds 3 (rawInt L)))).get? b = s'.heap.get? b := fun b hb => Heap.get?_update_other _ _ (Ne.symm hb)
  have rec_ : ∀ b o, s'.heap.get? b = some o → (∀ vs, o.data ≠ .fields vs) → b ≠ T := fun b o hb hnf q => by
    rw [q, hT] at hb; injection hb with hb; subst hb; exact hnf ts hdT
  unfold setFlight
  refine wpAny_bind (wpAny_field he hd g1 ?_)
  rw [if_pos (show (Value.ref T != Value.none) = true from by simp)]
  refine wpAny_setField hT hdT sz ?_
  refine k _ ⟨⟨B, h1, h2, h3, ⟨fun b o q => (other b fun z => by rw [z, hn] at q; cases q).trans (f1 b o q), f2, f3.of_keeps fun b o q nf => ⟨o, (other b (rec_ b o q nf)).trans q, rfl⟩,
    oe, ws, T, _, _, (other e (Ne.symm hne)).trans he, hc, hd, g1, hn, hne, Heap.get?_update_self _ hT (Obj.isFreed_of_fields (Obj.data_mapFields hdT _)), Obj.data_mapFields hdT _, by simp [sz]⟩, h5⟩, ?_⟩
    fun b o q nf => ⟨o.slots, (other b (rec_ b o q nf)).trans q⟩
  exact h6.of_slots fun b o q nf => ⟨o.slots, (other b (rec_ b o q nf)).trans q⟩
theorem traced_field {base G : Heap} {l : List Env} {e t L : Addr} {cls : Value} {vs : List Value} {news : List (Addr × Obj)} {M : Model} {A : Around} {E : Value → Shared → Prop} {s' : Shared} {Q : Value → Shared → Prop}
    (H : HeldS base G l e cls t vs news L s'.heap) (k : ∀ T, Q (.ref T) s') : wpAny M A (field (.ref e) 1) Q E s' := by
  obtain ⟨⟨B, h1, h2, h3, ⟨f1, f2, f3, oe, ws, T, oT, ts, he, hc, hd, g1, hn, hne, hT, hdT, g3⟩, h5⟩, h6⟩ := H
  exact wpAny_field he hd g1 (k T)
theorem came_back {base G : Heap} {l : List Env} {e t L : Addr} {cls : Value} {vs : List Value} {news : List (Addr × Obj)} {M : Model} {A : Around} {E : Value → Shared → Prop} {s' : Shared} {env : Env} (hf : env.frame = some L)
    (H : HeldS base G l e cls t vs news L s'.heap) (k : ∀ h', HeldS base G l e cls t vs news L h' → s'.heap.UpToSlots h' → E (.ref e) { s' with heap := h' }) : cameBackBy M A env E (.ref e) s' := by
  unfold cameBackBy
  refine wpAny_bind (traced_field H fun T => ?_)
  rw [if_neg (show ¬ ((Value.ref T == Value.none) = true) from by simp), hf]
  first
    | exact keep_flight H k
    | exact wpAny_bind (wpAny_pure (keep_flight H k))
theorem passes_on {α : Type} {base G : Heap} {l : List Env} {e t L : Addr} {cls : Value} {vs : List Value} {news : List (Addr × Obj)} {M : Model} {A : Around} {E : Value → Shared → Prop} {s' : Shared} {env : Env} {what : String} {Q : α → Shared → Prop} (hf : env.frame = some L)
    (H : HeldS base G l e cls t vs news L s'.heap) (k : ∀ h', HeldS base G l e cls t vs news L h' → s'.heap.UpToSlots h' → E (.ref e) { s' with heap := h' }) : wpAny M A (PySem.passOn what (.ref e) env : Sem α) Q E s' := by
  unfold PySem.passOn
  refine wpAny_bind (traced_field H fun T => ?_)
  rw [if_neg (show ¬ ((Value.ref T == Value.none) = true) from by simp), hf]
  first
    | exact wpAny_bind (keep_flight H fun h' H' sm => wpAny_throw (k h' H' sm))
    | exact wpAny_bind (wpAny_pure (wpAny_bind (keep_flight H fun h' H' sm => wpAny_throw (k h' H' sm))))
def Turn (I : Nat → Shared → Prop) (n : Nat) (s : Shared) : Prop := ∃ m, m < n ∧ I m s
theorem while_loop {prog : Program} {w : World} {A : Around} {R : Result → Shared → Prop} {s : Shared} {test body orelse env} (I : Nat → Shared → Prop)
    (turn : ∀ n s, I n s →
      wpAny (model prog w) A (isTrue test env (eval test env)) (fun b s₂ =>
        if b then wpAny (model prog w) A (execs body env) (fun f s₃ => match f with
            | .next | .cont => Turn I n s₃
            | .brk => R (.ok .next) s₃
            | .ret v => R (.ok (.ret v)) s₃) (notedBy (model prog w) A env fun e s' => R (.error e) s') s₂
        else wpAny (model prog w) A (execs orelse env) (fun f s₃ => R (.ok f) s₃) (notedBy (model prog w) A env fun e s' => R (.error e) s') s₂)
        (notedBy (model prog w) A env fun e s' => R (.error e) s') s)
    (n : Nat) (h : I n s) : codeAny (model prog w) A (.whileLoop test body orelse env) R s := codeAny_whileLoop I turn n h
end Mine

-- Vi
open PySem PySem.W PyProof.Rows PySem.Calls
set_option Elab.async false
set_option maxRecDepth 100000
set_option maxHeartbeats 4000000
namespace Mine
theorem fresh_Vi : True := by
  w_top off
  trivial
local macro_rules | `(tactic| walk_at "no such key") => `(tactic| skip)
local macro_rules | `(tactic| walk_at "no such key") => `(tactic| skip)
local macro_rules | `(tactic| k_room) => `(tactic| ((try simp only [depth_under_make, depth_under_kw, depth_in1, depth_deeper, depth_caller]); omega))
local macro_rules | `(tactic| k_all) => `(tactic| assumption)
local macro_rules | `(tactic| walk_at "binaryOp LShift int int") => `(tactic| ((with_reducible refine lshift_int ?a ?b ?_); (case a => decide); (case b => exact vi_shl (by assumption) (by assumption))))
local macro_rules | `(tactic| walk_at "call ref") => `(tactic| ((with_reducible show wpAny _ _ (call (Value.ref 98) _) _ _ _); k_dflt (refine' read_byte_spec ?B ?F ?X ?N ?T ?D ?hf ?hke ?hd ?hu ?hx ?hl ?U ?hI ?hn ?hlen ?_ ?_; (case F => k_asm); (case B => k_asm); (case X => k_asm); (case N => k_asm); (case T => k_asm); (case D => k_asm); (case hf => exact rfl); (case hke => exact rfl); (case hd => first | omega | ((try simp only [depth_under_make, depth_under_kw, depth_in1, depth_deeper, depth_caller]); (try dsimp only); omega) | decide); (case hu => first | omega | ((try simp only [Around.deeper_units, Around.in1_units]); (try dsimp only); omega) | decide); (case hx => k_mem); (case U => k_updF); (case hl => k_mem); (case hI => k_asm); (case hn => first | assumption | omega); (case hlen => first | assumption | omega)); (intro b' r' h' tk' tb' tc' hd' F' N'; (try k_sweep)); rotate_left; (intro g' h' e' t' tk' tc' hd' FG' R' U'); rotate_left))
theorem vi_at {octs r : List Int} {n : Int} {i : Nat} {b : Int} (h : octs.drop (n + i).toNat = b :: r) (hn : 0 ≤ n) : i < (octs.drop n.toNat).length ∧ (octs.drop n.toNat).getD i 0 = b ∧ (octs.drop n.toNat).take i ++ [b] = (octs.drop n.toNat).take (i + 1) := by
  have e : (n + (i : Int)).toNat = n.toNat + i := by omega
  rw [e, ← List.drop_drop] at h
  have h1 : (octs.drop n.toNat)[i]? = some b := by
    have := congrArg (fun l => l[0]?) h
    simpa [List.getElem?_drop] using this
  have h2 : i < (octs.drop n.toNat).length := by
    rcases List.getElem?_eq_some_iff.mp h1 with ⟨a, _⟩; exact a
  refine ⟨h2, by rw [List.getD_eq_getElem?_getD, h1]; rfl, ?_⟩
  rw [List.take_add_one, h1]; rfl
theorem varint_core {w : World} {A₀ : Around} {d u : Nat} {gs : Option (List Code)} {base h₀ : Heap} {env : Env} {outer : List Env} {L : Addr} {m mg mb : Str → Option Value} {s : Shared} {loose : List Str} {mean : ExcName → Option Value} {E : Value → Shared → Prop} {Q : Value → Shared → Prop} {rest : List (Addr × Obj)} {x dx l : Addr} {ws : List Value} {octs : List Int} {v : Nat} {n : Int} {ta tb tc : Tok}
    (B : Below A₀ base outer h₀) (F : Fr h₀ L s.heap m) (X : (hd.heap_39 w.params).In h₀) (N : News h₀ L s.heap ((x, instObj 80 dx) :: (dx, pDict w l n ta tb tc) :: (l, listOf ws.toArray v) :: rest)) (T : Top hd.view_39 loose mean mg mb h₀)
    (D : KtsDicts (outer.filterMap (·.frame)) h₀)
    (hf : env.frame = some L) (hke : env.scope.kind = .function) (hd : d + 40 < recursionLimit) (hu : u + 200 < cLine)
    (hxd : x ≠ dx) (hld : l ≠ dx) (hoff : ∀ p ∈ rest, p.1 ≠ dx)
    (hI : IntsAre ws octs) (hn : 0 ≤ n) (hlen : octs.length ≤ 1000)
    (hQ : ∀ (i : Nat) h' tk tc' tb', i < (octs.drop n.toNat).length → (octs.drop n.toNat).getD i 0 < 128 → (∀ j, j < i → 128 ≤ (octs.drop n.toNat).getD j 0) → Fr h₀ L h' m → News h₀ L h' ((x, instObj 80 dx) :: (dx, pDict w l (n + i + 1) ta tb tc') :: (l, listOf ws.toArray v) :: rest) → Q (.int (vfold ((octs.drop n.toNat).take (i + 1))) tb') { s with heap := h', toks := tk })
    (hE : ∀ g h' e t tk tc', (∀ j, j < (octs.drop n.toNat).length → 128 ≤ (octs.drop n.toNat).getD j 0) → Fr h₀ L g m → RaisedS base g (env :: outer) e (.ref 24) t [] ((x, instObj 80 dx) :: (dx, pDict w l (n + (octs.drop n.toNat).length) ta tb tc') :: (l, listOf ws.toArray v) :: rest) h' → g.UpToSlots h' →
      E (.ref e) { s with heap := h', toks := tk }) :
    wpAny (model PySem.Challenge.rw_aa6022_01.row.prog w) ⟨none, d, some (env :: outer), gs, u⟩ (call (.ref 124) [.ref x]) Q E s := by
  revert X; k_fill; intro X
  replace hQ := Shut.mk hQ
  replace hE := Shut.mk hE
  refine wpAny_call ?_
  refine' code_def B F X N T rfl hf hke ?k6 ?k7 ?k8 ?k9 ?kB ?_ ?c2 ?c3 ?c4 ?c5
  case k6 => k_is
  case k7 => k_is
  case k8 => k_room
  case k9 => first | exact BindsTo.of_eq rfl | exact binds_K (by k_in) rfl (by k_is) rfl rfl rfl
  case kB => exact locs rfl
  case c2 => exact rfl
  case c3 => exact rfl
  case c4 => exact rfl
  case c5 => decide
  intro g' L' h' FG' F' N' B' X' T'
  have D' := dicts_push (env := env) hf D FG'
  (try dsimp only); (try k_lift B'); (try k_fold)
  iterate 5 (try (first | (k_unfold; (try dsimp only)) | (k_end; wrow_close) | walk1 | (dsimp only; walk1) | (leave1; walk_say "STEP leave1"; try dsimp only)))
  (with_reducible rename Fr g' L' _ _ => F1)
  (with_reducible rename News g' L' _ _ => N1)
  have F2 : ∃ td, Fr g' L' _ (fun y => if y = Str.ofString "delta" then some (Value.int 0 td) else if y = Str.ofString "byte" then none else if y = Str.ofString "infile" then some (Value.ref x) else none) := ⟨_, Fr.congr F1 (by
    funext y
    by_cases hy : y = Str.ofString "delta"
    · rw [if_pos hy, if_pos hy]
    · rw [if_neg hy, if_neg hy]
      refine Eq.trans (b := List.lookup y [(Str.ofString "infile", Value.ref x)]) rfl ?_
      rw [look1]
      by_cases hy2 : y = Str.ofString "byte"
      · rw [if_pos hy2, hy2]; rfl
      · rw [if_neg hy2])⟩
  clear F1
  obtain ⟨td0, F2⟩ := F2
  refine wpAny_While (while_loop (fun k s' => ∃ h' tk dl td ub tc', ∃ i : Nat, s' = ⟨h', s.gens, s.drawn, tk, s.os⟩ ∧ Fr g' L' h' (fun y => if y = Str.ofString "delta" then some (Value.int dl td) else if y = Str.ofString "byte" then ub else if y = Str.ofString "infile" then some (Value.ref x) else none) ∧ News g' L' h' ((x, instObj 80 dx) :: (dx, pDict w l (n + (i : Int)) ta tb tc') :: (l, listOf ws.toArray v) :: rest) ∧
    i ≤ (octs.drop n.toNat).length ∧ k + i = (octs.drop n.toNat).length + 1 ∧ (∀ j, j < i → 128 ≤ (octs.drop n.toNat).getD j 0) ∧ dl = vfold ((octs.drop n.toNat).take i)) ?turn ((octs.drop n.toNat).length + 1) ⟨_, _, _, _, _, _, 0, rfl, F2, by rw [show n + ((0 : Nat) : Int) = n from Int.add_zero n]; exact N1, Nat.zero_le _, rfl, fun j hj => absurd hj (Nat.not_lt_zero j), rfl⟩)
  clear F2 N1
  rintro k s' ⟨h1, tk1, dl, td, ub, tc1, i, rfl, F3, N3, hi, hk, hge, hdl⟩
  have hll : (octs.drop n.toNat).length ≤ 1000 := by rw [List.length_drop]; omega
  have hdb : 0 ≤ dl ∧ dl < 2 ^ (7 * i) := by
    have := vfold_range ((octs.drop n.toNat).take i)
    rw [List.length_take, Nat.min_eq_left hi] at this
    rw [hdl]; exact this
  have hi2 : i ≤ 1000 := by omega
  replace hge := Shut.mk hge
  replace hdl := Shut.mk hdl
  k_steps
  · (with_reducible rename News h₀ L _ _ => N2)
    (with_reducible rename Fr h₀ L _ _ => F2)
    (with_reducible rename List.drop _ _ = _ :: _ => hd2)
    (with_reducible rename (_ : Int) < 128 => hlt)
    obtain ⟨hb0, hb1, hb2⟩ := vi_at hd2 hn
    rw [vi_step hdb.1, hdl.out, ← vfold_snoc, hb2]
    exact hQ.out i _ _ _ _ hb0 (by rw [hb1]; exact hlt) hge.out F2 N2
  · (with_reducible rename News g' L' _ _ => N2)
    (with_reducible rename Fr g' L' _ _ => F2)
    (with_reducible rename List.drop _ _ = _ :: _ => hd2)
    (with_reducible rename ¬ (_ : Int) < 128 => hlt)
    obtain ⟨hb0, hb1, hb2⟩ := vi_at hd2 hn
    rw [vi_step hdb.1, hdl.out, ← vfold_snoc, hb2] at F2
    have F5 : ∃ td' ub', Fr g' L' _ (fun y => if y = Str.ofString "delta" then some (Value.int (vfold ((octs.drop n.toNat).take (i + 1))) td') else if y = Str.ofString "byte" then ub' else if y = Str.ofString "infile" then some (Value.ref x) else none) := ⟨_, _, Fr.congr F2 (by
      funext y
      by_cases hy : y = Str.ofString "delta"
      · exact (if_pos hy).trans (if_pos hy).symm
      · refine (if_neg hy).trans (Eq.trans ?_ (if_neg hy).symm)
        by_cases hy2 : y = Str.ofString "byte"
        · exact (if_pos hy2).trans (if_pos hy2).symm
        · refine (if_neg hy2).trans (Eq.trans ?_ (if_neg hy2).symm)
          exact (if_neg hy).trans (if_neg hy2))⟩
    obtain ⟨td', ub', F5⟩ := F5
    refine ⟨k - 1, by omega, _, _, _, td', ub', ?tc, i + 1, rfl, F5, ?N, by omega, by omega, fun j hj => ?_, rfl⟩
    case N => rw [show n + ((i + 1 : Nat) : Int) = n + i + 1 by omega]; exact N2
    by_cases hj2 : j < i
    · exact hge.out j hj2
    · rw [show j = i by omega, hb1]; omega
  · (with_reducible rename RaisedS base _ _ _ _ _ _ _ _ => R)
    (with_reducible rename Heap.UpToSlots _ _ => U)
    (with_reducible rename List.drop _ _ = [] => hd2)
    (with_reducible rename Fr g' L' _ _ => FG2)
    have hll2 : i = (octs.drop n.toNat).length := by
      have := congrArg List.length hd2
      rw [List.length_drop, List.length_nil] at this
      rw [List.length_drop] at hi ⊢
      omega
    refine note_first (Around.frames_deeper B'.stack) rfl rfl R rfl fun h2 H sm => ?_
    refine came_back rfl H fun h3 H3 sm3 => ?_
    refine leave_held rfl FG2 B' H3 (U.trans (sm.trans sm3)) fun h4 R4 U4 => ?_
    rw [hll2] at R4
    exact hE.out _ _ _ _ _ _ (by rw [← hll2]; exact hge.out) FG' R4 U4
end Mine

-- ViS
open PySem PySem.W PyProof.Rows PySem.Calls
set_option Elab.async false
set_option maxRecDepth 100000
set_option maxHeartbeats 4000000
namespace Mine
theorem fresh_ViS : True := by
  w_top off
  trivial
local macro_rules | `(tactic| k_room) => `(tactic| ((try simp only [depth_under_make, depth_under_kw, depth_in1, depth_deeper, depth_caller]); omega))
local macro_rules | `(tactic| k_all) => `(tactic| assumption)
theorem varint_spec {w : World} {A₀ : Around} {d u : Nat} {gs : Option (List Code)} {base h₀ : Heap} {env : Env} {outer : List Env} {L : Addr} {m mg mb : Str → Option Value} {s : Shared} {loose : List Str} {mean : ExcName → Option Value} {E : Value → Shared → Prop} {Q : Value → Shared → Prop} {news : List (Addr × Obj)} {f : Obj → List (Addr × Obj)} {x dx l : Addr} {ws : List Value} {octs : List Int} {v : Nat} {n : Int} {ta tb tc : Tok}
    (B : Below A₀ base outer h₀) (F : Fr h₀ L s.heap m) (X : (hd.heap_39 w.params).In h₀) (N : News h₀ L s.heap (news)) (T : Top hd.view_39 loose mean mg mb h₀)
    (D : KtsDicts (outer.filterMap (·.frame)) h₀)
    (hf : env.frame = some L) (hke : env.scope.kind = .function) (hd : d + 40 < recursionLimit) (hu : u + 200 < cLine)
    (hx : (x, instObj 80 dx) ∈ news) (hl : (l, listOf ws.toArray v) ∈ news) (U : UpdF dx (pDict w l n ta tb tc) news f)
    (hI : IntsAre ws octs) (hn : 0 ≤ n) (hlen : octs.length ≤ 1000)
    (hQ : ∀ (i : Nat) h' tk tc' tb', i < (octs.drop n.toNat).length → (octs.drop n.toNat).getD i 0 < 128 → (∀ j, j < i → 128 ≤ (octs.drop n.toNat).getD j 0) → Fr h₀ L h' m → News h₀ L h' (f (pDict w l (n + i + 1) ta tb tc')) → Q (.int (vfold ((octs.drop n.toNat).take (i + 1))) tb') { s with heap := h', toks := tk })
    (hE : ∀ g h' e t tk tc', (∀ j, j < (octs.drop n.toNat).length → 128 ≤ (octs.drop n.toNat).getD j 0) → Fr h₀ L g m → RaisedS base g (env :: outer) e (.ref 24) t [] (f (pDict w l (n + (octs.drop n.toNat).length) ta tb tc')) h' → g.UpToSlots h' →
      E (.ref e) { s with heap := h', toks := tk }) :
    wpAny (model PySem.Challenge.rw_aa6022_01.row.prog w) ⟨none, d, some (env :: outer), gs, u⟩ (call (.ref 124) [.ref x]) Q E s := by
  obtain ⟨rest, hoff, hin, hout⟩ := ledger_split hx hl U
  have N' := News.sub N hin
  obtain ⟨hxd, hld⟩ := paper_apart N'
  exact varint_core B F X N' T D hf hke hd hu hxd hld hoff hI hn hlen (fun i h' tk tc' tb' e1 e2 e3 F' N' => hQ i h' tk tc' tb' e1 e2 e3 F' (News.sub N' (hout _)))
    (fun g h' e t tk tc' z FG R U => hE g h' e t tk tc' z FG (raisedS_sub R (hout _)) U)
end Mine

-- Cp
open PySem PySem.W PyProof.Rows PySem.Calls
set_option Elab.async false
set_option maxRecDepth 100000
set_option maxHeartbeats 1000000
namespace Mine
theorem fresh_Cp : True := by
  w_top off
  trivial
local macro_rules | `(tactic| walk_at "no such key") => `(tactic| skip)
theorem comp_raises {M : Model} {A : Around} {E : Value → Shared → Prop} {s : Shared} {env : Env} {elt iter : Expr} {x : Str} {px pos : Pos} {scope : Scope} {cl : List (Str × Addr)} {Q : Value → Shared → Prop}
    (hclos : closureFor scope env = pure cl) (hkind : scope.kind = .function) (hnames : ∀ y ∈ scope.names, y.2 = .local → scope.names.lookup y.1 = some .local) (hs : ∀ v, foldedSetIterable iter env v = pure v)
    (h : wpAny M A (eval iter env) (fun v s₁ => wpAny M A (pyIter v) (fun it s₂ => wpAny M A (newList []) (fun acc s₃ => wpAny M A (newFunctionEnv scope env.globals cl [] env.qual none .none (some env)) (fun cenv s₄ =>
      codeAny M A (.compStart (.ListComp elt [⟨.Name x px, iter, [], 0⟩] scope pos) 0 it acc { cenv with scope := relabel scope env })
        (fun r s' => ∃ m, s'.heap.Ns cenv.locals m ∧ ∀ h', Heap.SameBut cenv.locals s'.heap h' → match r with
          | .ok _ => Q acc { s' with heap := h' }
          | .error z => wpAny M A (PySem.passOn "comprehension.variables-let-go" z { cenv with scope := relabel scope env }) Q E { s' with heap := h' }) s₄) E s₃) E s₂) E s₁) E s) :
    wpAny M A (eval (.ListComp elt [⟨.Name x px, iter, [], 0⟩] scope pos) env) Q E s := by
  rw [eval_ListComp]
  unfold comprehension
  rw [hclos]
  refine wpAny_bind (wpAny_mono h (fun v s₁ h₁ => wpAny_bind (wpAny_standAt (wpAny_bind ?_))) fun _ _ z => z)
  refine wpAny_of_eq (hs v) (wpAny_bind (wpAny_holding (wpAny_mono h₁ (fun it s₂ h₂ => ?_) fun _ _ z => z)))
  refine wpAny_standIf (wpAny_bind (wpAny_mono h₂ (fun acc s₃ h₃ => wpAny_bind (wpAny_pure (wpAny_bind (wpAny_mono h₃ (fun cenv s₄ h₄ => ?_) fun _ _ z => z)))) fun _ _ z => z))
  dsimp only
  refine wpAny_holding (wpAny_bind (wpAny_attempt (wpAny_holding (wpAny_run (codeAny_mono h₄ fun r s' hr => ?_)))))
  obtain ⟨m, hn, hr⟩ := hr
  have hv : ∀ y ∈ (scope.names.filter fun y => (y.2 == .local || y.2 == .cell) && y.1 != (".0" : Str)).reverse, y.2 = .local → Env.kindOf { cenv with scope := relabel scope env } y.1 = some .local :=
    fun y hy hl => lookup_relabel_local (hnames y (List.mem_filter.mp (List.mem_reverse.mp hy)).1 hl)
  cases r with
  | ok f => exact wpAny_bind (wpAny_holding (wpAny_comp_letGo (cenv := { cenv with scope := relabel scope env }) hkind _ s' m hv hn fun h' m' _ hs' => wpAny_pure (hr h' hs')))
  | error z => exact wpAny_bind (wpAny_holding (wpAny_comp_letGo (cenv := { cenv with scope := relabel scope env }) hkind _ s' m hv hn fun h' m' _ hs' => hr h' hs'))

theorem held_but {base G h h' : Heap} {l : List Env} {e t L C : Addr} {cls : Value} {vs : List Value} {news : List (Addr × Obj)} {oc : Obj} (H : HeldS base G l e cls t vs ((C, oc) :: news) L h) (hs : Heap.SameBut C h h') (hn : ∀ p ∈ news, p.1 ≠ C) :
    HeldS base G l e cls t vs news L h' := by
  obtain ⟨⟨B, h1, h2, h3, ⟨f1, f2, f3, oe, ws, T, oT, ts, he, hc, hd, g1, hnT, hne, hT, hdT, g3⟩, h5⟩, ot, nt, h6, h7, h8⟩ := H
  have hC := h3 (C, oc) (.head _)
  have off : ∀ b, B.get? b = none → b ≠ C := fun b q z => by rw [z, hC.1] at q; cases q
  have up : ∀ b o, b ≠ C → B.get? b = some o → (B.hide C).get? b = some o := fun b o z q => (Heap.hide_ne B z).trans q
  have dn : ∀ b, B.get? b = none → (B.hide C).get? b = none := fun b q => by
    cases z : (B.hide C).get? b with
    | none => rfl
    | some o => have := Heap.of_hide z; rw [q] at this; cases this
  have mv : ∀ b o, b ≠ C → h.get? b = some o → h'.get? b = some o := fun b o z q => (hs.2 b z).trans q
  refine ⟨⟨B.hide C, fun b o q => up b o (fun z => ?_) (h1 b o q), fun b o q nm => up b o (fun z => ?_) (h2 b o q nm), fun q hq => ⟨up _ _ (hn q hq) (h3 q (.tail _ hq)).1, (h3 q (.tail _ hq)).2⟩,
    ⟨fun b o q => ?_, dn _ f2, ?_, oe, ws, T, oT, ts, mv _ _ (off _ f2) he, hc, hd, g1, dn _ hnT, hne, mv _ _ (off _ hnT) hT, hdT, g3⟩, dn _ h5⟩, ot, nt, mv _ _ (off _ h5) h6, h7, h8⟩
  · rw [z, hC.2.2] at q; cases q
  · rw [z, hC.2.1] at q; cases q
  · have hb : b ≠ C := fun z => by rw [z, Heap.hide_self] at q; cases q
    exact mv b o hb (f1 b o (Heap.of_hide q))
  · clear h1 h2 h3 he hc hd g1 hT hdT g3 h6 f1
    induction l with
    | nil => trivial
    | cons env r ih =>
      obtain ⟨k, ⟨L1, o1, a1, a2, a3, a4⟩, kr⟩ := f3
      exact ⟨k, ⟨L1, o1, a1, dn _ a2, mv _ _ (off _ a2) a3, a4⟩, ih kr⟩
theorem held_ns {base G h : Heap} {l : List Env} {e t L C : Addr} {cls : Value} {vs : List Value} {news : List (Addr × Obj)} {oc : Obj} (H : HeldS base G l e cls t vs ((C, oc) :: news) L h) : h.get? C = some oc := by
  obtain ⟨⟨B, h1, h2, h3, ⟨f1, _⟩, h5⟩, _⟩ := H
  exact f1 _ _ (h3 _ (.head _)).1
end Mine

-- Ry
open PySem PySem.W PyProof.Rows PySem.Calls
set_option Elab.async false
set_option maxRecDepth 100000
set_option maxHeartbeats 4000000
namespace Mine
theorem fresh_Ry : True := by
  w_top off
  trivial
local macro_rules | `(tactic| walk_at "no such key") => `(tactic| skip)
local macro_rules | `(tactic| walk_at "no such key") => `(tactic| skip)
local macro_rules | `(tactic| k_room) => `(tactic| ((try simp only [depth_under_make, depth_under_kw, depth_in1, depth_deeper, depth_caller]); omega))
local macro_rules | `(tactic| k_all) => `(tactic| assumption)
abbrev itObj (i left : Int) : Obj := { cls := .type "range_iterator", data := .fields #[rawInt i, rawInt left, rawInt 1] }
local macro_rules | `(tactic| walk_at "call ref") => `(tactic| ((with_reducible show wpAny _ _ (call (Value.ref 98) _) _ _ _); k_dflt (refine' read_byte_spec ?B ?F ?X ?N ?T ?D ?hf ?hke ?hd ?hu ?hx ?hl ?U ?hI ?hn ?hlen ?_ ?_; (case F => k_asm); (case B => k_asm); (case X => k_asm); (case N => k_asm); (case T => k_asm); (case D => k_asm); (case hf => exact rfl); (case hke => exact rfl); (case hd => first | omega | ((try simp only [depth_under_make, depth_under_kw, depth_in1, depth_deeper, depth_caller]); (try dsimp only); omega) | decide); (case hu => first | omega | ((try simp only [Around.deeper_units, Around.in1_units]); (try dsimp only); omega) | decide); (case hx => k_mem); (case U => k_updF); (case hl => k_mem); (case hI => k_asm); (case hn => first | assumption | omega); (case hlen => first | assumption | omega)); (intro b' r' h' tk' tb' tc' hd' F' N'; (try k_sweep)); rotate_left; (intro g' h' e' t' tk' tc' hd' FG' R' U'); rotate_left))
theorem held_none {base G h : Heap} {l : List Env} {e t L C : Addr} {cls : Value} {vs : List Value} {news : List (Addr × Obj)} {oc : Obj} (H : HeldS base G l e cls t vs ((C, oc) :: news) L h) : G.get? C = none := by
  obtain ⟨⟨B, h1, h2, h3, _⟩, _⟩ := H
  exact (h3 _ (.head _)).2.1
theorem by_addr {P : Addr → Prop} {a b : List (Addr × Obj)} (h : ∀ p ∈ a, P p.1) (e : b.map (·.1) = a.map (·.1)) : ∀ p ∈ b, P p.1 := fun p hp => by
  have : p.1 ∈ a.map (·.1) := e ▸ List.mem_map_of_mem hp
  obtain ⟨q, hq, e2⟩ := List.mem_map.mp this
  exact e2 ▸ h q hq
theorem range_small {size : Int} (h0 : 0 ≤ size) (h1 : size ≤ 1000000) : Builtin.Range.small 0 size 1 = true := by
  exact small_one (by decide) (by decide) (by omega) (by omega)
theorem rbytes_core {w : World} {A₀ : Around} {d u : Nat} {gs : Option (List Code)} {base h₀ : Heap} {env : Env} {outer : List Env} {L : Addr} {m mg mb : Str → Option Value} {s : Shared} {loose : List Str} {mean : ExcName → Option Value} {E : Value → Shared → Prop} {Q : Value → Shared → Prop} {rest : List (Addr × Obj)} {x dx l : Addr} {ws : List Value} {octs : List Int} {v : Nat} {n : Int} {ta tb tc : Tok} {size : Int} {ts : Tok}
    (B : Below A₀ base outer h₀) (F : Fr h₀ L s.heap m) (X : (hd.heap_39 w.params).In h₀) (N : News h₀ L s.heap ((x, instObj 80 dx) :: (dx, pDict w l n ta tb tc) :: (l, listOf ws.toArray v) :: rest)) (T : Top hd.view_39 loose mean mg mb h₀)
    (D : KtsDicts (outer.filterMap (·.frame)) h₀)
    (hf : env.frame = some L) (hke : env.scope.kind = .function) (hd : d + 40 < recursionLimit) (hu : u + 200 < cLine)
    (hxd : x ≠ dx) (hld : l ≠ dx) (hoff : ∀ p ∈ rest, p.1 ≠ dx)
    (hI : IntsAre ws octs) (hn : 0 ≤ n) (hlen : octs.length ≤ 1000)
    (hs : 0 ≤ size ∧ size ≤ 1000000)
    (hQ : ∀ D h' tk tc' wr vr, size ≤ (octs.drop n.toNat).length → Fr h₀ L h' m → News h₀ L h' ((D, listOf (List.toArray wr) vr) :: (x, instObj 80 dx) :: (dx, pDict w l (n + size) ta tb tc') :: (l, listOf ws.toArray v) :: rest) → (∀ p ∈ ((x, instObj 80 dx) :: (dx, pDict w l n ta tb tc) :: (l, listOf ws.toArray v) :: rest), p.1 < D) → IntsAre wr ((octs.drop n.toNat).take size.toNat) → Q (.ref D) { s with heap := h', toks := tk })
    (hE : ∀ g h' e t tk tc', ((octs.drop n.toNat).length : Int) < size → Fr h₀ L g m → RaisedS base g (env :: outer) e (.ref 24) t [] ((x, instObj 80 dx) :: (dx, pDict w l (n + (octs.drop n.toNat).length) ta tb tc') :: (l, listOf ws.toArray v) :: rest) h' → g.UpToSlots h' →
      E (.ref e) { s with heap := h', toks := tk }) :
    wpAny (model PySem.Challenge.rw_aa6022_01.row.prog w) ⟨none, d, some (env :: outer), gs, u⟩ (call (.ref 103) [.ref x, .int size ts]) Q E s := by
  revert X; k_fill; intro X
  replace hQ := Shut.mk hQ
  replace hE := Shut.mk hE
  refine wpAny_call ?_
  refine' code_defC B F X N T rfl hf hke ?k6 ?k7 ?k8 ?k9 ?kB ?kD ?_ ?c2 ?c3 ?c4
  case k6 => k_is
  case k7 => k_is
  case k8 => k_room
  case k9 => first | exact BindsTo.of_eq rfl | exact binds_K (by k_in) rfl (by k_is) rfl rfl rfl
  case kB => exact rfl
  case kD => decide +kernel
  case c2 => exact rfl
  case c3 => exact rfl
  case c4 => exact rfl
  intro g' L' h' tk' cells' FG' F' N' Y' B' X' T' l1
  (try k_lt l1); k_cells Y'; (try simp only [List.cons_append, List.nil_append] at N')
  have D' := dicts_push (env := env) hf D FG'
  (try dsimp only); (try k_lift B'); (try k_fold)
  iterate 11 (try (first | (k_unfold; (try dsimp only)) | (k_end; wrow_close) | walk1 | (dsimp only; walk1) | (leave1; walk_say "STEP leave1"; try dsimp only)))
  (with_reducible rename Obj.data _ = _ => dc)
  refine comp_raises (cl := [(Str.ofString "infile", L' + 1)]) (by with_unfolding_all rfl) rfl (by decide) (fun _ => rfl) ?_
  k_steps
  (with_reducible rename Fr g' L' _ _ => F1)
  (with_reducible rename News g' L' _ _ => N1)
  (with_reducible rename Obj => ocell)
  have hdc : ocell.data = .cell (some (.ref x)) := dc.trans (by with_unfolding_all rfl)
  clear dc
  (with_reducible rename IsRange _ _ _ _ _ _ _ _ => hr)
  rename Heap => H0
  obtain ⟨mm, F1⟩ : ∃ mm, Fr g' L' H0 mm := ⟨_, F1⟩
  refine wpAny_pyIter_range hr (range_small hs.1 hs.2) ?_
  have hsz : Builtin.Range.rangeSize 0 size 1 = size := by
    unfold Builtin.Range.rangeSize
    rw [if_pos (by decide)]
    split
    · rw [Int.ediv_one]; omega
    · omega
  rw [hsz]
  have F2 := F1.push (itObj 0 size)
  have N2 := N1.push F1 (itObj 0 size)
  have ltI : ∀ p ∈ (L' + 1, ocell) :: (x, instObj 80 dx) :: (dx, pDict w l n ta tb tc) :: (l, listOf ws.toArray v) :: rest, p.1 < H0.objs.size := fun p hp => Heap.lt_size (N1 p hp).1
  clear F1 N1
  refine newList_K F2 N2 (fun D hD F3 N3 ltD => ?_)
  refine wpAny_newFunctionEnv (by decide) (by intro y hy; cases hy) (fun hC hns hsb => ?_) rfl
  have F4p := F3.push { cls := .type "dict", data := .dict #[] }
  have N4p := N3.push F3 { cls := .type "dict", data := .dict #[] }
  have ltC : ∀ p ∈ (D, listOf [].toArray 0) :: (H0.objs.size, itObj 0 size) :: (L' + 1, ocell) :: (x, instObj 80 dx) :: (dx, pDict w l n ta tb tc) :: (l, listOf ws.toArray v) :: rest, p.1 < hD.objs.size := fun p hp => Heap.lt_size (N3 p hp).1
  obtain ⟨oC, hoC⟩ : ∃ oC, hC.get? hD.objs.size = some oC := by obtain ⟨o, _, _, ho, _⟩ := hns; exact ⟨o, ho⟩
  have hCL := (N4p _ (.head _)).2
  have F4 := F4p.change hsb hCL.1 hCL.2
  have N4 := news_set (pre := []) N4p (fun p hp => nomatch hp) (fun p hp => Nat.ne_of_lt (ltC p hp)) hsb hoC
  clear F2 N2 F3 N3 F4p N4p
  generalize hI9 : H0.objs.size = I at *
  generalize hC9 : hD.objs.size = C at *
  clear hsb hC9 hI9
  have eCI : C ≠ I := Nat.ne_of_gt (ltC (I, itObj 0 size) (.tail _ (.head _)))
  have eCD : C ≠ D := Nat.ne_of_gt (ltC (D, listOf [].toArray 0) (.head _))
  have eDI : D ≠ I := Nat.ne_of_gt (ltD (I, itObj 0 size) (.head _))
  have offI : ∀ p ∈ (L' + 1, ocell) :: (x, instObj 80 dx) :: (dx, pDict w l n ta tb tc) :: (l, listOf ws.toArray v) :: rest, p.1 ≠ I := fun p hp => Nat.ne_of_lt (ltI p hp)
  have hIx : I ≠ L' ∧ g'.get? I = none := (N4 (I, itObj 0 size) (by simp)).2
  refine codeAny_compStart_list ?lp (wpAny_pyIter_rangeiter (x := 0) (left := size) (step := 1) ((N4 (I, itObj 0 size) (by simp)).1) ?lp)
  refine codeAny_compLoop_tests (fun k s' => ∃ hh tk wr vr oC2 mC tc', ∃ i : Nat, s' = ⟨hh, s.gens, s.drawn, tk, s.os⟩ ∧ Fr g' L' hh mm ∧ News g' L' hh ((C, oC2) :: (D, listOf (List.toArray wr) vr) :: (I, itObj i (size - i)) :: (L' + 1, ocell) :: (x, instObj 80 dx) :: (dx, pDict w l (n + (i : Int)) ta tb tc') :: (l, listOf ws.toArray v) :: rest) ∧
    hh.Ns C mC ∧ IntsAre wr ((octs.drop n.toNat).take i) ∧ i ≤ (octs.drop n.toNat).length ∧ (i : Int) ≤ size ∧ k + i = size.toNat + 1) ?turn (size.toNat + 1)
    ⟨_, _, [], _, _, _, _, 0, rfl, F4, by rw [show n + ((0 : Nat) : Int) = n from Int.add_zero n, show size - ((0 : Nat) : Int) = size by omega]; exact N4, hns, .nil, Nat.zero_le _, hs.1, rfl⟩
  clear F4 N4 hns hoC hCL
  have a1 : dx < I := ltI (dx, pDict w l n ta tb tc) (by simp)
  have a2 : L' + 1 < I := ltI (L' + 1, ocell) (by simp)
  have a3 : I < D := ltD (I, itObj 0 size) (by simp)
  have a4 : D < C := ltC (D, listOf [].toArray 0) (by simp)
  replace a1 := ltN a1
  replace a2 := ltN a2
  replace a3 := ltN a3
  replace a4 := ltN a4
  rintro k s' ⟨hh, tk1, wr, vr, oC2, mC, tc1, i, rfl, F5, N5, hnC, hwr, hi, his, hk⟩
  by_cases hlt : (i : Int) < size
  · refine wpAny_pyNext_range_item (x := i) (left := size - i) (step := 1) ((N5 (I, itObj i (size - i)) (by simp)).1) (by omega) (fun h2 hit2 hs2 => ?_)
    have F6 := F5.change hs2 hIx.1 hIx.2
    have N6 := news_set (pre := [(C, oC2), (D, listOf (List.toArray wr) vr)]) N5 (by
      intro p hp
      rcases List.mem_cons.mp hp with rfl | hp
      · exact eCI
      · rw [List.mem_singleton.mp hp]; exact eDI) (by_addr (P := (· ≠ I)) offI rfl) hs2 hit2
    have hn6 := hnC.sameBut hs2 eCI
    refine wpAny_assign_Name (wpAny_storeName_local (by with_unfolding_all rfl) hn6 (fun h3 hn3 hs3 => ?_) rfl)
    replace hs3 : Heap.SameBut C h2 h3 := hs3
    obtain ⟨mC3, hn3⟩ : ∃ mC3, h3.Ns C mC3 := ⟨_, hn3⟩
    obtain ⟨oC3, hoC3⟩ : ∃ o, h3.get? C = some o := by obtain ⟨o, _, _, ho, _⟩ := hn3; exact ⟨o, ho⟩
    have hCx : C ≠ L' ∧ g'.get? C = none := (N6 (C, oC2) (by simp)).2
    have F7 := F6.change hs3 hCx.1 hCx.2
    have N7 := news_set (pre := []) N6 (fun p hp => nomatch hp) (by_addr (P := (· ≠ C)) (fun p hp => Nat.ne_of_lt (ltC p hp)) rfl) hs3 hoC3
    simp only [List.nil_append, List.cons_append] at N7
    clear F5 F6 N5 N6 hn6
    rw [List.forIn_nil]
    refine wpAny_pure ?_
    rw [if_pos rfl]
    refine wpAny_Call_ofName (nameG_K F7 X' (topRead_of T') (by k_is) ?_ rfl rfl (by with_unfolding_all rfl) (by decide))
    refine callWith_K X' (by k_is) ?_
    walk1
    refine wpAny_Name (wpAny_loadName_cell (c := L' + 1) (by with_unfolding_all rfl) (by with_unfolding_all rfl) (by with_unfolding_all rfl) ⟨ocell, (N7 (L' + 1, ocell) (by simp)).1, hdc⟩ ?_) (by decide)
    iterate 3 walk1
    · (with_reducible rename News g' L' _ _ => N8)
      (with_reducible rename Fr g' L' _ _ => F8)
      (with_reducible rename List.drop _ _ = _ :: _ => hd2)
      obtain ⟨hb0, hb1, hb2⟩ := vi_at hd2 hn
      have hwl : wr.length ≤ 1000 := by rw [hwr.length, List.length_take, List.length_drop]; omega
      refine append_K F8 N8 (.tail eCD (.head (by_addr (P := (· ≠ D)) (fun p hp => Nat.ne_of_lt (ltD p hp)) rfl))) (fun h9 F9 N9 => ?_) (by rw [List.size_toArray, sizeLine_eq]; omega)
      rw [List.push_toArray, show size - (i : Int) - 1 = size - ((i + 1 : Nat) : Int) by omega, show n + (i : Int) + 1 = n + ((i + 1 : Nat) : Int) by omega, show (i : Int) + 1 = ((i + 1 : Nat) : Int) by omega] at N9
      refine ⟨k - 1, by omega, _, _, _, _, _, mC3, _, i + 1, rfl, F9, N9, hn3.at' (fun o e => ?_), ?_, hb0, by omega, by omega⟩
      · rw [hoC3] at e
        cases e
        exact (N9 _ (.head _)).1
      · rw [← hb2]
        exact hwr.append (IntsAre.cons _ _ IntsAre.nil)
    · (with_reducible rename RaisedS base _ _ _ _ _ _ _ _ => R)
      (with_reducible rename Heap.UpToSlots _ _ => U)
      (with_reducible rename List.drop _ _ = [] => hd2)
      (with_reducible rename Fr g' L' _ _ => FG2)
      have hll2 : i = (octs.drop n.toNat).length := by
        have := congrArg List.length hd2
        rw [List.length_drop, List.length_nil] at this
        rw [List.length_drop] at hi ⊢
        omega
      refine note_first (Around.frames_deeper B'.stack) rfl rfl R (noteFrame_frame rfl) fun h5 H sm => ?_
      refine ⟨mC3, hn3.at' (fun o e => by rw [hoC3] at e; cases e; exact held_ns H), fun h9 hs9 => ?_⟩
      refine passes_on rfl (held_but H hs9 (by_addr (P := (· ≠ C)) (fun p hp => Nat.ne_of_lt (ltC p hp)) rfl)) (fun h10 H10 sm10 => ?_)
      refine leave_held rfl FG2 B' H10 (Heap.UpToSlots.trans (fun b o q nf => ?_) sm10) fun h11 R11 U11 => ?_
      · obtain ⟨sl, e2⟩ := (U.trans sm) b o q nf
        exact ⟨sl, (hs9.2 b (fun z => by have z2 : b = C := z; rw [z2, held_none H] at q; cases q)).trans e2⟩
      · rw [hll2] at R11
        exact hE.out _ _ _ _ _ _ (by rw [← hll2]; exact hlt) FG' (raisedS_sub R11 (fun p hp => .tail _ (.tail _ (.tail _ hp)))) U11
  · refine wpAny_pyNext_range_end rfl ((N5 (I, itObj i (size - i)) (by simp)).1) (by omega) (fun h2 he2 => ?_)
    refine ⟨mC, hnC.extBut he2 eCI, fun h3 hs3 => ?_⟩
    replace hs3 : Heap.SameBut C h2 h3 := hs3
    have hCx : C ≠ L' ∧ g'.get? C = none := (N5 (C, oC2) (by simp)).2
    have F9 : Fr g' L' h3 mm := Fr.change ⟨F5.ns.extBut he2 hIx.1.symm, fun b o q => he2 b o (fun z => by rw [z, hIx.2] at q; cases q) (F5.keep b o q), F5.above⟩ hs3 hCx.1 hCx.2
    have hiz : (i : Int) = size := by omega
    have N9 : News g' L' h3 ((D, listOf (List.toArray wr) vr) :: (x, instObj 80 dx) :: (dx, pDict w l (n + (i : Int)) ta tb tc1) :: (l, listOf ws.toArray v) :: rest) := fun p hp => by
      have q : p ∈ (C, oC2) :: (D, listOf (List.toArray wr) vr) :: (I, itObj i (size - i)) :: (L' + 1, ocell) :: (x, instObj 80 dx) :: (dx, pDict w l (n + (i : Int)) ta tb tc1) :: (l, listOf ws.toArray v) :: rest := by
        rcases List.mem_cons.mp hp with z | z
        · rw [z]; exact .tail _ (.head _)
        · exact .tail _ (.tail _ (.tail _ (.tail _ z)))
      have n1 : p.1 ≠ I := by
        rcases List.mem_cons.mp hp with z | z
        · rw [z]; exact eDI
        · exact by_addr (P := (· ≠ I)) (a := (x, instObj 80 dx) :: (dx, pDict w l n ta tb tc) :: (l, listOf ws.toArray v) :: rest) (b := (x, instObj 80 dx) :: (dx, pDict w l (n + (i : Int)) ta tb tc1) :: (l, listOf ws.toArray v) :: rest) (fun p hp => offI p (.tail _ hp)) rfl p z
      have n2 : p.1 ≠ C := by
        rcases List.mem_cons.mp hp with z | z
        · rw [z]; exact eCD.symm
        · exact by_addr (P := (· ≠ C)) (a := (x, instObj 80 dx) :: (dx, pDict w l n ta tb tc) :: (l, listOf ws.toArray v) :: rest) (b := (x, instObj 80 dx) :: (dx, pDict w l (n + (i : Int)) ta tb tc1) :: (l, listOf ws.toArray v) :: rest) (fun p hp => Nat.ne_of_lt (ltC p (.tail _ (.tail _ (.tail _ hp))))) rfl p z
      exact ⟨(hs3.2 _ n2).trans (he2 _ _ n1 (N5 p q).1), (N5 p q).2⟩
    have ltD2 : ∀ p ∈ (x, instObj 80 dx) :: (dx, pDict w l n ta tb tc) :: (l, listOf ws.toArray v) :: rest, p.1 < D := fun p hp => ltD p (.tail _ (.tail _ hp))
    clear F5 N5
    replace ltD2 := Shut.mk ltD2
    k_steps
    (with_reducible rename News h₀ L _ _ => N10)
    (with_reducible rename Fr h₀ L _ _ => F10)
    rw [hiz] at N10
    rw [show i = size.toNat by omega] at hwr
    exact hQ.out _ _ _ _ _ _ (by omega) F10 N10 ltD2.out hwr
end Mine

-- Rf
open PySem PySem.W PyProof.Rows PySem.Calls
set_option Elab.async false
set_option maxRecDepth 100000
set_option maxHeartbeats 4000000
namespace Mine
theorem fresh_Rf : True := by
  w_top off
  trivial
local macro_rules | `(tactic| k_room) => `(tactic| ((try simp only [depth_under_make, depth_under_kw, depth_in1, depth_deeper, depth_caller]); omega))
local macro_rules | `(tactic| k_all) => `(tactic| assumption)
theorem raise_ownG {prog : Program} {w : World} {A : Around} {E : Value → Shared → Prop} {s : Shared} {env : Env} {h₀ : Heap} {x : Str} {C : Addr} {bm : List Value} {B newId initId : String} {mg : Str → Option Value} {np cpos pos : Pos} {e₀ : Expr} {rest : List Expr} {Q : Flow → Shared → Prop}
    (O : OwnCls x C bm newId mg h₀) (FB : ExcBaseFacts B newId initId bm) (hh : A.handled = none) (hev : ∀ Q' E', Q' (.ref C) s → wpAny (model prog w) A (eval (.Name x np) env) Q' E' s)
    (h : wpAny (model prog w) A (spliced (backTo cpos (starEach (e₀ :: rest) env))) (fun vs s₂ => vs.length ≤ sizeLine ∧ (∀ b o, h₀.get? b = some o → s₂.heap.get? b = some o) ∧
      ∀ h' e, Heap.MadeExcOf s₂.heap h' e (.ref C) vs → E (.ref e) { s₂ with heap := h' }) E s)
    (he : starEach (e₀ :: rest) env = (false, eval e₀ env) :: starEach rest env) (hplain : (backTo cpos (starEach rest env)).any (·.1) = false) :
    wpAny (model prog w) A (exec (.Raise (some (.Call (.Name x np) (e₀ :: rest) [] cpos)) none pos) env) Q E s := by
  obtain ⟨tl, N, nm, q, bs, hdct, sn, sub, ab, col, dd, k0, k1, k2, k3, k5, mN, hC, hN, hni, T⟩ := O.obj
  refine wpAny_Raise_call_subT (C := C) (nm := nm) (q := q) (N := N) (bs := bs) (bm := tl) (hdct := hdct) (sn := sn) (sub := sub) (ab := ab) (col := col) (dd := dd) (k0 := k0) (k1 := k1) (k2 := k2) (k3 := k3) (k5 := k5)
    FB (mN := mN) (T.hasType FB.hasBase) hh (by rw [he]; show (false || (backTo cpos (starEach rest env)).any (·.1)) = false; rw [hplain]; rfl) hni (hev _ _ ⟨rfl, ?_⟩)
  rw [he] at h ⊢
  exact Calls.evalArgs_plain (wpAny_mono h (fun vs s₂ h₂ => ⟨rfl, h₂.1, h₂.2.1 _ _ hC, hN.keeps h₂.2.1, T.keeps h₂.2.1, h₂.2.2⟩) fun _ _ y => y)
theorem rfault_core {w : World} {A₀ : Around} {d u : Nat} {gs : Option (List Code)} {base h₀ : Heap} {env : Env} {outer : List Env} {L : Addr} {m mg mb : Str → Option Value} {s : Shared} {loose : List Str} {mean : ExcName → Option Value} {E : Value → Shared → Prop} {Q : Value → Shared → Prop} {rest : List (Addr × Obj)} {x dx l : Addr} {ws : List Value} {octs : List Int} {v : Nat} {n : Int} {ta tb tc : Tok} {ts : Tok}
    (B : Below A₀ base outer h₀) (F : Fr h₀ L s.heap m) (X : (hd.heap_39 w.params).In h₀) (N : News h₀ L s.heap ((x, instObj 80 dx) :: (dx, pDict w l n ta tb tc) :: (l, listOf ws.toArray v) :: rest)) (T : Top hd.view_39 loose mean mg mb h₀)
    (D : KtsDicts (outer.filterMap (·.frame)) h₀)
    (hf : env.frame = some L) (hke : env.scope.kind = .function) (hd : d + 40 < recursionLimit) (hu : u + 200 < cLine)
    (hxd : x ≠ dx) (hld : l ≠ dx) (hoff : ∀ p ∈ rest, p.1 ≠ dx)
    (hI : IntsAre ws octs) (hn : 0 ≤ n) (hlen : octs.length ≤ 1000)
    (hF : ∀ g h' e t vs tk, Fr h₀ L g m → RaisedS base g (env :: outer) e (.ref 37) t vs ((x, instObj 80 dx) :: (dx, pDict w l n ta tb tc) :: (l, listOf ws.toArray v) :: rest) h' → g.UpToSlots h' → E (.ref e) { s with heap := h', toks := tk }) :
    wpAny (model PySem.Challenge.rw_aa6022_01.row.prog w) ⟨none, d, some (env :: outer), gs, u⟩ (call (.ref 103) [.ref x, .int 1000001 ts]) Q E s := by
  revert X; k_fill; intro X
  replace hF := Shut.mk hF
  refine wpAny_call ?_
  refine' code_defC B F X N T rfl hf hke ?k6 ?k7 ?k8 ?k9 ?kB ?kD ?_ ?c2 ?c3 ?c4
  case k6 => k_is
  case k7 => k_is
  case k8 => k_room
  case k9 => first | exact BindsTo.of_eq rfl | exact binds_K (by k_in) rfl (by k_is) rfl rfl rfl
  case kB => exact rfl
  case kD => decide +kernel
  case c2 => exact rfl
  case c3 => exact rfl
  case c4 => exact rfl
  intro g' L' h' tk' cells' FG' F' N' Y' B' X' T' l1
  (try k_lt l1); k_cells Y'; (try simp only [List.cons_append, List.nil_append] at N')
  have D' := dicts_push (env := env) hf D FG'
  (try dsimp only); (try k_lift B'); (try k_fold)
  iterate 9 (try (first | (k_unfold; (try dsimp only)) | (k_end; wrow_close) | walk1 | (dsimp only; walk1) | (leave1; walk_say "STEP leave1"; try dsimp only)))
  (with_reducible rename Fr g' L' _ _ => F1)
  refine raise_ownG (own_of_in X' (topRead_of T') (by k_is) (by k_exc)) PySem.F.excBase_Exception rfl (fun Q' E' hq => nameX_K F1 X' (topRead_of T') (by k_is) hq rfl rfl (by decide)) ?_ rfl rfl
  k_steps
  (with_reducible rename Heap.MadeExcOf _ _ _ _ _ => X1)
  (with_reducible rename News g' L' _ _ => N2)
  (with_reducible rename Fr g' L' _ _ => F2)
  refine leave_made (Around.frames_deeper B'.stack) rfl (by intro z; cases z) B' X1 F2 N2 fun h2 t2 R2 U2 => ?_
  exact hF.out _ _ _ _ _ _ FG' (raisedS_sub R2 (fun p hp => .tail _ hp)) U2
end Mine

-- Ge3
open PySem PySem.W PyProof.Rows PySem.Calls
set_option Elab.async false
set_option maxRecDepth 100000
set_option maxHeartbeats 1000000
namespace Mine
theorem fresh_Ge3 : True := by
  w_top off
  trivial
local macro_rules | `(tactic| walk_at "no such key") => `(tactic| skip)
section
variable {prog : Program} {w : World} {A A₀ : Around} {E : Value → Shared → Prop} {s' : Shared} {base g G g₀ : Heap} {env : Env} {outer : List Env} {L e t : Addr} {m : Str → Option Value} {Q : Flow → Shared → Prop} {news : List (Addr × Obj)} {cls c : Value} {vs : List Value}
  {x : Str} {np pos : Pos} {b₀ : Stmt} {suite body : List Stmt} {rest hs : List ExceptHandler} {nm : Option Str} {KF : Frag} {p : Program} {loose : List Str} {mean : ExcName → Option Value} {mg mb : Str → Option Value}

theorem frames_same (hf : env.frame = some L) {n : Str} {sc : Scope} {a : Addr} {cd : Value} : (env :: outer).filterMap (·.frame) = (envOf n sc L a cd :: outer).filterMap (·.frame) := by
  rw [List.filterMap_cons, List.filterMap_cons, hf]; rfl
theorem ground_any {B h₅ : Heap} (hf : env.frame = some L) (K : Below A₀ base outer g) (F : Fr g L G m) (hBG : ∀ b o, G.get? b = some o → b ∉ (env :: outer).filterMap (·.frame) → B.get? b = some o) (hBh : B.StaysIn h₅) (hsm : G.UpToSlots h₅) :
    ∃ g', KtsTurn (outer.filterMap (·.frame)) g g' ∧ Fr g' L h₅ m ∧ Below A₀ base outer g' :=
  kts_ground (name := Str.ofString "") (scope := env.scope) (a := 0) (cd := .none) K F (fun b o q nm => hBG b o q (by rw [frames_same hf]; exact nm)) hBh hsm
theorem fresh_any {B : Heap} {b : Addr} (hf : env.frame = some L) (F : Fr g L G m) (hBG : ∀ b o, G.get? b = some o → b ∉ (env :: outer).filterMap (·.frame) → B.get? b = some o) (hb : B.get? b = none)
    (hnf : ∀ o, g.get? b = some o → b ∈ outer.filterMap (·.frame) → False) : g.get? b = none :=
  kts_fresh (name := Str.ofString "") (scope := env.scope) (a := 0) (cd := .none) F (fun b o q nm => hBG b o q (by rw [frames_same hf]; exact nm)) hb hnf

theorem look_any (hfr : A.frames = some (env :: outer)) (hf : env.frame = some L) (R : RaisedS base G (env :: outer) e cls t vs news s'.heap) (U : G.UpToSlots s'.heap)
    (k : ∀ h', RaisedS base G (env :: outer) e cls t vs news h' → G.UpToSlots h' → wpAny (model prog w) A (handleBy (.ref e) env hs) Q E { s' with heap := h' }) :
    wpAny (model prog w) A (noteFrame (.ref e) env) (fun _ s₂ => wpAny (model prog w) A (setFlight (.ref e) none) (fun _ s₃ => wpAny (model prog w) A (handleBy (.ref e) env hs) Q E s₃) E s₂) E s' := by
  obtain ⟨⟨B, h1, h2, h3, h4, h5⟩, h6⟩ := R
  refine wpAny_looks_onW hfr hf h4 fun h' hh sm => wpAny_landsW hh fun h'' hfl sm2 => ?_
  exact k h'' ⟨⟨B, h1, h2, h3, hfl, h5⟩, h6.of_slots (sm.trans sm2)⟩ (U.trans (sm.trans sm2))

/-- the clause's name stands for the class c, and the test says b -/
def NameTest (prog : Program) (w : World) (K : Frag) (p : Program) (loose : List Str) (mg mb : Str → Option Value) (env : Env) (L : Addr) (x : Str) (np : Pos) (cls c : Value) (b : Bool) : Prop :=
  (∀ (A : Around) (Q : Value → Shared → Prop) (E : Value → Shared → Prop) (s : Shared) (g : Heap) (m : Str → Option Value), Fr g L s.heap m → K.In g → TopRead p loose mg mb g → Q c s → wpAny (model prog w) A (eval (.Name x np) env) Q E s) ∧ exmOne K cls c = some b

theorem pass_any (hf : env.frame = some L) (R : RaisedS base G (env :: outer) e cls t vs news s'.heap) (F : Fr g L G m) (K : Below A₀ base outer g) (U : G.UpToSlots s'.heap) (XB : KF.In base) (TB : Top p loose mean mg mb base)
    (T : NameTest prog w KF p loose mg mb env L x np cls c false)
    (k : wpAny (model prog w) A (handleBy (.ref e) env rest) Q E s') :
    wpAny (model prog w) A (handleBy (.ref e) env (.ExceptHandler (some (.Name x np)) nm body pos :: rest)) Q E s' := by
  have R' := R
  obtain ⟨⟨B, h1, h2, h3, h4, h5⟩, h6⟩ := R'
  obtain ⟨g₅, T₅, F₅, K₅⟩ := ground_any hf K F h2 h4.1 U
  have X₅ := XB.keeps K₅.stays
  refine wpAny_handleBy_cons (codeAny_handlers_test (T.1 _ _ _ _ g₅ m F₅ X₅ (topRead_of (TB.keeps K₅.stays)) ?_)) (by intro q; cases q)
  exact (exm_one (X₅.keeps F₅.keep) R.toSN.ty T.2).here k

theorem hit_any (hf : env.frame = some L) (R : RaisedS base G (env :: outer) e cls t vs news s'.heap) (F : Fr g L G m) (K : Below A₀ base outer g) (U : G.UpToSlots s'.heap) (XB : KF.In base) (TB : Top p loose mean mg mb base)
    (D : KtsDicts (outer.filterMap (·.frame)) g) (T0 : KtsTurn (outer.filterMap (·.frame)) g₀ g) (T : NameTest prog w KF p loose mg mb env L x np cls c true)
    (k : ∀ h' g', KtsTurn (outer.filterMap (·.frame)) g₀ g' → Fr g' L h' m → News g' L h' news → Below A₀ base outer g' → KF.In g' → Top p loose mean mg mb g' → KtsDicts (outer.filterMap (·.frame)) g' →
      wpAny (model prog w) (A.mark (some (.ref e))) (execs (b₀ :: suite) env) Q E { s' with heap := h' })
    (hE : PassesOwnAt (model prog w) (A.mark (some (.ref e))) A env E) :
    wpAny (model prog w) A (handleBy (.ref e) env (.ExceptHandler (some (.Name x np)) none (b₀ :: suite) pos :: rest)) Q E s' := by
  have R' := R
  obtain ⟨⟨B, h1, h2, h3, h4, h5⟩, h6⟩ := R'
  obtain ⟨g₅, T₅, F₅, K₅⟩ := ground_any hf K F h2 h4.1 U
  have X₅ := XB.keeps K₅.stays
  have hL : B.get? L = none := by
    obtain ⟨_, ⟨L', _, hf', hn', _⟩, _⟩ := h4.2.2.1
    rw [hf] at hf'
    obtain rfl := Option.some.inj hf'
    exact hn'
  refine wpAny_handleBy_cons (codeAny_handlers_test (T.1 _ _ _ _ g₅ m F₅ X₅ (topRead_of (TB.keeps K₅.stays)) ?_)) (by intro q; cases q)
  refine (exm_one (X₅.keeps F₅.keep) R.toSN.ty T.2).here (codeAny_handlers_suite (lands_againW h4 fun h₆ hfl sm => ?_))
  obtain ⟨g₆, T₆, F₆, K₆⟩ := ground_any hf K F h2 hfl.1 (U.trans sm)
  exact wpAny_passesOwnAt hE (k h₆ g₆ (T0.trans T₆) F₆ (fun q hq => ⟨hfl.1 _ _ (h3 q hq).1, (fun z => by have := (h3 q hq).1; rw [z, hL] at this; cases this), T₆.none_ _ (kts_none F.keep (h3 q hq).2.1)⟩) K₆ (XB.keeps K₆.stays) (TB.keeps K₆.stays) (D.turn T₆))
end

section
variable {prog : Program} {w : World} {A₀ A : Around} {s : Shared} {base h₀ : Heap} {outer : List Env} {L : Addr} {m : Str → Option Value} {env : Env} {news : List (Addr × Obj)} {K : Frag} {p : Program} {loose : List Str} {mean : ExcName → Option Value} {mg mb : Str → Option Value}
    {R : Result → Shared → Prop} {name qual : Str} {params : Arguments} {body : List Stmt} {scope : Scope} {dV kV doc pm cdv ct oc : Value} {an od : Option Addr} {osl : Array (Option Value)} {f : Addr} {args : Args} {binds : List (Str × Value)}

/-- leaving a callee whose base may have been turned -/
def LeaveT (A₀ : Around) (base : Heap) (env : Env) (outer : List Env) (K : Frag) (p : Program) (loose : List Str) (mean : ExcName → Option Value) (mg mb : Str → Option Value) (h₀ : Heap) (L : Addr) (m : Str → Option Value) (g : Heap) (R : Result → Shared → Prop) (v : Value) (s' : Shared) : Prop :=
  ∃ g2 L' m' news', KtsTurn ((env :: outer).filterMap (·.frame)) g g2 ∧ Fr g2 L' s'.heap m' ∧ News g2 L' s'.heap news' ∧ ∀ h₀', KtsTurn (outer.filterMap (·.frame)) h₀ h₀' → Fr h₀' L s'.heap m → News h₀' L s'.heap news' → Below A₀ base outer h₀' → K.In h₀' → Top p loose mean mg mb h₀' →
    KtsDicts (outer.filterMap (·.frame)) h₀' → R (.ok (.ret v)) s'

theorem turn_back {g : Heap} (hf : env.frame = some L) (B : Below A₀ base outer h₀) (XB : K.In base) (TB : Top p loose mean mg mb base) (D : KtsDicts (outer.filterMap (·.frame)) h₀) (FG : Fr h₀ L g m) {v : Value} {s' : Shared}
    (H : LeaveT A₀ base env outer K p loose mean mg mb h₀ L m g R v s') : R (.ok (.ret v)) s' := by
  obtain ⟨g2, L', m', news', T', F', N', k⟩ := H
  have nL : h₀.get? L = none := frame_self FG
  obtain ⟨oL, es, ep, hLg, hLd, hLk, hLf⟩ := FG.ns
  obtain ⟨slL, hsL⟩ := T'.up hLg
  have low : ∀ b o, h₀.get? b = some o → b ∉ outer.filterMap (·.frame) → s'.heap.get? b = some o := fun b o q nm => F'.keep b o (T'.other b o (FG.keep b o q) fun hm => by
    rcases frame_cases hf hm with z | z
    · rw [z, nL] at q; cases q
    · exact nm z)
  obtain ⟨T₁, S₁⟩ := kts_turn_at (h := s'.heap) (fs := outer.filterMap (·.frame)) (g := h₀)
    (fun b hb => let ⟨_, o, ho, _⟩ := B.frames.mem hb; ⟨o, ho⟩) low
    (fun b o q _ => let ⟨sl, hs⟩ := T'.up (FG.keep b o q); ⟨sl, F'.keep _ _ hs⟩)
  have B₃ : Below A₀ base outer (ktsHeap s'.heap (outer.filterMap (·.frame)) h₀) := ⟨B.stack, fun b o q => T₁.other b o (B.stays b o q) (fun hm => by rw [(B.frames.mem hm).1] at q; cases q),
    B.frames.of_keeps fun b o q _ => let ⟨sl, hs⟩ := T₁.up q; ⟨_, hs, rfl⟩⟩
  refine k _ T₁ ⟨⟨_, es, ep, F'.keep _ _ hsL, hLd, hLk, hLf⟩, S₁, by rw [T₁.size]; exact FG.above⟩ (fun q hq => ⟨(N' q hq).1, fun z => ?_, T₁.none_ _ ?_⟩) B₃ (XB.keeps B₃.stays) (TB.keeps B₃.stays) (D.turn T₁)
  · have := (N' q hq).2.2; rw [z, hsL] at this; cases this
  · cases z : h₀.get? q.1 with
    | none => rfl
    | some o =>
      obtain ⟨sl, hs⟩ := T'.up (FG.keep _ _ z)
      have := (N' q hq).2.2
      rw [hs] at this; cases this

theorem code_plainT (B : Below A₀ base outer h₀) (F : Fr h₀ L s.heap m) (X₀ : K.In h₀) (N : News h₀ L s.heap news) (T : Top p loose mean mg mb h₀) (XB : K.In base) (TB : Top p loose mean mg mb base) (D : KtsDicts (outer.filterMap (·.frame)) h₀)
    (hA : A.frames = some (env :: outer)) (hf : env.frame = some L) (hke : env.scope.kind = .function)
    (ho : K.lookup f = some ⟨oc, od, .func (fnOf name qual params body scope dV kV doc pm an cdv ct), osl⟩) (hcd : codeIn K cdv qual = true) (hroom : A.depth < recursionLimit)
    (hbind : BindsTo s (fnOf name qual params body scope dV kV doc pm an cdv ct) args binds) (hloc : ∀ y ∈ binds, scope.names.lookup y.1 = some .local)
    (h : ∀ g L' h₁, Fr h₀ L g m → Fr g L' h₁ (fun y => binds.reverse.lookup y) → News g L' h₁ news → Below A base (env :: outer) g → K.In g → Top p loose mean mg mb g → KtsDicts ((env :: outer).filterMap (·.frame)) g →
      wpAny (model prog w) (A.deeper (envOf qual scope L' f cdv)) (execs body (envOf qual scope L' f cdv))
        (fun fl s' => LeaveT A₀ base env outer K p loose mean mg mb h₀ L m g R (match fl with | .ret v => v | _ => .none) s')
        (fun e s' => wpAny (model prog w) (A.deeper (envOf qual scope L' f cdv)) (leaving (envOf qual scope L' f cdv) e) (fun _ s'' => R (.error e) s'') (fun e' s'' => R (.error e') s'') s')
        { s with heap := h₁, toks := s.toks + binds.length })
    (hco : scope.isCoroutine = false) (hgen : scope.isGenerator = false) (hk : scope.kind = .function) (hcell : ∀ x ∈ scope.names, x.2 ≠ .cell) : codeAny (model prog w) A (.call (.ref f) args) R s := by
  obtain ⟨FG, BG, st, _⟩ := groundX (R := R) B F N hA hf hke
  refine codeAny_call_def (fd := fnX name qual params body scope [] dV kV doc pm an cdv ct) (body := body) (binds := binds) hroom ((X₀.keeps F.keep) _ _ ho) rfl (T.nolimit.keeps F.keep) (codeRec_of (X₀.keeps F.keep) hcd) rfl hbind hcell hloc (fun h₁ hns hk₁ => ?_) hco hgen hk
  refine wpAny_mono (h _ s.heap.objs.size h₁ FG ⟨hns, fun b o q => hk₁ b o (of_hideAll _ q), Nat.le_of_eq (hideAll_size _ _)⟩
    (fun q hq => ⟨hk₁ _ _ (N q hq).1, Nat.ne_of_lt (Heap.lt_size (N q hq).1), hideAll_none _ (List.mem_map_of_mem hq)⟩) BG (X₀.keeps st) (T.keeps st) (dicts_push hf D FG)) (fun fl s' hl => turn_back hf B XB TB D FG hl) fun _ _ y => y

theorem code_cellsT (B : Below A₀ base outer h₀) (F : Fr h₀ L s.heap m) (X₀ : K.In h₀) (N : News h₀ L s.heap news) (T : Top p loose mean mg mb h₀) (XB : K.In base) (TB : Top p loose mean mg mb base) (D : KtsDicts (outer.filterMap (·.frame)) h₀)
    (hA : A.frames = some (env :: outer)) (hf : env.frame = some L) (hke : env.scope.kind = .function)
    (ho : K.lookup f = some ⟨oc, od, .func (fnOf name qual params body scope dV kV doc pm an cdv ct), osl⟩) (hcd : codeIn K cdv qual = true) (hroom : A.depth < recursionLimit)
    (hbind : BindsTo s (fnOf name qual params body scope dV kV doc pm an cdv ct) args binds) (hkind : (binds.all fun y => scope.names.lookup y.1 == some .local || scope.names.lookup y.1 == some .cell) = true)
    (hnd : ((cellsFrom 0 scope.names []).map (·.1)).Nodup)
    (h : ∀ g L' h₁ tk cells, Fr h₀ L g m → Fr g L' h₁ (bindL (envOfC qual scope L' f cdv).kindOf binds fun _ => none) → News g L' h₁ (cells ++ news) →
      CellsAre (bindC (envOfC qual scope L' f cdv).kindOf binds fun _ => none) (cellsFrom (L' + 1) scope.names []) cells → Below A base (env :: outer) g → K.In g → Top p loose mean mg mb g → KtsDicts ((env :: outer).filterMap (·.frame)) g → (∀ p ∈ news, p.1 < L') →
      wpAny (model prog w) (A.deeper (envOfC qual scope L' f cdv)) (execs body (envOfC qual scope L' f cdv))
        (fun fl s' => LeaveT A₀ base env outer K p loose mean mg mb h₀ L m g R (match fl with | .ret v => v | _ => .none) s')
        (fun e s' => wpAny (model prog w) (A.deeper (envOfC qual scope L' f cdv)) (leaving (envOfC qual scope L' f cdv) e) (fun _ s'' => R (.error e) s'') (fun e' s'' => R (.error e') s'') s')
        { s with heap := h₁, toks := tk })
    (hco : scope.isCoroutine = false) (hgen : scope.isGenerator = false) (hk : scope.kind = .function) : codeAny (model prog w) A (.call (.ref f) args) R s := by
  obtain ⟨FG, BG, st, _⟩ := groundX (R := R) B F N hA hf hke
  refine codeAny_call_function hroom ((X₀.keeps F.keep) _ _ ho) rfl hco hgen rfl (codeRec_of (X₀.keeps F.keep) hcd) (hbind _ _ _ _ ?_)
  refine wpAny_newFunctionEnv_cells hk (kindsX hkind _) fun env' he s' x => ?_
  subst he
  refine ⟨(T.nolimit.keeps F.keep).keeps x.toInCall.keep, codeAny_func ?_⟩
  obtain ⟨h₁, tk, rfl, _⟩ := x.done
  have hk₁ := x.toInCall.keep
  obtain ⟨cells, NC, Y⟩ := Cl.news (h₀ := s.heap) (Nat.le_refl _) fun n c hm => ⟨x.cell n c (lookup_of_mem_nodup (cellsFrom_names scope.names 0 (s.heap.objs.size + 1) [] [] rfl ▸ hnd) hm), x.above n c hm⟩
  refine wpAny_mono (h _ s.heap.objs.size h₁ tk cells FG ⟨x.toInCall.ns, fun b o q => hk₁ b o (of_hideAll _ q), Nat.le_of_eq (hideAll_size _ _)⟩ (fun q hq => ?_) Y BG (X₀.keeps st) (T.keeps st) (dicts_push hf D FG) (fun q hq => Heap.lt_size (N q hq).1))
    (fun fl s' hl => turn_back hf B XB TB D FG hl) fun _ _ y => y
  rcases List.mem_append.mp hq with hq | hq
  · refine ⟨(NC q hq).1, (NC q hq).2.1, ?_⟩
    cases z : (hideAll s.heap (news.map (·.1))).get? q.1 with
    | none => rfl
    | some o => have := of_hideAll _ z; rw [(NC q hq).2.2] at this; cases this
  · exact ⟨hk₁ _ _ (N q hq).1, Nat.ne_of_lt (Heap.lt_size (N q hq).1), hideAll_none _ (List.mem_map_of_mem hq)⟩
end
end Mine

-- Fh
open PySem PySem.W PyProof.Rows PySem.Calls
set_option Elab.async false
set_option maxRecDepth 100000
set_option maxHeartbeats 4000000
namespace Mine
theorem fresh_Fh : True := by
  w_top off
  trivial
local macro_rules | `(tactic| walk_at "no such key") => `(tactic| skip)
local macro_rules | `(tactic| walk_at "no such key") => `(tactic| skip)
local macro_rules | `(tactic| k_room) => `(tactic| ((try simp only [depth_under_make, depth_under_kw, depth_in1, depth_deeper, depth_caller]); omega))
local macro_rules | `(tactic| k_all) => `(tactic| assumption)
local macro_rules | `(tactic| walk_at "call ref") => `(tactic| ((with_reducible show wpAny _ _ (call (Value.ref 110) _) _ _ _); k_dflt (refine' chunk_spec ?B ?F ?X ?N ?T ?D ?hf ?hke ?hd ?hu ?hx ?hl ?U ?hI ?hn ?hlen ?hb ?_ ?_; (case F => k_asm); (case B => k_asm); (case X => k_asm); (case N => k_asm); (case T => k_asm); (case D => k_asm); (case hf => exact rfl); (case hke => exact rfl); (case hd => first | omega | ((try simp only [depth_under_make, depth_under_kw, depth_in1, depth_deeper, depth_caller]); (try dsimp only); omega) | decide); (case hu => first | omega | ((try simp only [Around.deeper_units, Around.in1_units]); (try dsimp only); omega) | decide); (case hx => k_mem); (case U => k_updF); (case hl => k_mem); (case hI => k_asm); (case hn => first | assumption | omega); (case hlen => first | assumption | omega); (case hb => assumption)); (intro P' NM' h' tk' tc' tw' wn' h8' hW' F' N' l1 l2 hI4'; (try k_lt l1); (try k_lt2 l2); (try k_sweep)); rotate_left; (intro g' h' e' t' tk' tc' h8' FG' R' U'); rotate_left))
local macro_rules | `(tactic| walk_at "call ref") => `(tactic| ((with_reducible show wpAny _ _ (call (Value.ref 91) _) _ _ _); k_dflt (refine' short_core ?B ?F ?X ?N ?T ?hf ?hke ?hd ?hu ?ha ?hb ?_; (case F => k_asm); (case B => k_asm); (case X => k_asm); (case N => k_asm); (case T => k_asm); (case hf => exact rfl); (case hke => exact rfl); (case hd => first | omega | ((try simp only [depth_under_make, depth_under_kw, depth_in1, depth_deeper, depth_caller]); (try dsimp only); omega) | decide); (case hu => first | omega | ((try simp only [Around.deeper_units, Around.in1_units]); (try dsimp only); omega) | decide); (case ha => exact byte_at (by assumption) _ _ _); (case hb => exact byte_at (by assumption) _ _ _)); intro h' tk' t' F' N'; (try k_sweep)))
def gotOf (r : List Int) : Int := min (wordOf r) ((r.length : Int) - 8)
theorem data_run {octs : List Int} {n : Int} (hn : 0 ≤ n) (hw : 0 ≤ wordOf (octs.drop n.toNat)) :
    List.take (min (n + 8 + wordOf (List.drop n.toNat octs)).toNat octs.length - (n + 8).toNat) (List.drop (n + 8).toNat octs) = ((octs.drop n.toNat).drop 8).take (wordOf (octs.drop n.toNat)).toNat := by
  rw [take_run octs (n + 8) _ (by omega) hw, List.drop_drop, show (n + 8).toNat = n.toNat + 8 by omega]
theorem data_len {r : List Int} (h8 : 8 ≤ r.length) (hw : 0 ≤ wordOf r) : (((r.drop 8).take (wordOf r).toNat).length : Int) = gotOf r := by
  rw [List.length_take, List.length_drop]
  unfold gotOf
  omega
theorem data_at {r : List Int} (h8 : 8 ≤ r.length) (hw : 0 ≤ wordOf r) (h6 : 6 ≤ gotOf r) (i : Nat) (hi : i < 6) : ((r.drop 8).take (wordOf r).toNat).getD i 0 = r.getD (8 + i) 0 := by
  unfold gotOf at h6
  simp only [List.getD_eq_getElem?_getD, List.getElem?_take, List.getElem?_drop]
  rw [if_pos (by omega)]
theorem fhead_core {w : World} {A₀ : Around} {d u : Nat} {gs : Option (List Code)} {base h₀ : Heap} {env : Env} {outer : List Env} {L : Addr} {m mg mb : Str → Option Value} {s : Shared} {loose : List Str} {mean : ExcName → Option Value} {E : Value → Shared → Prop} {Q : Value → Shared → Prop} {rest : List (Addr × Obj)} {x dx l : Addr} {ws : List Value} {octs : List Int} {v : Nat} {n : Int} {ta tb tc : Tok}
    (B : Below A₀ base outer h₀) (F : Fr h₀ L s.heap m) (X : (hd.heap_39 w.params).In h₀) (N : News h₀ L s.heap ((x, instObj 80 dx) :: (dx, pDict w l n ta tb tc) :: (l, listOf ws.toArray v) :: rest)) (T : Top hd.view_39 loose mean mg mb h₀)
    (D : KtsDicts (outer.filterMap (·.frame)) h₀)
    (hf : env.frame = some L) (hke : env.scope.kind = .function) (hd : d + 40 < recursionLimit) (hu : u + 200 < cLine)
    (hxd : x ≠ dx) (hld : l ≠ dx) (hoff : ∀ p ∈ rest, p.1 ≠ dx)
    (hI : IntsAre ws octs) (hn : 0 ≤ n) (hlen : octs.length ≤ 1000)
    (hb : ∀ b ∈ octs, 0 ≤ b ∧ b < 256)
    (hQ : ∀ P h' tk tc' t1 t2 t3, 8 ≤ (octs.drop n.toNat).length → (octs.drop n.toNat).take 4 = [77, 84, 104, 100] → 6 ≤ gotOf (octs.drop n.toNat) → Fr h₀ L h' m →
      News h₀ L h' ((P, { cls := .type "tuple", data := .seq #[.int (shortOf ((octs.drop n.toNat).getD 8 0) ((octs.drop n.toNat).getD 9 0)) t1, .int (shortOf ((octs.drop n.toNat).getD 10 0) ((octs.drop n.toNat).getD 11 0)) t2, .int (shortOf ((octs.drop n.toNat).getD 12 0) ((octs.drop n.toNat).getD 13 0)) t3] }) :: (x, instObj 80 dx) :: (dx, pDict w l (n + 8 + gotOf (octs.drop n.toNat)) ta tb tc') :: (l, listOf ws.toArray v) :: rest) →
      (∀ p ∈ ((x, instObj 80 dx) :: (dx, pDict w l n ta tb tc) :: (l, listOf ws.toArray v) :: rest), p.1 < P) → Q (.ref P) { s with heap := h', toks := tk })
    (hE : ∀ g h' e t tk tc' pl, ((octs.drop n.toNat).length < 8 ∧ pl = n + (octs.drop n.toNat).length ∨ 8 ≤ (octs.drop n.toNat).length ∧ (octs.drop n.toNat).take 4 = [77, 84, 104, 100] ∧ gotOf (octs.drop n.toNat) < 6 ∧ pl = n + 8 + gotOf (octs.drop n.toNat)) → Fr h₀ L g m → RaisedS base g (env :: outer) e (.ref 24) t [] ((x, instObj 80 dx) :: (dx, pDict w l (pl) ta tb tc') :: (l, listOf ws.toArray v) :: rest) h' → g.UpToSlots h' →
      E (.ref e) { s with heap := h', toks := tk })
    (hF : ∀ g h' e t vs tk tc', 8 ≤ (octs.drop n.toNat).length → ¬ (octs.drop n.toNat).take 4 = [77, 84, 104, 100] → Fr h₀ L g m → RaisedS base g (env :: outer) e (.ref 37) t vs ((x, instObj 80 dx) :: (dx, pDict w l (n + 8) ta tb tc') :: (l, listOf ws.toArray v) :: rest) h' → g.UpToSlots h' →
      E (.ref e) { s with heap := h', toks := tk }) :
    wpAny (model PySem.Challenge.rw_aa6022_01.row.prog w) ⟨none, d, some (env :: outer), gs, u⟩ (call (.ref 117) [.ref x]) Q E s := by
  revert X; k_fill; intro X
  replace hQ := Shut.mk hQ
  replace hE := Shut.mk hE
  replace hF := Shut.mk hF
  refine wpAny_call ?_
  refine' code_def B F X N T rfl hf hke ?k6 ?k7 ?k8 ?k9 ?kB ?_ ?c2 ?c3 ?c4 ?c5
  case k6 => k_is
  case k7 => k_is
  case k8 => k_room
  case k9 => first | exact BindsTo.of_eq rfl | exact binds_K (by k_in) rfl (by k_is) rfl rfl rfl
  case kB => exact locs rfl
  case c2 => exact rfl
  case c3 => exact rfl
  case c4 => exact rfl
  case c5 => decide
  intro g' L' h' FG' F' N' B' X' T'
  have D' := dicts_push (env := env) hf D FG'
  (try dsimp only); (try k_lift B'); (try k_fold)
  k_steps
  · (with_reducible rename RaisedS base g' _ _ _ _ _ _ _ => R)
    (with_reducible rename Heap.UpToSlots g' _ => U)
    (with_reducible rename (_ : Int) < 6 => he)
    (with_reducible rename 0 ≤ wordOf _ ∧ _ => hw)
    (with_reducible rename 8 ≤ List.length _ => h8)
    (with_reducible rename List.take 4 _ = _ => h4)
    rw [data_run hn hw.1, data_len h8 hw.1] at he R
    exact hE.out _ _ _ _ _ _ _ (.inr ⟨h8, h4, he, rfl⟩) FG' (raisedS_sub R (fun p hp => .tail _ (.tail _ (.tail _ (.tail _ hp))))) U
  · (with_reducible rename News h₀ L _ _ => N2)
    (with_reducible rename Fr h₀ L _ _ => F2)
    (with_reducible rename ¬ (_ : Int) < 6 => he)
    (with_reducible rename 0 ≤ wordOf _ ∧ _ => hw)
    (with_reducible rename 8 ≤ List.length _ => h8)
    (with_reducible rename List.take 4 _ = _ => h4)
    (with_reducible rename _ ∧ _ ∧ _ ∧ _ ∧ _ ∧ _ ∧ _ ∧ AllLt _ _ => l7)
    rw [data_run hn hw.1, data_len h8 hw.1] at he
    rw [data_run hn hw.1, data_len h8 hw.1, show Int.toNat 0 = 0 from rfl, show Int.toNat 1 = 1 from rfl, show Int.toNat 2 = 2 from rfl, show Int.toNat 3 = 3 from rfl, show Int.toNat 4 = 4 from rfl, show Int.toNat 5 = 5 from rfl,
      data_at h8 hw.1 (by omega) 0 (by decide), data_at h8 hw.1 (by omega) 1 (by decide), data_at h8 hw.1 (by omega) 2 (by decide), data_at h8 hw.1 (by omega) 3 (by decide), data_at h8 hw.1 (by omega) 4 (by decide), data_at h8 hw.1 (by omega) 5 (by decide)] at N2
    refine hQ.out _ _ _ _ _ _ _ h8 h4 (by omega) F2 (News.drop2 (News.drop2 (News.drop2 (News.drop2 N2)))) (fun p hp => ?_)
    exact allLt_all (l := (x, instObj 80 dx) :: (dx, pDict w l n ta tb tc) :: (l, listOf ws.toArray v) :: rest) ⟨l7.2.2.2.2.1, l7.2.2.2.2.2.1, l7.2.2.2.2.2.2.1, l7.2.2.2.2.2.2.2⟩ p hp
  · (with_reducible rename RaisedS base g' _ _ _ _ _ _ _ => R)
    (with_reducible rename Heap.UpToSlots g' _ => U)
    (with_reducible rename 8 ≤ List.length _ => h8)
    (with_reducible rename ¬ List.take 4 _ = _ => h4)
    exact hF.out _ _ _ _ _ _ _ h8 h4 FG' (raisedS_sub R (fun p hp => .tail _ (.tail _ (.tail _ hp)))) U
  · (with_reducible rename RaisedS base g' _ _ _ _ _ _ _ => R)
    (with_reducible rename Heap.UpToSlots g' _ => U)
    (with_reducible rename List.length _ < 8 => h8)
    exact hE.out _ _ _ _ _ _ _ (.inl ⟨h8, rfl⟩) FG' R U
theorem fhead_spec {w : World} {A₀ : Around} {d u : Nat} {gs : Option (List Code)} {base h₀ : Heap} {env : Env} {outer : List Env} {L : Addr} {m mg mb : Str → Option Value} {s : Shared} {loose : List Str} {mean : ExcName → Option Value} {E : Value → Shared → Prop} {Q : Value → Shared → Prop} {news : List (Addr × Obj)} {f : Obj → List (Addr × Obj)} {x dx l : Addr} {ws : List Value} {octs : List Int} {v : Nat} {n : Int} {ta tb tc : Tok}
    (B : Below A₀ base outer h₀) (F : Fr h₀ L s.heap m) (X : (hd.heap_39 w.params).In h₀) (N : News h₀ L s.heap (news)) (T : Top hd.view_39 loose mean mg mb h₀)
    (D : KtsDicts (outer.filterMap (·.frame)) h₀)
    (hf : env.frame = some L) (hke : env.scope.kind = .function) (hd : d + 40 < recursionLimit) (hu : u + 200 < cLine)
    (hx : (x, instObj 80 dx) ∈ news) (hl : (l, listOf ws.toArray v) ∈ news) (U : UpdF dx (pDict w l n ta tb tc) news f)
    (hI : IntsAre ws octs) (hn : 0 ≤ n) (hlen : octs.length ≤ 1000)
    (hb : ∀ b ∈ octs, 0 ≤ b ∧ b < 256)
    (hQ : ∀ P h' tk tc' t1 t2 t3, 8 ≤ (octs.drop n.toNat).length → (octs.drop n.toNat).take 4 = [77, 84, 104, 100] → 6 ≤ gotOf (octs.drop n.toNat) → Fr h₀ L h' m →
      News h₀ L h' ((P, { cls := .type "tuple", data := .seq #[.int (shortOf ((octs.drop n.toNat).getD 8 0) ((octs.drop n.toNat).getD 9 0)) t1, .int (shortOf ((octs.drop n.toNat).getD 10 0) ((octs.drop n.toNat).getD 11 0)) t2, .int (shortOf ((octs.drop n.toNat).getD 12 0) ((octs.drop n.toNat).getD 13 0)) t3] }) :: f (pDict w l (n + 8 + gotOf (octs.drop n.toNat)) ta tb tc')) →
      (∀ p ∈ news, p.1 < P) → Q (.ref P) { s with heap := h', toks := tk })
    (hE : ∀ g h' e t tk tc' pl, ((octs.drop n.toNat).length < 8 ∧ pl = n + (octs.drop n.toNat).length ∨ 8 ≤ (octs.drop n.toNat).length ∧ (octs.drop n.toNat).take 4 = [77, 84, 104, 100] ∧ gotOf (octs.drop n.toNat) < 6 ∧ pl = n + 8 + gotOf (octs.drop n.toNat)) → Fr h₀ L g m → RaisedS base g (env :: outer) e (.ref 24) t [] (f (pDict w l (pl) ta tb tc')) h' → g.UpToSlots h' →
      E (.ref e) { s with heap := h', toks := tk })
    (hF : ∀ g h' e t vs tk tc', 8 ≤ (octs.drop n.toNat).length → ¬ (octs.drop n.toNat).take 4 = [77, 84, 104, 100] → Fr h₀ L g m → RaisedS base g (env :: outer) e (.ref 37) t vs (f (pDict w l (n + 8) ta tb tc')) h' → g.UpToSlots h' →
      E (.ref e) { s with heap := h', toks := tk }) :
    wpAny (model PySem.Challenge.rw_aa6022_01.row.prog w) ⟨none, d, some (env :: outer), gs, u⟩ (call (.ref 117) [.ref x]) Q E s := by
  obtain ⟨rest, hoff, hin, hout⟩ := ledger_split hx hl U
  have N' := News.sub N hin
  obtain ⟨hxd, hld⟩ := paper_apart N'
  have hadr : ∀ p ∈ news, ∃ q ∈ (x, instObj 80 dx) :: (dx, pDict w l n ta tb tc) :: (l, listOf ws.toArray v) :: rest, q.1 = p.1 := fun p hp => by
    by_cases e : p.1 = dx
    · exact ⟨_, .tail _ (.head _), e.symm⟩
    · obtain ⟨pre, post, rfl, hf', a, b⟩ := U.split
      have : p ∈ f (pDict w l n ta tb tc) := by rw [hf']; exact hp
      exact ⟨p, hout _ p this, rfl⟩
  exact fhead_core B F X N' T D hf hke hd hu hxd hld hoff hI hn hlen hb (fun P h' tk tc' t1 t2 t3 e1 e2 e3 F' N' lt => hQ P h' tk tc' t1 t2 t3 e1 e2 e3 F' (News.sub N' (fun p hp => by
      rcases List.mem_cons.mp hp with rfl | hp
      · exact .head _
      · exact .tail _ (hout _ p hp))) (fun p hp => by obtain ⟨q, hq, e⟩ := hadr p hp; rw [← e]; exact lt q hq))
    (fun g h' e t tk tc' pl z FG R U => hE g h' e t tk tc' pl z FG (raisedS_sub R (hout _)) U)
    (fun g h' e t vs tk tc' z1 z2 FG R U => hF g h' e t vs tk tc' z1 z2 FG (raisedS_sub R (hout _)) U)
end Mine

-- Hd2
open PySem PySem.W PyProof.Rows PySem.Calls
set_option Elab.async false
set_option maxRecDepth 100000
set_option maxHeartbeats 1000000
namespace Mine
theorem fresh_Hd2 : True := by
  w_top off
  trivial
abbrev headVals : List Value := [.int 77 346, .int 84 347, .int 104 348, .int 100 349]
theorem head_ints : IntsAre headVals [77, 84, 104, 100] := .cons _ _ (.cons _ _ (.cons _ _ (.cons _ _ .nil)))
theorem head_list {w : World} {h : Heap} (X : (hd.heap_39 w.params).In h) : h.IsList 132 headVals.toArray := ⟨_, X 132 _ (by with_unfolding_all rfl), rfl, 0, rfl⟩
theorem eq_head {w : World} {A : Around} {E : Value → Shared → Prop} {s : Shared} {h₀ : Heap} {L a : Addr} {m : Str → Option Value} {vs : List Value} {ns : List Int} {Q : Value → Shared → Prop} (F : Fr h₀ L s.heap m) (X : (hd.heap_39 w.params).In h₀)
    (hl : s.heap.IsList a vs.toArray) (hi : IntsAre vs ns) (hu : A.units + 64 < cLine) (h : Q (.bool (decide (ns = [77, 84, 104, 100]))) s) :
    wpAny (model PySem.Challenge.rw_aa6022_01.row.prog w) A (compareOp .Eq (.ref a) (.ref 132)) Q E s :=
  eq_intsK hl hi (head_list (X.keeps F.keep)) head_ints hu h
theorem ne_head {w : World} {A : Around} {E : Value → Shared → Prop} {s : Shared} {h₀ : Heap} {L a : Addr} {m : Str → Option Value} {vs : List Value} {ns : List Int} {Q : Value → Shared → Prop} (F : Fr h₀ L s.heap m) (X : (hd.heap_39 w.params).In h₀)
    (hl : s.heap.IsList a vs.toArray) (hi : IntsAre vs ns) (hu : A.units + 64 < cLine) (h : Q (.bool (!decide (ns = [77, 84, 104, 100]))) s) :
    wpAny (model PySem.Challenge.rw_aa6022_01.row.prog w) A (compareOp .NotEq (.ref a) (.ref 132)) Q E s :=
  ne_intsK hl hi (head_list (X.keeps F.keep)) head_ints hu h
end Mine

-- Sq
open PySem PySem.W PyProof.Rows PySem.Calls
set_option Elab.async false
set_option maxRecDepth 100000
set_option maxHeartbeats 4000000
namespace Mine
theorem fresh_Sq : True := by
  w_top off
  trivial
local macro_rules | `(tactic| walk_at "no such key") => `(tactic| skip)
local macro_rules | `(tactic| k_room) => `(tactic| ((try simp only [depth_under_make, depth_under_kw, depth_in1, depth_deeper, depth_caller]); omega))
local macro_rules | `(tactic| k_all) => `(tactic| assumption)
theorem lword_core {w : World} {A₀ : Around} {d u : Nat} {gs : Option (List Code)} {base h₀ : Heap} {env : Env} {outer : List Env} {L : Addr} {m mg mb : Str → Option Value} {s : Shared} {loose : List Str} {mean : ExcName → Option Value} {E : Value → Shared → Prop} {Q : Value → Shared → Prop} {rest : List (Addr × Obj)} {D : Addr} {ws : List Value} {r : List Int} {v : Nat}
    (B : Below A₀ base outer h₀) (F : Fr h₀ L s.heap m) (X : (hd.heap_39 w.params).In h₀) (N : News h₀ L s.heap ((D, listOf ws.toArray v) :: rest)) (T : Top hd.view_39 loose mean mg mb h₀)
    (hf : env.frame = some L) (hke : env.scope.kind = .function) (hd : d + 20 < recursionLimit) (hu : u + 100 < cLine)
    (hI : IntsAre ws r) (h8 : 8 ≤ r.length) (hb : ∀ i, 0 ≤ r.getD i 0 ∧ r.getD i 0 < 256)
    (hQ : ∀ h' tk t, Fr h₀ L h' m → News h₀ L h' ((D, listOf ws.toArray v) :: rest) → Q (.int (wordOf r) t) { s with heap := h', toks := tk }) :
    wpAny (model PySem.Challenge.rw_aa6022_01.row.prog w) ⟨none, d, some (env :: outer), gs, u⟩ (call (.ref 146) [.ref D]) Q E s := by
  revert X; k_fill; intro X
  replace hQ := Shut.mk hQ
  refine wpAny_call ?_
  refine' code_def B F X N T rfl hf hke ?k6 ?k7 ?k8 ?k9 ?kB ?_ ?c2 ?c3 ?c4 ?c5
  case k6 => k_is
  case k7 => k_is
  case k8 => k_room
  case k9 => first | exact BindsTo.of_eq rfl | exact binds_K (by k_in) rfl (by k_is) rfl rfl rfl
  case kB => exact locs rfl
  case c2 => exact rfl
  case c3 => exact rfl
  case c4 => exact rfl
  case c5 => decide
  intro g' L' h' FG' F' N' B' X' T'
  (try dsimp only); (try k_lift B'); (try k_fold)
  k_steps
  (with_reducible rename News h₀ L _ _ => N2)
  (with_reducible rename Fr h₀ L _ _ => F2)
  exact hQ.out _ _ _ F2 N2
theorem lword_spec {w : World} {A₀ : Around} {d u : Nat} {gs : Option (List Code)} {base h₀ : Heap} {env : Env} {outer : List Env} {L : Addr} {m mg mb : Str → Option Value} {s : Shared} {loose : List Str} {mean : ExcName → Option Value} {E : Value → Shared → Prop} {Q : Value → Shared → Prop} {news : List (Addr × Obj)} {D : Addr} {ws : List Value} {r : List Int} {v : Nat}
    (B : Below A₀ base outer h₀) (F : Fr h₀ L s.heap m) (X : (hd.heap_39 w.params).In h₀) (N : News h₀ L s.heap (news)) (T : Top hd.view_39 loose mean mg mb h₀)
    (hf : env.frame = some L) (hke : env.scope.kind = .function) (hd : d + 20 < recursionLimit) (hu : u + 100 < cLine)
    (hD : (D, listOf ws.toArray v) ∈ news) (hI : IntsAre ws r) (h8 : 8 ≤ r.length) (hb : ∀ i, 0 ≤ r.getD i 0 ∧ r.getD i 0 < 256)
    (hQ : ∀ h' tk t, Fr h₀ L h' m → News h₀ L h' news → Q (.int (wordOf r) t) { s with heap := h', toks := tk }) :
    wpAny (model PySem.Challenge.rw_aa6022_01.row.prog w) ⟨none, d, some (env :: outer), gs, u⟩ (call (.ref 146) [.ref D]) Q E s := by
  exact lword_core (rest := news) B F X (News.sub N (fun p hp => by
    rcases List.mem_cons.mp hp with rfl | hp
    · exact hD
    · exact hp)) T hf hke hd hu hI h8 hb (fun h' tk t F' N' => hQ h' tk t F' (News.drop1 N'))
theorem rbytes_spec {w : World} {A₀ : Around} {d u : Nat} {gs : Option (List Code)} {base h₀ : Heap} {env : Env} {outer : List Env} {L : Addr} {m mg mb : Str → Option Value} {s : Shared} {loose : List Str} {mean : ExcName → Option Value} {E : Value → Shared → Prop} {Q : Value → Shared → Prop} {news : List (Addr × Obj)} {f : Obj → List (Addr × Obj)} {x dx l : Addr} {ws : List Value} {octs : List Int} {v : Nat} {n : Int} {ta tb tc : Tok} {size : Int} {ts : Tok}
    (B : Below A₀ base outer h₀) (F : Fr h₀ L s.heap m) (X : (hd.heap_39 w.params).In h₀) (N : News h₀ L s.heap (news)) (T : Top hd.view_39 loose mean mg mb h₀)
    (D : KtsDicts (outer.filterMap (·.frame)) h₀)
    (hf : env.frame = some L) (hke : env.scope.kind = .function) (hd : d + 40 < recursionLimit) (hu : u + 200 < cLine)
    (hx : (x, instObj 80 dx) ∈ news) (hl : (l, listOf ws.toArray v) ∈ news) (U : UpdF dx (pDict w l n ta tb tc) news f)
    (hI : IntsAre ws octs) (hn : 0 ≤ n) (hlen : octs.length ≤ 1000)
    (hs : 0 ≤ size ∧ size ≤ 1000000)
    (hQ : ∀ D h' tk tc' wr vr, size ≤ (octs.drop n.toNat).length → Fr h₀ L h' m → News h₀ L h' ((D, listOf (List.toArray wr) vr) :: f (pDict w l (n + size) ta tb tc')) → (∀ p ∈ news, p.1 < D) → IntsAre wr ((octs.drop n.toNat).take size.toNat) → Q (.ref D) { s with heap := h', toks := tk })
    (hE : ∀ g h' e t tk tc', ((octs.drop n.toNat).length : Int) < size → Fr h₀ L g m → RaisedS base g (env :: outer) e (.ref 24) t [] (f (pDict w l (n + (octs.drop n.toNat).length) ta tb tc')) h' → g.UpToSlots h' →
      E (.ref e) { s with heap := h', toks := tk }) :
    wpAny (model PySem.Challenge.rw_aa6022_01.row.prog w) ⟨none, d, some (env :: outer), gs, u⟩ (call (.ref 103) [.ref x, .int size ts]) Q E s := by
  obtain ⟨rest, hoff, hin, hout⟩ := ledger_split hx hl U
  have N' := News.sub N hin
  obtain ⟨hxd, hld⟩ := paper_apart N'
  have hadr : ∀ p ∈ news, ∃ q ∈ (x, instObj 80 dx) :: (dx, pDict w l n ta tb tc) :: (l, listOf ws.toArray v) :: rest, q.1 = p.1 := fun p hp => by
    by_cases e : p.1 = dx
    · exact ⟨_, .tail _ (.head _), e.symm⟩
    · obtain ⟨pre, post, rfl, hf', a, b⟩ := U.split
      have : p ∈ f (pDict w l n ta tb tc) := by rw [hf']; exact hp
      exact ⟨p, hout _ p this, rfl⟩
  exact rbytes_core B F X N' T D hf hke hd hu hxd hld hoff hI hn hlen hs (fun P h' tk tc' wr vr e F' N' lt hw => hQ P h' tk tc' wr vr e F' (News.sub N' (fun p hp => by
      rcases List.mem_cons.mp hp with rfl | hp
      · exact .head _
      · exact .tail _ (hout _ p hp))) (fun p hp => by obtain ⟨q, hq, e⟩ := hadr p hp; rw [← e]; exact lt q hq) hw)
    (fun g h' e t tk tc' z FG R U => hE g h' e t tk tc' z FG (raisedS_sub R (hout _)) U)
theorem rfault_spec {w : World} {A₀ : Around} {d u : Nat} {gs : Option (List Code)} {base h₀ : Heap} {env : Env} {outer : List Env} {L : Addr} {m mg mb : Str → Option Value} {s : Shared} {loose : List Str} {mean : ExcName → Option Value} {E : Value → Shared → Prop} {Q : Value → Shared → Prop} {news : List (Addr × Obj)} {f : Obj → List (Addr × Obj)} {x dx l : Addr} {ws : List Value} {octs : List Int} {v : Nat} {n : Int} {ta tb tc : Tok} {ts : Tok}
    (B : Below A₀ base outer h₀) (F : Fr h₀ L s.heap m) (X : (hd.heap_39 w.params).In h₀) (N : News h₀ L s.heap (news)) (T : Top hd.view_39 loose mean mg mb h₀)
    (D : KtsDicts (outer.filterMap (·.frame)) h₀)
    (hf : env.frame = some L) (hke : env.scope.kind = .function) (hd : d + 40 < recursionLimit) (hu : u + 200 < cLine)
    (hx : (x, instObj 80 dx) ∈ news) (hl : (l, listOf ws.toArray v) ∈ news) (U : UpdF dx (pDict w l n ta tb tc) news f)
    (hI : IntsAre ws octs) (hn : 0 ≤ n) (hlen : octs.length ≤ 1000)
    (hF : ∀ g h' e t vs tk, Fr h₀ L g m → RaisedS base g (env :: outer) e (.ref 37) t vs (news) h' → g.UpToSlots h' → E (.ref e) { s with heap := h', toks := tk }) :
    wpAny (model PySem.Challenge.rw_aa6022_01.row.prog w) ⟨none, d, some (env :: outer), gs, u⟩ (call (.ref 103) [.ref x, .int 1000001 ts]) Q E s := by
  obtain ⟨rest, hoff, hin, hout⟩ := ledger_split hx hl U
  have N' := News.sub N hin
  obtain ⟨hxd, hld⟩ := paper_apart N'
  have hback : ∀ p ∈ news, p ∈ (x, instObj 80 dx) :: (dx, pDict w l n ta tb tc) :: (l, listOf ws.toArray v) :: rest := fun p hp => by
    obtain ⟨pre, post, rfl, hf', a, b⟩ := U.split
    exact hout _ p (by rw [hf']; exact hp)
  exact rfault_core B F X N' T D hf hke hd hu hxd hld hoff hI hn hlen (fun g h' e t vs tk FG R U => hF g h' e t vs tk FG (raisedS_sub R hback) U)
end Mine

-- Lh
open PySem PySem.W PyProof.Rows PySem.Calls
set_option Elab.async false
set_option maxRecDepth 100000
set_option maxHeartbeats 4000000
namespace Mine
theorem fresh_Lh : True := by
  w_top off
  trivial
local macro_rules | `(tactic| walk_at "no such key") => `(tactic| skip)
local macro_rules | `(tactic| walk_at "no such key") => `(tactic| skip)
local macro_rules | `(tactic| k_room) => `(tactic| ((try simp only [depth_under_make, depth_under_kw, depth_in1, depth_deeper, depth_caller]); omega))
local macro_rules | `(tactic| k_all) => `(tactic| assumption)
local macro_rules | `(tactic| walk_at "call ref") => `(tactic| ((with_reducible show wpAny _ _ (call (Value.ref 117) _) _ _ _); k_dflt (refine' fhead_spec ?B ?F ?X ?N ?T ?D ?hf ?hke ?hd ?hu ?hx ?hl ?U ?hI ?hn ?hlen ?hb ?_ ?_ ?_; (case F => k_asm); (case B => k_asm); (case X => k_asm); (case N => k_asm); (case T => k_asm); (case D => k_asm); (case hf => exact rfl); (case hke => exact rfl); (case hd => first | omega | ((try simp only [depth_under_make, depth_under_kw, depth_in1, depth_deeper, depth_caller, PySem.W.depth_mark]); (try dsimp only); omega) | decide); (case hu => first | omega | ((try simp only [Around.deeper_units, Around.in1_units, Around.mark_units]); (try dsimp only); omega) | decide); (case hx => k_mem); (case U => k_updF); (case hl => k_mem); (case hI => k_asm); (case hn => first | assumption | omega); (case hlen => first | assumption | omega); (case hb => assumption)); (intro P' h' tk' tc' t1' t2' t3' h8' h4' h6' F' N' l1; (try k_lt l1); (try k_sweep)); rotate_left; (intro g' h' e' t' tk' tc' pl' h8' FG' R' U'); rotate_left; (intro g' h' e' t' vs' tk' tc' h8' h4' FG' R' U'); rotate_left))
local macro_rules | `(tactic| walk_at "call ref") => `(tactic| ((with_reducible show wpAny _ _ (call (Value.ref 153) _) _ _ _); k_dflt (refine' lshort_core ?B ?F ?X ?N ?T ?hf ?hke ?hd ?hu ?ha ?hb ?_; (case F => k_asm); (case B => k_asm); (case X => k_asm); (case N => k_asm); (case T => k_asm); (case hf => exact rfl); (case hke => exact rfl); (case hd => first | omega | ((try simp only [depth_under_make, depth_under_kw, depth_in1, depth_deeper, depth_caller, PySem.W.depth_mark]); (try dsimp only); omega) | decide); (case hu => first | omega | ((try simp only [Around.deeper_units, Around.in1_units, Around.mark_units]); (try dsimp only); omega) | decide); (case ha => exact drop_byte (by assumption) _ _); (case hb => exact drop_byte (by assumption) _ _)); intro h' tk' t' F' N'; (try k_sweep)))
local macro_rules | `(tactic| walk_at "call ref") => `(tactic| ((with_reducible show wpAny _ _ (call (Value.ref 146) _) _ _ _); k_dflt (refine' lword_spec ?B ?F ?X ?N ?T ?hf ?hke ?hd ?hu ?hD ?hI ?h8 ?hb ?_; (case F => k_asm); (case B => k_asm); (case X => k_asm); (case N => k_asm); (case T => k_asm); (case hf => exact rfl); (case hke => exact rfl); (case hd => first | omega | ((try simp only [depth_under_make, depth_under_kw, depth_in1, depth_deeper, depth_caller, PySem.W.depth_mark]); (try dsimp only); omega) | decide); (case hu => first | omega | ((try simp only [Around.deeper_units, Around.in1_units, Around.mark_units]); (try dsimp only); omega) | decide); (case hD => k_mem); (case hI => k_asm); (case h8 => first | assumption | omega); (case hb => exact fun i => drop_byte (by assumption) _ i)); intro h' tk' t' F' N'; (try k_sweep)))
local macro_rules | `(tactic| walk_at "compareOp Eq ref ref") => `(tactic| ((with_reducible show wpAny _ _ (compareOp CmpOp.Eq (Value.ref _) (Value.ref 132)) _ _ _); k_dflt (refine' eq_head ?F ?X ?l ?i ?u ?_; (case F => k_asm); (case X => k_asm); (case l => exact News.isList (by k_asm) (by k_mem)); (case i => k_asm); (case u => first | omega | ((try simp only [Around.deeper_units, Around.in1_units, Around.mark_units]); (try dsimp only); omega) | decide))))
local macro_rules | `(tactic| walk_at "compareOp NotEq ref ref") => `(tactic| ((with_reducible show wpAny _ _ (compareOp CmpOp.NotEq (Value.ref _) (Value.ref 132)) _ _ _); k_dflt (refine' ne_head ?F ?X ?l ?i ?u ?_; (case F => k_asm); (case X => k_asm); (case l => exact News.isList (by k_asm) (by k_mem)); (case i => k_asm); (case u => first | omega | ((try simp only [Around.deeper_units, Around.in1_units, Around.mark_units]); (try dsimp only); omega) | decide))))
theorem got_if (r : List Int) : (if (r.length : Int) - 8 < wordOf r then (r.length : Int) - 8 else wordOf r) = gotOf r := by
  unfold gotOf
  split <;> omega
theorem gotOf_le (r : List Int) : gotOf r ≤ (r.length : Int) - 8 := by
  unfold gotOf; omega
theorem bool_true {b : Bool} {Q : Value → Shared → Prop} {s : Shared} (e : b = true) (q : Q (.bool true) s) : Q (.bool b) s := e ▸ q
theorem header_core {w : World} {A₀ : Around} {d u : Nat} {gs : Option (List Code)} {base h₀ : Heap} {env : Env} {outer : List Env} {L : Addr} {m mg mb : Str → Option Value} {s : Shared} {loose : List Str} {mean : ExcName → Option Value} {E : Value → Shared → Prop} {Q : Value → Shared → Prop} {rest : List (Addr × Obj)} {x dx l : Addr} {ws : List Value} {octs : List Int} {v : Nat} {n : Int} {ta tb tc : Tok} {lo mo rr : Addr} {wr : List Value} {km kr : Nat} {tm : Tok}
    (B : Below A₀ base outer h₀) (F : Fr h₀ L s.heap m) (X : (hd.heap_39 w.params).In h₀) (N : News h₀ L s.heap ((x, instObj 80 dx) :: (dx, pDict w l (n) ta tb tc) :: (l, listOf ws.toArray v) :: (mo, listOf #[.ref lo, .int n tm] km) :: (rr, listOf (List.toArray wr) kr) :: rest)) (T : Top hd.view_39 loose mean mg mb h₀)
    (D : KtsDicts (outer.filterMap (·.frame)) h₀)
    (hf : env.frame = some L) (hke : env.scope.kind = .function) (hd : d + 60 < recursionLimit) (hu : u + 300 < cLine)
    (XB : (Mine.hd.heap_39 w.params).In base) (TB : Top Mine.hd.view_39 loose mean mg mb base)
    (hxd : x ≠ dx) (hld : l ≠ dx) (hoff : ∀ p ∈ rest, p.1 ≠ dx)
    (hI : IntsAre ws octs) (hn : 0 ≤ n) (hlen : octs.length ≤ 1000)
    (hmd : mo ≠ dx) (hrd : rr ≠ dx) (hrm : rr ≠ mo) (hxm : x ≠ mo) (hdm : dx ≠ mo) (hlm : l ≠ mo) (hoffm : ∀ p ∈ rest, p.1 ≠ mo)
    (hb : ∀ b ∈ octs, 0 ≤ b ∧ b < 256) (hIr : IntsAre wr (octs.drop n.toNat)) (hno : n ≤ octs.length)
    (hQ : ∀ h₀' h' tk (pl : Int) tc' tm' km', 0 ≤ pl ∧ pl ≤ (octs.length : Int) → KtsTurn (outer.filterMap (·.frame)) h₀ h₀' → Fr h₀' L h' m → News h₀' L h' ((x, instObj 80 dx) :: (dx, pDict w l (pl) ta tb tc') :: (l, listOf ws.toArray v) :: (mo, listOf #[.ref lo, .int pl tm'] km') :: rest) → Below A₀ base outer h₀' → (Mine.hd.heap_39 w.params).In h₀' → Top Mine.hd.view_39 loose mean mg mb h₀' → KtsDicts (outer.filterMap (·.frame)) h₀' →
      Q (.bool true) { s with heap := h', toks := tk }) :
    wpAny (model PySem.Challenge.rw_aa6022_01.row.prog w) ⟨none, d, some (env :: outer), gs, u⟩ (call (.ref 160) [.ref x, .ref mo, .ref rr]) Q E s := by
  revert X; k_fill; intro X
  replace hQ := Shut.mk hQ
  refine wpAny_call ?_
  refine' code_plainT B F X N T XB TB D rfl hf hke ?k6 ?k7 ?k8 ?k9 ?kB ?_ ?c2 ?c3 ?c4 ?c5
  case k6 => k_is
  case k7 => k_is
  case k8 => k_room
  case k9 => first | exact BindsTo.of_eq rfl | exact binds_K (by k_in) rfl (by k_is) rfl rfl rfl
  case kB => exact locs rfl
  case c2 => exact rfl
  case c3 => exact rfl
  case c4 => exact rfl
  case c5 => decide
  intro g' L' h' FG' F' N' B' X' T' D'
  (try dsimp only); (try k_lift B'); (try k_fold)
  have hrl : (octs.drop n.toNat).length ≤ octs.length := by rw [List.length_drop]; omega
  k_steps
  ·
    (with_reducible rename 8 ≤ List.length _ => h8)
    (with_reducible rename 6 ≤ gotOf _ => h6)
    have hg := gotOf_le (octs.drop n.toNat)
    have hll : (octs.drop n.toNat).length = octs.length - n.toNat := List.length_drop
    (with_reducible rename News _ L' _ _ => N9)
    (with_reducible rename Fr _ L' _ _ => F9)
    rw [got_if] at N9
    refine ⟨_, _, _, _, KtsTurn.refl, F9, N9, fun h0' TT FF NN BB XX PP DD => ?_⟩
    refine bool_true (by simp) ?_
    exact hQ.out h0' _ _ (n + 8 + gotOf (octs.drop n.toNat)) _ _ _ ⟨by omega, by omega⟩ TT FF (News.sub NN (fun p hp => by
          simp only [List.mem_cons] at hp ⊢
          rcases hp with h | h | h | h | h
          all_goals repeat (first | exact h | exact Or.inl h | refine Or.inr ?_))) BB XX PP DD
  · exfalso
    (with_reducible rename 6 ≤ gotOf _ => h6)
    (with_reducible rename ¬ (6 : Int) ≤ _ => hz)
    rw [got_if] at hz
    exact hz h6
  · exfalso
    (with_reducible rename 6 ≤ gotOf _ => h6)
    (with_reducible rename 8 ≤ List.length _ => h8)
    have hg := gotOf_le (octs.drop n.toNat)
    have hll : (octs.drop n.toNat).length = octs.length - n.toNat := List.length_drop
    omega
  · (with_reducible rename _ ∨ _ => hdis)
    rcases hdis with ⟨z, rfl⟩ | ⟨z8, z4, z6, rfl⟩
    · exfalso; omega
    ·
      have hg := gotOf_le (octs.drop n.toNat)
      have hll : (octs.drop n.toNat).length = octs.length - n.toNat := List.length_drop
      have hw := word_range hb n.toNat
      have hg2 : 0 ≤ gotOf (octs.drop n.toNat) := by unfold gotOf; omega
      (with_reducible rename News _ L' _ _ => N9)
      (with_reducible rename Fr _ L' _ _ => F9)
      (with_reducible rename KtsTurn _ g' _ => T9)
      rw [got_if] at N9
      refine ⟨_, _, _, _, T9, F9, N9, fun h0' TT FF NN BB XX PP DD => ?_⟩
      refine bool_true (decide_eq_true (by rw [got_if]; exact z6)) ?_
      exact hQ.out h0' _ _ (n + 8 + gotOf (octs.drop n.toNat)) _ _ _ ⟨by omega, by omega⟩ TT FF (News.sub NN (fun p hp => by
            simp only [List.mem_cons] at hp ⊢
            rcases hp with h | h | h | h | h
            all_goals repeat (first | exact h | exact Or.inl h | refine Or.inr ?_))) BB XX PP DD
  · (with_reducible rename _ ∨ _ => hdis)
    (with_reducible rename ¬ List.take 4 _ = _ => h4)
    rcases hdis with ⟨z, rfl⟩ | ⟨z8, z4, z6, rfl⟩
    · exfalso; omega
    · exact absurd z4 h4
  ·
    (with_reducible rename 8 ≤ List.length _ => h8)
    (with_reducible rename ¬ List.take 4 _ = _ => h4)
    have hg := gotOf_le (octs.drop n.toNat)
    have hll : (octs.drop n.toNat).length = octs.length - n.toNat := List.length_drop
    (with_reducible rename News _ L' _ _ => N9)
    (with_reducible rename Fr _ L' _ _ => F9)
    (with_reducible rename KtsTurn _ g' _ => T9)
    skip
    refine ⟨_, _, _, _, T9, F9, N9, fun h0' TT FF NN BB XX PP DD => ?_⟩
    refine bool_true (by simp [h4]) ?_
    exact hQ.out h0' _ _ (n + 8) _ _ _ ⟨by omega, by omega⟩ TT FF (News.sub NN (fun p hp => by
          simp only [List.mem_cons] at hp ⊢
          rcases hp with h | h | h | h | h
          all_goals repeat (first | exact h | exact Or.inl h | refine Or.inr ?_))) BB XX PP DD
  · exfalso; omega
  · (with_reducible rename _ ∨ _ => hdis)
    rcases hdis with ⟨z, rfl⟩ | ⟨z8, z4, z6, rfl⟩
    ·
      have hg := gotOf_le (octs.drop n.toNat)
      have hll : (octs.drop n.toNat).length = octs.length - n.toNat := List.length_drop
      (with_reducible rename News _ L' _ _ => N9)
      (with_reducible rename Fr _ L' _ _ => F9)
      (with_reducible rename KtsTurn _ g' _ => T9)
      skip
      refine ⟨_, _, _, _, T9, F9, N9, fun h0' TT FF NN BB XX PP DD => ?_⟩
      refine bool_true (decide_eq_true (by omega)) ?_
      exact hQ.out h0' _ _ (n + ((octs.drop n.toNat).length : Int)) _ _ _ ⟨by omega, by omega⟩ TT FF (News.sub NN (fun p hp => by
            simp only [List.mem_cons] at hp ⊢
            rcases hp with h | h | h | h | h
            all_goals repeat (first | exact h | exact Or.inl h | refine Or.inr ?_))) BB XX PP DD
    · exfalso; omega
  · exfalso; omega
end Mine

-- Pk
open PySem PySem.W PyProof.Rows PySem.Calls
set_option Elab.async false
set_option maxRecDepth 100000
set_option maxHeartbeats 4000000
namespace Mine
theorem fresh_Pk : True := by
  w_top off
  trivial
local macro_rules | `(tactic| k_room) => `(tactic| ((try simp only [depth_under_make, depth_under_kw, depth_in1, depth_deeper, depth_caller]); omega))
local macro_rules | `(tactic| k_all) => `(tactic| assumption)
def Told : Prop := True
theorem pick_many {prog : Program} {w : World} {A : Around} {E : Value → Shared → Prop} {s : Shared} {value slice : Expr} {l : Addr} {z k : Int} {u t1 t2 t3 t4 t5 : Tok} {Q : Value → Shared → Prop}
    (hl : s.heap.IsList l #[.int z t1, .int z t2, .int z t3, .int 1000000 t4, .int 1000001 t5]) (hz : 0 ≤ z ∧ z ≤ 1000000) (h0 : 0 ≤ k ∧ k < 5)
    (h1 : ∀ c t, 0 ≤ c → c ≤ 1000000 → Q (.int c t) s) (h2 : ∀ c t, c = 1000001 → Q (.int c t) s)
    (hs : ∀ k u, subscripted slice false (.ref l) (.int k u) = operate [.ref l, .int k u] (getItem (.ref l) (.int k u)) := by intro _ _; with_unfolding_all rfl) (hg : ∀ r, letTemporaryGo value (.ref l) r = pure () := by intro _; with_unfolding_all rfl) :
    wpAny (model prog w) A (subscriptTail value slice (.ref l) (.int k u)) Q E s := by
  have : k = 0 ∨ k = 1 ∨ k = 2 ∨ k = 3 ∨ k = 4 := by omega
  rcases this with rfl | rfl | rfl | rfl | rfl
  · exact item_list hl (by decide) (by decide) rfl (h1 _ _ hz.1 hz.2) (hs _ _) hg
  · exact item_list hl (by decide) (by decide) rfl (h1 _ _ hz.1 hz.2) (hs _ _) hg
  · exact item_list hl (by decide) (by decide) rfl (h1 _ _ hz.1 hz.2) (hs _ _) hg
  · exact item_list hl (by decide) (by decide) rfl (h1 _ _ (by decide) (by decide)) (hs _ _) hg
  · exact item_list hl (by decide) (by decide) rfl (h2 _ _ rfl) (hs _ _) hg
theorem pick_name {prog : Program} {w : World} {A : Around} {E : Value → Shared → Prop} {s : Shared} {value slice : Expr} {l : Addr} {a b c : Value} {k : Int} {u : Tok} {Q : Value → Shared → Prop}
    (hl : s.heap.IsList l #[a, b, c]) (h0 : 0 ≤ k ∧ k < 3)
    (h1 : Q a s) (h2 : Q b s) (h3 : Q c s)
    (hs : ∀ k u, subscripted slice false (.ref l) (.int k u) = operate [.ref l, .int k u] (getItem (.ref l) (.int k u)) := by intro _ _; with_unfolding_all rfl) (hg : ∀ r, letTemporaryGo value (.ref l) r = pure () := by intro _; with_unfolding_all rfl) :
    wpAny (model prog w) A (subscriptTail value slice (.ref l) (.int k u)) Q E s := by
  have : k = 0 ∨ k = 1 ∨ k = 2 := by omega
  rcases this with rfl | rfl | rfl
  · exact item_list hl (by decide) (by decide) rfl h1 (hs _ _) hg
  · exact item_list hl (by decide) (by decide) rfl h2 (hs _ _) hg
  · exact item_list hl (by decide) (by decide) rfl h3 (hs _ _) hg
theorem mod_bounds {a : Int} : (0 ≤ a.fmod 3 ∧ a.fmod 3 < 3) ∧ (0 ≤ a.fmod 5 ∧ a.fmod 5 < 5) ∧ (0 ≤ a.fmod 7 ∧ a.fmod 7 < 7) ∧ (0 ≤ a.fmod 256 ∧ a.fmod 256 < 256) ∧ (0 ≤ a.fmod 9 ∧ a.fmod 9 < 9) :=
  ⟨⟨Int.fmod_nonneg_of_pos _ (by decide), Int.fmod_lt_of_pos _ (by decide)⟩, ⟨Int.fmod_nonneg_of_pos _ (by decide), Int.fmod_lt_of_pos _ (by decide)⟩, ⟨Int.fmod_nonneg_of_pos _ (by decide), Int.fmod_lt_of_pos _ (by decide)⟩, ⟨Int.fmod_nonneg_of_pos _ (by decide), Int.fmod_lt_of_pos _ (by decide)⟩, ⟨Int.fmod_nonneg_of_pos _ (by decide), Int.fmod_lt_of_pos _ (by decide)⟩⟩
theorem tup_ne {h₀ h : Heap} {L : Addr} {w : World} {dx D l : Addr} {n : Int} {ta tb tc : Tok} {vs : Array Value} {news : List (Addr × Obj)} (N : News h₀ L h news) (h1 : (D, ({ cls := .type "tuple", data := .seq vs } : Obj)) ∈ news) (h2 : (dx, pDict w l n ta tb tc) ∈ news) : D ≠ dx :=
  News.apart N (p := (D, _)) (q := (dx, _)) h1 h2 (by intro e; cases (congrArg Obj.data e))
theorem slice_bytes {octs : List Int} {a b : Int} {k : Nat} (hb : ∀ b ∈ octs, 0 ≤ b ∧ b < 256) : ∀ z ∈ octs ++ List.take k [a.fmod 256, b.fmod 256], 0 ≤ z ∧ z < 256 := fun z hz => by
  rcases List.mem_append.mp hz with h | h
  · exact hb z h
  · have h := List.mem_of_mem_take h
    simp only [List.mem_cons, List.not_mem_nil, or_false] at h
    rcases h with rfl | rfl <;> exact mod_bounds.2.2.2.1
theorem chunk_bytes {octs nm ks : List Int} {q z : Int} (hb : ∀ b ∈ octs, 0 ≤ b ∧ b < 256) (hnm : ∀ b ∈ nm, 0 ≤ b ∧ b < 256) (hz : 0 ≤ z ∧ z < 256) :
    ∀ b ∈ octs ++ nm ++ [0, 0, 0, z] ++ List.map (fun k' => (q + 37 * k').fmod 256) ks, 0 ≤ b ∧ b < 256 := fun b h => by
  simp only [List.mem_append, List.mem_cons, List.not_mem_nil, or_false, List.mem_map] at h
  rcases h with ((h | h) | h) | ⟨k, _, rfl⟩
  · exact hb b h
  · exact hnm b h
  · omega
  · exact mod_bounds.2.2.2.1
theorem inner_len {q z : Int} (h : 0 ≤ z) : ((List.map (fun k' => (q + 37 * k').fmod 256) (rangeKs 0 (z + 3 - 0).toNat)).length : Int) = z + 3 := by
  rw [List.length_map, rangeKs_length]; omega
theorem len_word {z : Int} (h : 3 ≤ z ∧ z < 10) : [Builtin.bitAnd (z.fdiv (2 ^ Int.toNat 24)) 255, Builtin.bitAnd (z.fdiv (2 ^ Int.toNat 16)) 255, Builtin.bitAnd (z.fdiv (2 ^ Int.toNat 8)) 255, Builtin.bitAnd z 255] = [0, 0, 0, z] := by
  have : z = 3 ∨ z = 4 ∨ z = 5 ∨ z = 6 ∨ z = 7 ∨ z = 8 ∨ z = 9 := by omega
  rcases this with rfl | rfl | rfl | rfl | rfl | rfl | rfl <;> decide
theorem paper_chunk {octs nm : List Int} {q z : Int} {ws : List Value} (hz : 0 ≤ z ∧ z < 7)
    (h : IntsAre ws (octs ++ nm ++ [Builtin.bitAnd (((List.map (fun k' => (q + 37 * k').fmod 256) (rangeKs 0 (z + 3 - 0).toNat)).length : Int).fdiv (2 ^ Int.toNat 24)) 255, Builtin.bitAnd (((List.map (fun k' => (q + 37 * k').fmod 256) (rangeKs 0 (z + 3 - 0).toNat)).length : Int).fdiv (2 ^ Int.toNat 16)) 255, Builtin.bitAnd (((List.map (fun k' => (q + 37 * k').fmod 256) (rangeKs 0 (z + 3 - 0).toNat)).length : Int).fdiv (2 ^ Int.toNat 8)) 255, Builtin.bitAnd ((List.map (fun k' => (q + 37 * k').fmod 256) (rangeKs 0 (z + 3 - 0).toNat)).length : Int) 255] ++ List.map (fun k' => (q + 37 * k').fmod 256) (rangeKs 0 (z + 3 - 0).toNat))) :
    IntsAre ws (octs ++ nm ++ [0, 0, 0, z + 3] ++ List.map (fun k' => (q + 37 * k').fmod 256) (rangeKs 0 (z + 3 - 0).toNat)) := by
  rw [inner_len hz.1, len_word (by omega)] at h
  exact h
theorem chunk_len {octs nm : List Int} {q z : Int} (hz : 0 ≤ z ∧ z < 7) (hn : nm.length = 4) : (octs ++ nm ++ [0, 0, 0, z + 3] ++ List.map (fun k' => (q + 37 * k').fmod 256) (rangeKs 0 (z + 3 - 0).toNat)).length ≤ octs.length + 20 := by
  have := inner_len (q := q) hz.1
  simp only [List.length_append, List.length_cons, List.length_nil] at this ⊢
  omega
theorem chunk_place {octs a b c : List Int} {n : Int} (h : n ≤ octs.length) : n ≤ ((octs ++ a ++ b ++ c).length : Int) := by
  simp only [List.length_append]; omega
theorem add_head {w : World} {A : Around} {E : Value → Shared → Prop} {s : Shared} {h₀ : Heap} {L a : Addr} {m : Str → Option Value} {vs : List Value} {ns : List Int} {k : Nat} {news : List (Addr × Obj)} {Q : Value → Shared → Prop} (F : Fr h₀ L s.heap m) (X : (hd.heap_39 w.params).In h₀) (N : News h₀ L s.heap news)
    (hl : (a, listOf (List.toArray vs) k) ∈ news) (hi : IntsAre vs ns) (hz : ns.length ≤ 1000)
    (h : ∀ D us h', Fr h₀ L h' m → News h₀ L h' ((D, listOf (List.toArray us) 0) :: news) → (∀ p ∈ news, p.1 < D) → IntsAre us (ns ++ [77, 84, 104, 100]) → Q (.ref D) { s with heap := h' }) :
    wpAny (model PySem.Challenge.rw_aa6022_01.row.prog w) A (binaryOp .Add (.ref a) (.ref 132)) Q E s :=
  kmk_add_ints F N (N.isList hl) (head_list (X.keeps F.keep)) hi head_ints h (by rw [sizeLine_eq]; simp only [List.length_cons, List.length_nil]; omega)
theorem list_head {w : World} {A : Around} {E : Value → Shared → Prop} {s : Shared} {h₀ : Heap} {L : Addr} {m : Str → Option Value} {news : List (Addr × Obj)} {Q : Value → Shared → Prop} (F : Fr h₀ L s.heap m) (X : (hd.heap_39 w.params).In h₀) (N : News h₀ L s.heap news)
    (h : ∀ D c h', Fr h₀ L h' m → News h₀ L h' ((D, listOf #[.int 77 346, .int 84 347, .int 104 348, .int 100 349] c) :: news) → (∀ q ∈ news, q.1 < D) → Q (.ref D) { s with heap := h' }) :
    wpAny (model PySem.Challenge.rw_aa6022_01.row.prog w) A (call (.type "list") [.ref 132]) Q E s :=
  list_copyK F N (head_list (X.keeps F.keep)) h (by rw [sizeLine_eq]; decide)
end Mine

-- Lp
open PySem PySem.W PyProof.Rows PySem.Calls
set_option Elab.async false
set_option maxRecDepth 100000
set_option maxHeartbeats 1000000
namespace Mine
theorem fresh_Lp : True := by
  w_top off
  trivial
local macro_rules | `(tactic| walk_at "no such key") => `(tactic| skip)
theorem list_loop {prog : Program} {w : World} {A : Around} {E : Value → Shared → Prop} {s : Shared} {env : Env} {h₀ : Heap} {x : Str} {body : List Stmt} {Q : Flow → Shared → Prop} {l : Addr} {vs : List Value} {ns : List Int} {k : Nat} {m₀ : Str → Option Value} {news : List (Addr × Obj)}
    (hh : A.handled = none) (hm : (l, listOf (List.toArray vs) k) ∈ news) (hi : IntsAre vs ns) (F : Fr h₀ env.locals s.heap m₀) (N : News h₀ env.locals s.heap news)
    (J : Nat → (Str → Option Value) → Prop) (h0 : J 0 m₀)
    (turn : ∀ i n t m₁ s₁ own, ns[i]? = some n → J i m₁ → Fr h₀ env.locals s₁.heap (fun y => if y = x then some (.int n t) else m₁ y) → News h₀ env.locals s₁.heap (news ++ own) →
      wpAny (model prog w) A (execs body env) (fun f s' => f = .next ∧ ∃ h' tk m₂, s' = { s₁ with heap := h', toks := tk } ∧ Fr h₀ env.locals h' m₂ ∧ News h₀ env.locals h' (news ++ own) ∧ J (i + 1) m₂) E s₁)
    (done : ∀ h' tk m₂, Fr h₀ env.locals h' m₂ → News h₀ env.locals h' news → J ns.length m₂ → Q .next { s with heap := h', toks := tk }) :
    wpAny (model prog w) A (pyIter (.ref l)) (fun it s₂ => LoopAtU prog w A h₀ env x body Q E it s₂) E s := by
  have hls : s.heap.IsList l vs.toArray := N.isList hm
  have hlt : l < s.heap.objs.size := Heap.lt_size (N _ hm).1
  have hne : l ≠ s.heap.objs.size := Nat.ne_of_lt hlt
  refine wpAny_pyIter_list hls ?_
  have W := Walks.list (prog := prog) (w := w) hh s.heap.objs.size l hne vs.toArray
  have hlen : vs.toArray.size = ns.length := by simp [hi.length]
  rw [hlen] at W
  refine ⟨_, _, _, ns.length, _, _, m₀, news, fun i m₁ news₁ => news₁ = news ∧ J i m₁, rfl, W, ?_, ?_, ?_, ⟨⟨_, Heap.get?_push_size _ rfl, rfl, rfl⟩, hls.at fun o e => Heap.get?_push_of_some _ e⟩, F.push _, (fun p hp => ⟨Heap.get?_push_of_some _ (N p hp).1, (N p hp).2⟩), ⟨rfl, h0⟩, ?_, ?_⟩
  · intro hm'
    rcases List.mem_cons.mp hm' with e | hm'
    · exact absurd F.ns.lt (e ▸ Nat.lt_irrefl _)
    · exact (N _ hm).2.1 (List.mem_singleton.mp hm').symm
  · intro b hb
    rw [List.mem_singleton.mp hb]
    exact next_is_new F
  · intro p hp hI
    exact absurd (Heap.lt_size (N p hp).1) ((List.mem_singleton.mp hI) ▸ Nat.lt_irrefl _)
  · rintro i v m₁ news₁ s₁ own hin hP ⟨rfl, hJ⟩ hoff hown _ hfp hst F₁ N₁
    obtain ⟨n, t, rfl, hn⟩ := hi.at i v (by simpa using hP)
    refine wpAny_mono (turn i n t m₁ s₁ own hn hJ F₁ (News.sub N₁ fun p hp => (List.mem_append.mp hp).elim (fun h => List.mem_append.mpr (.inr h)) fun h => List.mem_append.mpr (.inl h))) (fun f s₂ p => ?_) fun _ _ e => e
    obtain ⟨rfl, h', tk, m₂, rfl, F₂, N₂, hJ₂⟩ := p
    exact LoopStepU.intro F₂ (News.sub N₂ fun p hp => (List.mem_append.mp hp).elim (fun h => List.mem_append.mpr (.inr h)) fun h => List.mem_append.mpr (.inl h)) hoff ⟨rfl, hJ₂⟩
  · rintro h' tk m' news' F' N' _ ⟨rfl, hJ⟩
    exact done h' tk m' F' N' hJ
theorem ends_fold (r : List Int) : ∀ n : Nat, ((rangeKs 0 n).foldl (fun l k => if r.getD k.toNat 0 < 128 then l ++ [k] else l) [] = [] ∧ ∀ j, j < n → 128 ≤ r.getD j 0) ∨
    (∃ i : Nat, ∃ es, (rangeKs 0 n).foldl (fun l k => if r.getD k.toNat 0 < 128 then l ++ [k] else l) [] = (i : Int) :: es ∧ i < n ∧ r.getD i 0 < 128 ∧ ∀ j, j < i → 128 ≤ r.getD j 0) := by
  intro n
  induction n with
  | zero => exact .inl ⟨rfl, fun j h => absurd h (Nat.not_lt_zero _)⟩
  | succ n ih =>
    have e : rangeKs 0 (n + 1) = rangeKs 0 n ++ [(n : Int)] := by
      unfold rangeKs
      rw [List.range_succ, List.map_append]
      simp
    rw [e, List.foldl_append]
    simp only [List.foldl_cons, List.foldl_nil, Int.toNat_natCast]
    rcases ih with ⟨h1, h2⟩ | ⟨i, es, h1, h2, h3, h4⟩
    · rw [h1]
      by_cases c : r.getD n 0 < 128
      · rw [if_pos c]
        exact .inr ⟨n, [], rfl, Nat.lt_succ_self _, c, h2⟩
      · rw [if_neg c]
        refine .inl ⟨rfl, fun j hj => ?_⟩
        rcases Nat.lt_or_eq_of_le (Nat.le_of_lt_succ hj) with h | h
        · exact h2 j h
        · subst h; omega
    · rw [h1]
      split
      · exact .inr ⟨i, es ++ [(n : Int)], rfl, Nat.lt_succ_of_lt h2, h3, h4⟩
      · exact .inr ⟨i, es, rfl, Nat.lt_succ_of_lt h2, h3, h4⟩
theorem vfold_take {l : List Int} {i : Nat} {n : Int} (h : l[i]? = some n) : vfold (l.take (i + 1)) = vfold (l.take i) * 128 + n % 128 := by
  rw [List.take_add_one, h]
  exact vfold_snoc _ _
theorem due_loop {prog : Program} {w : World} {A : Around} {E : Value → Shared → Prop} {s : Shared} {env : Env} {h₀ : Heap} {body : List Stmt} {Q : Flow → Shared → Prop} {l : Addr} {vs : List Value} {ns : List Int} {k : Nat} {m₀ : Str → Option Value} {news : List (Addr × Obj)}
    (hh : A.handled = none) (hm : (l, listOf (List.toArray vs) k) ∈ news) (hi : IntsAre vs ns) (F : Fr h₀ env.locals s.heap m₀) (N : News h₀ env.locals s.heap news)
    (hd : ∃ t, m₀ (Str.ofString "due") = some (.int 0 t))
    (turn : ∀ i n t td (s₁ : Shared) own, ns[i]? = some n → Fr h₀ env.locals s₁.heap (fun y => if y = Str.ofString "octet" then some (.int n t) else if y = Str.ofString "due" then some (.int (vfold (ns.take i)) td) else m₀ y) → News h₀ env.locals s₁.heap (news ++ own) →
      wpAny (model prog w) A (execs body env) (fun f s' => f = .next ∧ ∃ h' tk t2, s' = { s₁ with heap := h', toks := tk } ∧ Fr h₀ env.locals h' (fun y => if y = Str.ofString "due" then some (.int (vfold (ns.take i) * 128 + n % 128) t2) else if y = Str.ofString "octet" then some (.int n t) else m₀ y) ∧ News h₀ env.locals h' (news ++ own)) E s₁)
    (done : ∀ h' tk td uo, Fr h₀ env.locals h' (fun y => if y = Str.ofString "due" then some (.int (vfold ns) td) else if y = Str.ofString "octet" then uo else m₀ y) → News h₀ env.locals h' news → Q .next { s with heap := h', toks := tk }) :
    wpAny (model prog w) A (pyIter (.ref l)) (fun it s₂ => LoopAtU prog w A h₀ env (Str.ofString "octet") body Q E it s₂) E s := by
  obtain ⟨t0, hd⟩ := hd
  have hne : Str.ofString "due" ≠ Str.ofString "octet" := by decide
  refine list_loop hh hm hi F N (fun i m₁ => ∃ td uo, m₁ = fun y => if y = Str.ofString "due" then some (.int (vfold (ns.take i)) td) else if y = Str.ofString "octet" then uo else m₀ y)
    ⟨t0, m₀ (Str.ofString "octet"), funext fun y => ?_⟩ ?_ ?_
  · split
    · rename_i e; rw [e, hd]; rfl
    · split
      · rename_i e; rw [e]
      · rfl
  · rintro i n t m₁ s₁ own hn ⟨td, uo, rfl⟩ F₁ N₁
    have F₂ : Fr h₀ env.locals s₁.heap (fun y => if y = Str.ofString "octet" then some (.int n t) else if y = Str.ofString "due" then some (.int (vfold (ns.take i)) td) else m₀ y) := Fr.congr F₁ (by
      funext y
      by_cases e : y = Str.ofString "octet"
      · simp [e]
      · simp [e])
    refine wpAny_mono (turn i n t td s₁ own hn F₂ N₁) (fun f s₂ p => ?_) fun _ _ e => e
    obtain ⟨rfl, h', tk, t2, rfl, F₃, N₃⟩ := p
    rw [← vfold_take hn] at F₃
    exact ⟨rfl, h', tk, _, rfl, F₃, N₃, t2, _, rfl⟩
  · rintro h' tk m₂ F₂ N₂ ⟨td, uo, rfl⟩
    rw [List.take_length] at F₂
    exact done h' tk td uo F₂ N₂
theorem truthy_cons {prog : Program} {w : World} {A : Around} {E : Value → Shared → Prop} {s : Shared} {h₀ : Heap} {L l : Addr} {v : Value} {vs : List Value} {news : List (Addr × Obj)} {Q : Bool → Shared → Prop} (N : News h₀ L s.heap news) (hl : (l, LCg.lst (v :: vs)) ∈ news) (hz : (v :: vs).length ≤ 1000)
    (h : Q true { s with toks := s.toks + 1 + 1 }) : wpAny (model prog w) A (truthy (.ref l)) Q E s :=
  wpAny_truthy_list (N.isList (show (l, listOf (List.toArray (v :: vs)) _) ∈ news from hl)) (by rw [List.size_toArray]; omega) (by simpa using h)
theorem first_unique {r : List Int} {i j : Nat} (h3 : r.getD i 0 < 128) (h4 : ∀ k, k < i → 128 ≤ r.getD k 0) (h5 : r.getD j 0 < 128) (h6 : ∀ k, k < j → 128 ≤ r.getD k 0) : j = i := by
  rcases Nat.lt_trichotomy j i with h | h | h
  · have := h4 j h; omega
  · exact h
  · have := h6 i h; omega
end Mine

-- Wr
open PySem PySem.W PyProof.Rows PySem.Calls
set_option Elab.async false
set_option maxRecDepth 100000
set_option maxHeartbeats 1000000
namespace Mine
theorem fresh_Wr : True := by
  w_top off
  trivial
local macro_rules | `(tactic| k_room) => `(tactic| ((try simp only [depth_under_make, depth_under_kw, depth_in1, depth_deeper, depth_caller]); omega))
local macro_rules | `(tactic| k_all) => `(tactic| assumption)
theorem write_core {w : World} {A₀ : Around} {d u : Nat} {gs : Option (List Code)} {base h₀ : Heap} {env : Env} {outer : List Env} {L : Addr} {m mg mb : Str → Option Value} {s : Shared} {loose : List Str} {mean : ExcName → Option Value} {E : Value → Shared → Prop} {Q : Value → Shared → Prop} {rest : List (Addr × Obj)} {x dx l a : Addr} {ws us : List Value} {octs ns : List Int} {v k : Nat} {n : Int} {ta tb tc : Tok}
    (B : Below A₀ base outer h₀) (F : Fr h₀ L s.heap m) (X : (hd.heap_39 w.params).In h₀) (N : News h₀ L s.heap ((x, instObj 80 dx) :: (dx, pDict w l n ta tb tc) :: (l, listOf (List.toArray ws) v) :: (a, listOf (List.toArray us) k) :: rest)) (T : Top hd.view_39 loose mean mg mb h₀)
    (hf : env.frame = some L) (hke : env.scope.kind = .function) (hd : d + 20 < recursionLimit) (hu : u + 100 < cLine)
    (hxd : x ≠ dx) (hld : l ≠ dx) (had : a ≠ dx) (hoff : ∀ p ∈ rest, p.1 ≠ dx)
    (hI : IntsAre ws octs) (hIa : IntsAre us ns) (hlen : octs.length ≤ 1000) (hln : ns.length ≤ 1000)
    (hQ : ∀ D ws' h' tk, Fr h₀ L h' m → News h₀ L h' ((D, listOf (List.toArray ws') 0) :: (x, instObj 80 dx) :: (dx, pDict w D n ta tb tc) :: (l, listOf (List.toArray ws) v) :: (a, listOf (List.toArray us) k) :: rest) →
      (x < D ∧ dx < D ∧ l < D ∧ a < D ∧ AllLt D rest) → IntsAre ws' (octs ++ ns) → Q .none { s with heap := h', toks := tk }) :
    wpAny (model PySem.Challenge.rw_aa6022_01.row.prog w) ⟨none, d, some (env :: outer), gs, u⟩ (call (.ref 77) [.ref x, .ref a]) Q E s := by
  revert X; k_fill; intro X
  replace hQ := Shut.mk hQ
  refine wpAny_call ?_
  refine' code_def B F X N T rfl hf hke ?k6 ?k7 ?k8 ?k9 ?kB ?_ ?c2 ?c3 ?c4 ?c5
  case k6 => k_is
  case k7 => k_is
  case k8 => k_room
  case k9 => first | exact BindsTo.of_eq rfl | exact binds_K (by k_in) rfl (by k_is) rfl rfl rfl
  case kB => exact locs rfl
  case c2 => exact rfl
  case c3 => exact rfl
  case c4 => exact rfl
  case c5 => decide
  intro g' L' h' FG' F' N' B' X' T'
  (try dsimp only); (try k_lift B'); (try k_fold)
  k_steps
  (with_reducible rename IntsAre _ (_ ++ _) => hI1)
  (with_reducible rename News h₀ L _ _ => N2)
  (with_reducible rename Fr h₀ L _ _ => F2)
  (with_reducible rename _ ∧ _ ∧ _ ∧ _ ∧ AllLt _ _ => l1)
  (with_reducible rename _ ∧ _ ∧ _ ∧ _ ∧ _ ∧ AllLt _ _ => l2)
  exact hQ.out _ _ _ _ F2 (News.drop2 N2) l2.2 hI1
theorem write_spec {w : World} {A₀ : Around} {d u : Nat} {gs : Option (List Code)} {base h₀ : Heap} {env : Env} {outer : List Env} {L : Addr} {m mg mb : Str → Option Value} {s : Shared} {loose : List Str} {mean : ExcName → Option Value} {E : Value → Shared → Prop} {Q : Value → Shared → Prop} {news : List (Addr × Obj)} {f : Obj → List (Addr × Obj)} {x dx l a : Addr} {ws us : List Value} {octs ns : List Int} {v k : Nat} {n : Int} {ta tb tc : Tok}
    (B : Below A₀ base outer h₀) (F : Fr h₀ L s.heap m) (X : (hd.heap_39 w.params).In h₀) (N : News h₀ L s.heap (news)) (T : Top hd.view_39 loose mean mg mb h₀)
    (hf : env.frame = some L) (hke : env.scope.kind = .function) (hd : d + 20 < recursionLimit) (hu : u + 100 < cLine)
    (hx : (x, instObj 80 dx) ∈ news) (hl : (l, listOf (List.toArray ws) v) ∈ news) (ha : (a, listOf (List.toArray us) k) ∈ news) (U : UpdF dx (pDict w l n ta tb tc) news f)
    (hI : IntsAre ws octs) (hIa : IntsAre us ns) (hlen : octs.length ≤ 1000) (hln : ns.length ≤ 1000)
    (hQ : ∀ D ws' h' tk, Fr h₀ L h' m → News h₀ L h' ((D, listOf (List.toArray ws') 0) :: f (pDict w D n ta tb tc)) → (∀ p ∈ news, p.1 < D) → IntsAre ws' (octs ++ ns) → Q .none { s with heap := h', toks := tk }) :
    wpAny (model PySem.Challenge.rw_aa6022_01.row.prog w) ⟨none, d, some (env :: outer), gs, u⟩ (call (.ref 77) [.ref x, .ref a]) Q E s := by
  obtain ⟨rest, hoff, hin, hout⟩ := ledger_split hx hl U
  have N0 := News.sub N hin
  obtain ⟨hxd, hld⟩ := paper_apart N0
  have hd0 : (dx, pDict w l n ta tb tc) ∈ news := hin _ (.tail _ (.head _))
  have had : a ≠ dx := News.apart N (p := (a, _)) (q := (dx, _)) ha hd0 (by intro e; cases (congrArg Obj.data e))
  have N' : News h₀ L s.heap ((x, instObj 80 dx) :: (dx, pDict w l n ta tb tc) :: (l, listOf (List.toArray ws) v) :: (a, listOf (List.toArray us) k) :: rest) := News.sub N (fun p hp => by
    simp only [List.mem_cons] at hp
    rcases hp with rfl | rfl | rfl | rfl | hp
    · exact hx
    · exact hd0
    · exact hl
    · exact ha
    · exact hin _ (.tail _ (.tail _ (.tail _ hp))))
  refine write_core B F X N' T hf hke hd hu hxd hld had hoff hI hIa hlen hln (fun D ws' h' tk F' N' lt hw => hQ D ws' h' tk F' (News.sub N' (fun p hp => ?_)) (fun p hp => ?_) hw)
  · rcases List.mem_cons.mp hp with rfl | hp
    · exact .head _
    · have := hout _ p hp
      simp only [List.mem_cons] at this ⊢
      rcases this with h | h | h | h <;> simp [h]
  · obtain ⟨l1, l2, l3, l4, l5⟩ := lt
    by_cases e : p.1 = dx
    · rw [e]; exact l2
    · obtain ⟨pre, post, e1, hf', _, _⟩ := U.split
      have hp2 : p ∈ f (pDict w l n ta tb tc) := by rw [hf', ← e1]; exact hp
      have := hout _ p hp2
      simp only [List.mem_cons] at this
      rcases this with rfl | rfl | rfl | h
      · exact l1
      · exact l2
      · exact l3
      · exact allLt_all l5 p h
end Mine

-- D0
open PySem PySem.W PyProof.Rows PySem.Calls
set_option Elab.async false
set_option maxRecDepth 100000
set_option maxHeartbeats 4000000
namespace Mine
theorem fresh_D0 : True := by
  w_top off
  trivial
local macro_rules | `(tactic| walk_at "no such key") => `(tactic| skip)
local macro_rules | `(tactic| k_room) => `(tactic| ((try simp only [depth_under_make, depth_under_kw, depth_in1, depth_deeper, depth_caller]); omega))
local macro_rules | `(tactic| k_all) => `(tactic| assumption)
local macro_rules | `(tactic| walk_at "ite") => `(tactic| first
  | refine PySem.W.ite_pos (by (with_reducible rename Int.fmod _ 9 = _ => kk9); rw [kk9]; decide) ?_
  | refine PySem.W.ite_neg (by (with_reducible rename Int.fmod _ 9 = _ => kk9); rw [kk9]; decide) ?_)
theorem deed_0 {w : World} {A₀ : Around} {d u : Nat} {gs : Option (List Code)} {base h₀ : Heap} {env : Env} {outer : List Env} {L : Addr} {m mg mb : Str → Option Value} {s : Shared} {loose : List Str} {mean : ExcName → Option Value} {E : Value → Shared → Prop} {Q : Value → Shared → Prop} {rest : List (Addr × Obj)} {x dx l : Addr} {ws : List Value} {octs : List Int} {v : Nat} {n : Int} {ta tb tc : Tok} {lo mo : Addr} {wlo : List Value} {km klo : Nat} {tm tn : Tok} {nn : Int}
    (B : Below A₀ base outer h₀) (F : Fr h₀ L s.heap m) (X : (hd.heap_39 w.params).In h₀) (N : News h₀ L s.heap ((x, instObj 80 dx) :: (dx, pDict w l (n) ta tb tc) :: (l, listOf (List.toArray ws) v) :: (mo, listOf #[.ref lo, .int n tm] km) :: (lo, listOf (List.toArray wlo) klo) :: rest)) (T : Top hd.view_39 loose mean mg mb h₀)
    (D : KtsDicts (outer.filterMap (·.frame)) h₀)
    (hf : env.frame = some L) (hke : env.scope.kind = .function) (hd : d + 120 < recursionLimit) (hu : u + 600 < cLine)
    (XB : (Mine.hd.heap_39 w.params).In base) (TB : Top Mine.hd.view_39 loose mean mg mb base)
    (hxd : x ≠ dx) (hld : l ≠ dx) (hoff : ∀ p ∈ rest, p.1 ≠ dx)
    (hI : IntsAre ws octs) (hn : 0 ≤ n) (hlen : octs.length ≤ 900)
    (hmd : mo ≠ dx) (hod : lo ≠ dx) (hxm : x ≠ mo) (hdm : dx ≠ mo) (hlm : l ≠ mo) (hom : lo ≠ mo) (hoffm : ∀ p ∈ rest, p.1 ≠ mo)
    (hb : ∀ b ∈ octs, 0 ≤ b ∧ b < 256) (hIo : IntsAre wlo octs) (hno : n ≤ octs.length) (hnn : 0 ≤ nn ∧ nn < 1000000007) (hk : nn.fmod 9 = 0)
    (hQ : ∀ h₀' h' tk (octs' : List Int) (pl : Int) ws' l' v' wlo' lo' klo' ta' tc' tm' km', 0 ≤ pl ∧ pl ≤ (octs'.length : Int) → octs'.length ≤ octs.length + 20 → (∀ b ∈ octs', 0 ≤ b ∧ b < 256) → IntsAre ws' octs' → IntsAre wlo' octs' → KtsTurn (outer.filterMap (·.frame)) h₀ h₀' → Fr h₀' L h' m →
      News h₀' L h' ((x, instObj 80 dx) :: (dx, pDict w l' (pl) ta' tb tc') :: (l', listOf (List.toArray ws') v') :: (mo, listOf #[.ref lo', .int pl tm'] km') :: (lo', listOf (List.toArray wlo') klo') :: rest) → Below A₀ base outer h₀' → (Mine.hd.heap_39 w.params).In h₀' → Top Mine.hd.view_39 loose mean mg mb h₀' → KtsDicts (outer.filterMap (·.frame)) h₀' → Q (.bool true) { s with heap := h', toks := tk }) :
    wpAny (model PySem.Challenge.rw_aa6022_01.row.prog w) ⟨none, d, some (env :: outer), gs, u⟩ (call (.ref 165) [.ref x, .ref mo, .int nn tn]) Q E s := by
  revert X; k_fill; intro X
  replace hQ := Shut.mk hQ
  refine wpAny_call ?_
  refine' code_cellsT B F X N T XB TB D rfl hf hke ?k6 ?k7 ?k8 ?k9 ?kB ?kD ?_ ?c2 ?c3 ?c4
  case k6 => k_is
  case k7 => k_is
  case k8 => k_room
  case k9 => first | exact BindsTo.of_eq rfl | exact binds_K (by k_in) rfl (by k_is) rfl rfl rfl
  case kB => exact rfl
  case kD => decide +kernel
  case c2 => exact rfl
  case c3 => exact rfl
  case c4 => exact rfl
  intro g' L' h' tk' cells' FG' F' N' Y' B' X' T' D' l1
  (try k_lt l1); k_cells Y'; (try simp only [List.cons_append, List.nil_append] at N')
  have hr1 : ∀ p ∈ rest, p.1 ≠ L' + 1 := fun p hp => Nat.ne_of_lt (Nat.lt_succ_of_lt (allLt_all l1.2.2.2.2.2 p hp))
  have hr2 : ∀ p ∈ rest, p.1 ≠ L' + 1 + 1 := fun p hp => Nat.ne_of_lt (Nat.lt_succ_of_lt (Nat.lt_succ_of_lt (allLt_all l1.2.2.2.2.2 p hp)))
  have hrl : (octs.drop n.toNat).length ≤ octs.length := by rw [List.length_drop]; omega
  (try dsimp only); (try k_lift B'); (try k_fold)
  k_steps
  (with_reducible rename News _ L' _ _ => N9)
  (with_reducible rename Fr _ L' _ _ => F9)
  have hll : (octs.drop n.toNat).length = octs.length - n.toNat := List.length_drop
  have hs0 : 0 ≤ ((nn.fdiv 9).fmod 7) := Int.fmod_nonneg_of_pos _ (by decide)
  rw [take_run octs n _ hn hs0] at N9
  have htl : (((octs.drop n.toNat).take ((nn.fdiv 9).fmod 7).toNat).length : Int) ≤ (octs.drop n.toNat).length := by rw [List.length_take]; omega
  refine ⟨_, _, _, _, KtsTurn.refl, F9, N9, fun h0' TT FF NN BB XX PP DD => ?_⟩
  refine bool_true (decide_eq_true (take_run octs n _ hn hs0)) ?_
  exact hQ.out h0' _ _ octs (n + (((octs.drop n.toNat).take ((nn.fdiv 9).fmod 7).toNat).length : Int)) _ _ _ _ _ _ _ _ _ _ ⟨by omega, by omega⟩ (by omega) hb hI hIo TT FF (News.sub NN (fun p hp => by
    simp only [List.mem_cons] at hp ⊢
    rcases hp with h | h | h | h | h | h
    all_goals repeat (first | exact h | exact Or.inl h | refine Or.inr ?_))) BB XX PP DD
end Mine

-- D1
open PySem PySem.W PyProof.Rows PySem.Calls
set_option Elab.async false
set_option maxRecDepth 100000
set_option maxHeartbeats 4000000
namespace Mine
theorem fresh_D1 : True := by
  w_top off
  trivial
local macro_rules | `(tactic| walk_at "no such key") => `(tactic| skip)
local macro_rules | `(tactic| walk_at "no such key") => `(tactic| skip)
local macro_rules | `(tactic| walk_at "no such key") => `(tactic| skip)
local macro_rules | `(tactic| k_room) => `(tactic| ((try simp only [depth_under_make, depth_under_kw, depth_in1, depth_deeper, depth_caller]); omega))
local macro_rules | `(tactic| k_all) => `(tactic| assumption)
local macro_rules | `(tactic| walk_at "call ref") => `(tactic| ((with_reducible show wpAny _ _ (call (Value.ref 98) _) _ _ _); k_dflt (refine' read_byte_spec ?B ?F ?X ?N ?T ?D ?hf ?hke ?hd ?hu ?hx ?hl ?U ?hI ?hn ?hlen ?_ ?_; (case F => k_asm); (case B => k_asm); (case X => k_asm); (case N => k_asm); (case T => k_asm); (case D => k_asm); (case hf => exact rfl); (case hke => exact rfl); (case hd => first | omega | ((try simp only [depth_under_make, depth_under_kw, depth_in1, depth_deeper, depth_caller, PySem.W.depth_mark]); (try dsimp only); omega) | decide); (case hu => first | omega | ((try simp only [Around.deeper_units, Around.in1_units, Around.mark_units]); (try dsimp only); omega) | decide); (case hx => k_mem); (case U => k_updF); (case hl => k_mem); (case hI => k_asm); (case hn => first | assumption | omega); (case hlen => first | assumption | omega)); (intro b' r' h' tk' tb' tc' hd' F' N'; (try k_sweep)); rotate_left; (intro g' h' e' t' tk' tc' hd' FG' R' U'); rotate_left))
local macro_rules | `(tactic| walk_at "exec Try") => `(tactic| ((with_reducible show wpAny _ _ (exec (Stmt.Try _ (_ :: _) _ [] _) _) _ _ _); refine wpAny_Try_except ?_))
local macro_rules | `(tactic| walk_at "noteFrame ref") => `(tactic| ((with_reducible show wpAny _ _ (noteFrame _ _) (fun _ s₂ => wpAny _ _ (setFlight _ none) (fun _ s₃ => wpAny _ _ (handleBy _ _ _) _ _ s₃) _ s₂) _ _); k_dflt (refine' look_any ?fr ?f ?R ?U ?_; (case R => assumption); (case fr => exact rfl); (case f => exact rfl); (case U => assumption)); intro h' R' U'))
local macro_rules | `(tactic| walk_at "handleBy ref") => `(tactic| (k_dflt (first
  | (refine' pass_any ?f ?R ?F ?K ?U ?XB ?TB ?T ?_; (case R => assumption); (case f => exact rfl); (case F => assumption); (case K => assumption); (case U => assumption); (case XB => assumption); (case TB => assumption); (case T => exact ⟨fun _ _ _ _ _ _ kF kX kT kq => nameX_K kF kX kT (by k_is) kq rfl rfl (by decide), by kts_exm⟩))
  | (refine' hit_any ?f ?R ?F ?K ?U ?XB ?TB ?D ?T0 ?T ?_ ?hE; (case R => assumption); (case f => exact rfl); (case F => assumption); (case K => assumption); (case U => assumption); (case XB => assumption); (case TB => assumption); (case D => assumption); (case T0 => first | assumption | exact KtsTurn.refl); (case T => exact ⟨fun _ _ _ _ _ _ kF kX kT kq => nameX_K kF kX kT (by k_is) kq rfl rfl (by decide), by kts_exm⟩); (case hE => passes_own); intro h' g' T' F' N' B' X' P' D'; (try k_sweep)))))
local macro_rules | `(tactic| walk_at "ite") => `(tactic| first
  | refine PySem.W.ite_pos (by (with_reducible rename Int.fmod _ 9 = _ => kk9); rw [kk9]; decide) ?_
  | refine PySem.W.ite_neg (by (with_reducible rename Int.fmod _ 9 = _ => kk9); rw [kk9]; decide) ?_)
theorem deed_1 {w : World} {A₀ : Around} {d u : Nat} {gs : Option (List Code)} {base h₀ : Heap} {env : Env} {outer : List Env} {L : Addr} {m mg mb : Str → Option Value} {s : Shared} {loose : List Str} {mean : ExcName → Option Value} {E : Value → Shared → Prop} {Q : Value → Shared → Prop} {rest : List (Addr × Obj)} {x dx l : Addr} {ws : List Value} {octs : List Int} {v : Nat} {n : Int} {ta tb tc : Tok} {lo mo : Addr} {wlo : List Value} {km klo : Nat} {tm tn : Tok} {nn : Int}
    (B : Below A₀ base outer h₀) (F : Fr h₀ L s.heap m) (X : (hd.heap_39 w.params).In h₀) (N : News h₀ L s.heap ((x, instObj 80 dx) :: (dx, pDict w l (n) ta tb tc) :: (l, listOf (List.toArray ws) v) :: (mo, listOf #[.ref lo, .int n tm] km) :: (lo, listOf (List.toArray wlo) klo) :: rest)) (T : Top hd.view_39 loose mean mg mb h₀)
    (D : KtsDicts (outer.filterMap (·.frame)) h₀)
    (hf : env.frame = some L) (hke : env.scope.kind = .function) (hd : d + 120 < recursionLimit) (hu : u + 600 < cLine)
    (XB : (Mine.hd.heap_39 w.params).In base) (TB : Top Mine.hd.view_39 loose mean mg mb base)
    (hxd : x ≠ dx) (hld : l ≠ dx) (hoff : ∀ p ∈ rest, p.1 ≠ dx)
    (hI : IntsAre ws octs) (hn : 0 ≤ n) (hlen : octs.length ≤ 900)
    (hmd : mo ≠ dx) (hod : lo ≠ dx) (hxm : x ≠ mo) (hdm : dx ≠ mo) (hlm : l ≠ mo) (hom : lo ≠ mo) (hoffm : ∀ p ∈ rest, p.1 ≠ mo)
    (hb : ∀ b ∈ octs, 0 ≤ b ∧ b < 256) (hIo : IntsAre wlo octs) (hno : n ≤ octs.length) (hnn : 0 ≤ nn ∧ nn < 1000000007) (hk : nn.fmod 9 = 1)
    (hQ : ∀ h₀' h' tk (octs' : List Int) (pl : Int) ws' l' v' wlo' lo' klo' ta' tc' tm' km', 0 ≤ pl ∧ pl ≤ (octs'.length : Int) → octs'.length ≤ octs.length + 20 → (∀ b ∈ octs', 0 ≤ b ∧ b < 256) → IntsAre ws' octs' → IntsAre wlo' octs' → KtsTurn (outer.filterMap (·.frame)) h₀ h₀' → Fr h₀' L h' m →
      News h₀' L h' ((x, instObj 80 dx) :: (dx, pDict w l' (pl) ta' tb tc') :: (l', listOf (List.toArray ws') v') :: (mo, listOf #[.ref lo', .int pl tm'] km') :: (lo', listOf (List.toArray wlo') klo') :: rest) → Below A₀ base outer h₀' → (Mine.hd.heap_39 w.params).In h₀' → Top Mine.hd.view_39 loose mean mg mb h₀' → KtsDicts (outer.filterMap (·.frame)) h₀' → Q (.bool true) { s with heap := h', toks := tk }) :
    wpAny (model PySem.Challenge.rw_aa6022_01.row.prog w) ⟨none, d, some (env :: outer), gs, u⟩ (call (.ref 165) [.ref x, .ref mo, .int nn tn]) Q E s := by
  revert X; k_fill; intro X
  replace hQ := Shut.mk hQ
  refine wpAny_call ?_
  refine' code_cellsT B F X N T XB TB D rfl hf hke ?k6 ?k7 ?k8 ?k9 ?kB ?kD ?_ ?c2 ?c3 ?c4
  case k6 => k_is
  case k7 => k_is
  case k8 => k_room
  case k9 => first | exact BindsTo.of_eq rfl | exact binds_K (by k_in) rfl (by k_is) rfl rfl rfl
  case kB => exact rfl
  case kD => decide +kernel
  case c2 => exact rfl
  case c3 => exact rfl
  case c4 => exact rfl
  intro g' L' h' tk' cells' FG' F' N' Y' B' X' T' D' l1
  (try k_lt l1); k_cells Y'; (try simp only [List.cons_append, List.nil_append] at N')
  have hr1 : ∀ p ∈ rest, p.1 ≠ L' + 1 := fun p hp => Nat.ne_of_lt (Nat.lt_succ_of_lt (allLt_all l1.2.2.2.2.2 p hp))
  have hr2 : ∀ p ∈ rest, p.1 ≠ L' + 1 + 1 := fun p hp => Nat.ne_of_lt (Nat.lt_succ_of_lt (Nat.lt_succ_of_lt (allLt_all l1.2.2.2.2.2 p hp)))
  have hrl : (octs.drop n.toNat).length ≤ octs.length := by rw [List.length_drop]; omega
  (try dsimp only); (try k_lift B'); (try k_fold)
  k_steps
  · exfalso
    (with_reducible rename List.drop _ _ = _ :: _ => hd2)
    (with_reducible rename decide _ = true => hz)
    have hz := of_decide_eq_true hz
    rw [hd2] at hz
    cases hz
  ·
    (with_reducible rename News _ L' _ _ => N9)
    (with_reducible rename Fr _ L' _ _ => F9)
    (with_reducible rename List.drop _ _ = _ :: _ => hd2)
    have hll : (octs.drop n.toNat).length = octs.length - n.toNat := List.length_drop
    have hl1 := congrArg List.length hd2
    rw [List.length_cons] at hl1
    refine ⟨_, _, _, _, KtsTurn.refl, F9, N9, fun h0' TT FF NN BB XX PP DD => ?_⟩
    refine bool_true (by rw [hd2]; simp) ?_
    exact hQ.out h0' _ _ octs (n + 1) _ _ _ _ _ _ _ _ _ _ ⟨by omega, by omega⟩ (by omega) hb hI hIo TT FF (News.sub NN (fun p hp => by
      simp only [List.mem_cons] at hp ⊢
      rcases hp with h | h | h | h | h | h
      all_goals repeat (first | exact h | exact Or.inl h | refine Or.inr ?_))) BB XX PP DD
  ·
    (with_reducible rename News _ L' _ _ => N9)
    (with_reducible rename Fr _ L' _ _ => F9)
    (with_reducible rename List.drop _ _ = [] => hd2)
    (with_reducible rename KtsTurn _ g' _ => T9)
    refine ⟨_, _, _, _, T9, F9, N9, fun h0' TT FF NN BB XX PP DD => ?_⟩
    refine bool_true (decide_eq_true hd2) ?_
    exact hQ.out h0' _ _ octs n _ _ _ _ _ _ _ _ _ _ ⟨by omega, by omega⟩ (by omega) hb hI hIo TT FF (News.sub NN (fun p hp => by
      simp only [List.mem_cons] at hp ⊢
      rcases hp with h | h | h | h | h | h
      all_goals repeat (first | exact h | exact Or.inl h | refine Or.inr ?_))) BB XX PP DD
end Mine

-- D2
open PySem PySem.W PyProof.Rows PySem.Calls
set_option Elab.async false
set_option maxRecDepth 100000
set_option maxHeartbeats 4000000
namespace Mine
theorem fresh_D2 : True := by
  w_top off
  trivial
local macro_rules | `(tactic| k_room) => `(tactic| ((try simp only [depth_under_make, depth_under_kw, depth_in1, depth_deeper, depth_caller]); omega))
local macro_rules | `(tactic| k_all) => `(tactic| assumption)
theorem many_val {z k c : Int} (hz : 0 ≤ z ∧ z < 7) (hk : 0 ≤ k ∧ k < 5) (h : [z, z, z, 1000000, 1000001].getD k.toNat 0 = c) : (0 ≤ c ∧ c ≤ 1000000) ∨ c = 1000001 := by
  have : k = 0 ∨ k = 1 ∨ k = 2 ∨ k = 3 ∨ k = 4 := by omega
  rcases this with rfl | rfl | rfl | rfl | rfl <;> simp at h <;> omega
theorem rfault_any {w : World} {A₀ : Around} {d u : Nat} {gs : Option (List Code)} {base h₀ : Heap} {env : Env} {outer : List Env} {L : Addr} {m mg mb : Str → Option Value} {s : Shared} {loose : List Str} {mean : ExcName → Option Value} {E : Value → Shared → Prop} {Q : Value → Shared → Prop} {news : List (Addr × Obj)} {f : Obj → List (Addr × Obj)} {x dx l : Addr} {ws : List Value} {octs : List Int} {v : Nat} {n : Int} {ta tb tc : Tok} {ts : Tok} {size : Int}
    (B : Below A₀ base outer h₀) (F : Fr h₀ L s.heap m) (X : (Mine.hd.heap_39 w.params).In h₀) (N : News h₀ L s.heap (news)) (T : Top Mine.hd.view_39 loose mean mg mb h₀)
    (D : KtsDicts (outer.filterMap (·.frame)) h₀)
    (hf : env.frame = some L) (hke : env.scope.kind = .function) (hd : d + 40 < recursionLimit) (hu : u + 200 < cLine)
    (hx : (x, instObj 80 dx) ∈ news) (hl : (l, listOf ws.toArray v) ∈ news) (U : UpdF dx (pDict w l n ta tb tc) news f)
    (hI : IntsAre ws octs) (hn : 0 ≤ n) (hlen : octs.length ≤ 1000)
    (hs : size = 1000001)
    (hF : ∀ g h' e t vs tk, Fr h₀ L g m → RaisedS base g (env :: outer) e (.ref 37) t vs (news) h' → g.UpToSlots h' → E (.ref e) { s with heap := h', toks := tk }) :
    wpAny (model PySem.Challenge.rw_aa6022_01.row.prog w) ⟨none, d, some (env :: outer), gs, u⟩ (call (.ref 103) [.ref x, .int size ts]) Q E s := by
  subst hs
  exact rfault_spec B F X N T D hf hke hd hu hx hl U hI hn hlen hF
local macro_rules | `(tactic| walk_at "call ref") => `(tactic| ((with_reducible show wpAny _ _ (call (Value.ref 103) _) _ _ _); k_dflt (refine' rbytes_spec ?B ?F ?X ?N ?T ?D ?hf ?hke ?hd ?hu ?hx ?hl ?U ?hI ?hn ?hlen ?hs ?_ ?_; (case F => k_asm); (case B => k_asm); (case X => k_asm); (case N => k_asm); (case T => k_asm); (case D => k_asm); (case hf => exact rfl); (case hke => exact rfl); (case hd => first | omega | ((try simp only [depth_under_make, depth_under_kw, depth_in1, depth_deeper, depth_caller, PySem.W.depth_mark]); (try dsimp only); omega) | decide); (case hu => first | omega | ((try simp only [Around.deeper_units, Around.in1_units, Around.mark_units]); (try dsimp only); omega) | decide); (case hx => k_mem); (case U => k_updF); (case hl => k_mem); (case hI => k_asm); (case hn => first | assumption | omega); (case hlen => first | assumption | omega); (case hs => omega)); (intro D' h' tk' tc' wr' vr' hz' F' N' l1 hI'; (try k_lt l1); (try k_sweep)); rotate_left; (intro g' h' e' t' tk' tc' hz' FG' R' U'); rotate_left))
local macro_rules | `(tactic| walk_at "call ref") => `(tactic| ((with_reducible show wpAny _ _ (call (Value.ref 103) _) _ _ _); k_dflt (refine' rfault_any ?B ?F ?X ?N ?T ?D ?hf ?hke ?hd ?hu ?hx ?hl ?U ?hI ?hn ?hlen ?hs ?_; (case F => k_asm); (case B => k_asm); (case X => k_asm); (case N => k_asm); (case T => k_asm); (case D => k_asm); (case hf => exact rfl); (case hke => exact rfl); (case hd => first | omega | ((try simp only [depth_under_make, depth_under_kw, depth_in1, depth_deeper, depth_caller, PySem.W.depth_mark]); (try dsimp only); omega) | decide); (case hu => first | omega | ((try simp only [Around.deeper_units, Around.in1_units, Around.mark_units]); (try dsimp only); omega) | decide); (case hx => k_mem); (case U => k_updF); (case hl => k_mem); (case hI => k_asm); (case hn => first | assumption | omega); (case hlen => first | assumption | omega); (case hs => assumption)); (intro g' h' e' t' vs' tk' FG' R' U')))
local macro_rules | `(tactic| walk_at "exec Try") => `(tactic| ((with_reducible show wpAny _ _ (exec (Stmt.Try _ (_ :: _) _ [] _) _) _ _ _); refine wpAny_Try_except ?_))
local macro_rules | `(tactic| walk_at "noteFrame ref") => `(tactic| ((with_reducible show wpAny _ _ (noteFrame _ _) (fun _ s₂ => wpAny _ _ (setFlight _ none) (fun _ s₃ => wpAny _ _ (handleBy _ _ _) _ _ s₃) _ s₂) _ _); k_dflt (refine' look_any ?fr ?f ?R ?U ?_; (case R => assumption); (case fr => exact rfl); (case f => exact rfl); (case U => assumption)); intro h' R' U'))
local macro_rules | `(tactic| walk_at "handleBy ref") => `(tactic| (k_dflt (first
  | (refine' pass_any ?f ?R ?F ?K ?U ?XB ?TB ?T ?_; (case R => assumption); (case f => exact rfl); (case F => assumption); (case K => assumption); (case U => assumption); (case XB => assumption); (case TB => assumption); (case T => exact ⟨fun _ _ _ _ _ _ kF kX kT kq => nameX_K kF kX kT (by k_is) kq rfl rfl (by decide), by kts_exm⟩))
  | (refine' hit_any ?f ?R ?F ?K ?U ?XB ?TB ?D ?T0 ?T ?_ ?hE; (case R => assumption); (case f => exact rfl); (case F => assumption); (case K => assumption); (case U => assumption); (case XB => assumption); (case TB => assumption); (case D => assumption); (case T0 => first | assumption | exact KtsTurn.refl); (case T => exact ⟨fun _ _ _ _ _ _ kF kX kT kq => nameX_K kF kX kT (by k_is) kq rfl rfl (by decide), by kts_exm⟩); (case hE => passes_own); intro h' g' T' F' N' B' X' P' D'; (try k_sweep)))))
local macro_rules | `(tactic| walk_at "ite") => `(tactic| first
  | refine PySem.W.ite_pos (by (with_reducible rename Int.fmod _ 9 = _ => kk9); rw [kk9]; decide) ?_
  | refine PySem.W.ite_neg (by (with_reducible rename Int.fmod _ 9 = _ => kk9); rw [kk9]; decide) ?_)
theorem deed_2 {w : World} {A₀ : Around} {d u : Nat} {gs : Option (List Code)} {base h₀ : Heap} {env : Env} {outer : List Env} {L : Addr} {m mg mb : Str → Option Value} {s : Shared} {loose : List Str} {mean : ExcName → Option Value} {E : Value → Shared → Prop} {Q : Value → Shared → Prop} {rest : List (Addr × Obj)} {x dx l : Addr} {ws : List Value} {octs : List Int} {v : Nat} {n : Int} {ta tb tc : Tok} {lo mo : Addr} {wlo : List Value} {km klo : Nat} {tm tn : Tok} {nn : Int}
    (B : Below A₀ base outer h₀) (F : Fr h₀ L s.heap m) (X : (hd.heap_39 w.params).In h₀) (N : News h₀ L s.heap ((x, instObj 80 dx) :: (dx, pDict w l (n) ta tb tc) :: (l, listOf (List.toArray ws) v) :: (mo, listOf #[.ref lo, .int n tm] km) :: (lo, listOf (List.toArray wlo) klo) :: rest)) (T : Top hd.view_39 loose mean mg mb h₀)
    (D : KtsDicts (outer.filterMap (·.frame)) h₀)
    (hf : env.frame = some L) (hke : env.scope.kind = .function) (hd : d + 120 < recursionLimit) (hu : u + 600 < cLine)
    (XB : (Mine.hd.heap_39 w.params).In base) (TB : Top Mine.hd.view_39 loose mean mg mb base)
    (hxd : x ≠ dx) (hld : l ≠ dx) (hoff : ∀ p ∈ rest, p.1 ≠ dx)
    (hI : IntsAre ws octs) (hn : 0 ≤ n) (hlen : octs.length ≤ 900)
    (hmd : mo ≠ dx) (hod : lo ≠ dx) (hxm : x ≠ mo) (hdm : dx ≠ mo) (hlm : l ≠ mo) (hom : lo ≠ mo) (hoffm : ∀ p ∈ rest, p.1 ≠ mo)
    (hb : ∀ b ∈ octs, 0 ≤ b ∧ b < 256) (hIo : IntsAre wlo octs) (hno : n ≤ octs.length) (hnn : 0 ≤ nn ∧ nn < 1000000007) (hk : nn.fmod 9 = 2)
    (hQ : ∀ h₀' h' tk (octs' : List Int) (pl : Int) ws' l' v' wlo' lo' klo' ta' tc' tm' km', 0 ≤ pl ∧ pl ≤ (octs'.length : Int) → octs'.length ≤ octs.length + 20 → (∀ b ∈ octs', 0 ≤ b ∧ b < 256) → IntsAre ws' octs' → IntsAre wlo' octs' → KtsTurn (outer.filterMap (·.frame)) h₀ h₀' → Fr h₀' L h' m →
      News h₀' L h' ((x, instObj 80 dx) :: (dx, pDict w l' (pl) ta' tb tc') :: (l', listOf (List.toArray ws') v') :: (mo, listOf #[.ref lo', .int pl tm'] km') :: (lo', listOf (List.toArray wlo') klo') :: rest) → Below A₀ base outer h₀' → (Mine.hd.heap_39 w.params).In h₀' → Top Mine.hd.view_39 loose mean mg mb h₀' → KtsDicts (outer.filterMap (·.frame)) h₀' → Q (.bool true) { s with heap := h', toks := tk }) :
    wpAny (model PySem.Challenge.rw_aa6022_01.row.prog w) ⟨none, d, some (env :: outer), gs, u⟩ (call (.ref 165) [.ref x, .ref mo, .int nn tn]) Q E s := by
  revert X; k_fill; intro X
  replace hQ := Shut.mk hQ
  refine wpAny_call ?_
  refine' code_cellsT B F X N T XB TB D rfl hf hke ?k6 ?k7 ?k8 ?k9 ?kB ?kD ?_ ?c2 ?c3 ?c4
  case k6 => k_is
  case k7 => k_is
  case k8 => k_room
  case k9 => first | exact BindsTo.of_eq rfl | exact binds_K (by k_in) rfl (by k_is) rfl rfl rfl
  case kB => exact rfl
  case kD => decide +kernel
  case c2 => exact rfl
  case c3 => exact rfl
  case c4 => exact rfl
  intro g' L' h' tk' cells' FG' F' N' Y' B' X' T' D' l1
  (try k_lt l1); k_cells Y'; (try simp only [List.cons_append, List.nil_append] at N')
  have hr1 : ∀ p ∈ rest, p.1 ≠ L' + 1 := fun p hp => Nat.ne_of_lt (Nat.lt_succ_of_lt (allLt_all l1.2.2.2.2.2 p hp))
  have hr2 : ∀ p ∈ rest, p.1 ≠ L' + 1 + 1 := fun p hp => Nat.ne_of_lt (Nat.lt_succ_of_lt (Nat.lt_succ_of_lt (allLt_all l1.2.2.2.2.2 p hp)))
  have hrl : (octs.drop n.toNat).length ≤ octs.length := by rw [List.length_drop]; omega
  (try dsimp only); (try k_lift B'); (try k_fold)
  iterate 160 (try ((fail_if_success (with_reducible show wpAny _ _ (storeName _ _ (Value.int (List.getD _ _ _) _)) _ _ _)); (first | (k_unfold; (try dsimp only)) | (k_end; wrow_close) | walk1 | (dsimp only; walk1) | (leave1; walk_say "STEP leave1"; try dsimp only))))
  generalize hc9 : List.getD [(nn.fdiv 9).fmod 7, (nn.fdiv 9).fmod 7, (nn.fdiv 9).fmod 7, 1000000, 1000001] ((nn.fdiv 63).fmod 5).toNat 0 = c9
  have h9 := many_val mod_bounds.2.2.1 mod_bounds.2.1 hc9
  clear hc9
  rcases h9 with h9 | h9
  · k_steps
    ·
      (with_reducible rename News _ L' _ _ => N9)
      (with_reducible rename Fr _ L' _ _ => F9)
      have hll : (octs.drop n.toNat).length = octs.length - n.toNat := List.length_drop
      refine ⟨_, _, _, _, KtsTurn.refl, F9, N9, fun h0' TT FF NN BB XX PP DD => ?_⟩
      refine bool_true (by simp) ?_
      exact hQ.out h0' _ _ octs (n + c9) _ _ _ _ _ _ _ _ _ _ ⟨by omega, by omega⟩ (by omega) hb hI hIo TT FF (News.sub NN (fun p hp => by
        simp only [List.mem_cons] at hp ⊢
        rcases hp with h | h | h | h | h | h
        all_goals repeat (first | exact h | exact Or.inl h | refine Or.inr ?_))) BB XX PP DD
    ·
      (with_reducible rename News _ L' _ _ => N9)
      (with_reducible rename Fr _ L' _ _ => F9)
      have hll : (octs.drop n.toNat).length = octs.length - n.toNat := List.length_drop
      have e9 : (octs.length : Int) = n + (octs.drop n.toNat).length := by omega
      rw [e9] at N9
      (with_reducible rename KtsTurn _ g' _ => T9)
      refine ⟨_, _, _, _, T9, F9, N9, fun h0' TT FF NN BB XX PP DD => ?_⟩
      refine bool_true (decide_eq_true (by omega)) ?_
      exact hQ.out h0' _ _ octs (n + ((octs.drop n.toNat).length : Int)) _ _ _ _ _ _ _ _ _ _ ⟨by omega, by omega⟩ (by omega) hb hI hIo TT FF (News.sub NN (fun p hp => by
        simp only [List.mem_cons] at hp ⊢
        rcases hp with h | h | h | h | h | h
        all_goals repeat (first | exact h | exact Or.inl h | refine Or.inr ?_))) BB XX PP DD
  · k_steps
    (with_reducible rename News _ L' _ _ => N9)
    (with_reducible rename Fr _ L' _ _ => F9)
    (with_reducible rename KtsTurn _ g' _ => T9)
    refine ⟨_, _, _, _, T9, F9, N9, fun h0' TT FF NN BB XX PP DD => ?_⟩
    refine bool_true (decide_eq_true (by omega)) ?_
    exact hQ.out h0' _ _ octs n _ _ _ _ _ _ _ _ _ _ ⟨by omega, by omega⟩ (by omega) hb hI hIo TT FF (News.sub NN (fun p hp => by
      simp only [List.mem_cons] at hp ⊢
      rcases hp with h | h | h | h | h | h
      all_goals repeat (first | exact h | exact Or.inl h | refine Or.inr ?_))) BB XX PP DD
end Mine

-- D3
open PySem PySem.W PyProof.Rows PySem.Calls
set_option Elab.async false
set_option maxRecDepth 100000
set_option maxHeartbeats 4000000
namespace Mine
theorem fresh_D3 : True := by
  w_top off
  trivial
local macro_rules | `(tactic| walk_at "no such key") => `(tactic| skip)
local macro_rules | `(tactic| walk_at "no such key") => `(tactic| skip)
local macro_rules | `(tactic| walk_at "no such key") => `(tactic| skip)
local macro_rules | `(tactic| walk_at "no such key") => `(tactic| skip)
local macro_rules | `(tactic| walk_at "no such key") => `(tactic| skip)
local macro_rules | `(tactic| walk_at "no such key") => `(tactic| skip)
local macro_rules | `(tactic| walk_at "no such key") => `(tactic| skip)
local macro_rules | `(tactic| k_room) => `(tactic| ((try simp only [depth_under_make, depth_under_kw, depth_in1, depth_deeper, depth_caller]); omega))
local macro_rules | `(tactic| k_all) => `(tactic| assumption)
local macro_rules | `(tactic| walk_at "call ref") => `(tactic| ((with_reducible show wpAny _ _ (call (Value.ref 110) _) _ _ _); k_dflt (refine' chunk_spec ?B ?F ?X ?N ?T ?D ?hf ?hke ?hd ?hu ?hx ?hl ?U ?hI ?hn ?hlen ?hb ?_ ?_; (case F => k_asm); (case B => k_asm); (case X => k_asm); (case N => k_asm); (case T => k_asm); (case D => k_asm); (case hf => exact rfl); (case hke => exact rfl); (case hd => first | omega | ((try simp only [depth_under_make, depth_under_kw, depth_in1, depth_deeper, depth_caller, PySem.W.depth_mark]); (try dsimp only); omega) | decide); (case hu => first | omega | ((try simp only [Around.deeper_units, Around.in1_units, Around.mark_units]); (try dsimp only); omega) | decide); (case hx => k_mem); (case U => k_updF); (case hl => k_mem); (case hI => k_asm); (case hn => first | assumption | omega); (case hlen => first | assumption | omega); (case hb => assumption)); (intro P' NM' h' tk' tc' tw' wn' h8' hW' F' N' l1 l2 hI4'; (try k_lt l1); (try k_lt2 l2); (try k_sweep)); rotate_left; (intro g' h' e' t' tk' tc' h8' FG' R' U'); rotate_left))
local macro_rules | `(tactic| walk_at "call ref") => `(tactic| ((with_reducible show wpAny _ _ (call (Value.ref 146) _) _ _ _); k_dflt (refine' lword_spec ?B ?F ?X ?N ?T ?hf ?hke ?hd ?hu ?hD ?hI ?h8 ?hb ?_; (case F => k_asm); (case B => k_asm); (case X => k_asm); (case N => k_asm); (case T => k_asm); (case hf => exact rfl); (case hke => exact rfl); (case hd => first | omega | ((try simp only [depth_under_make, depth_under_kw, depth_in1, depth_deeper, depth_caller, PySem.W.depth_mark]); (try dsimp only); omega) | decide); (case hu => first | omega | ((try simp only [Around.deeper_units, Around.in1_units, Around.mark_units]); (try dsimp only); omega) | decide); (case hD => k_mem); (case hI => k_asm); (case h8 => first | assumption | omega); (case hb => exact fun i => drop_byte (by assumption) _ i)); intro h' tk' t' F' N'; (try k_sweep)))
local macro_rules | `(tactic| walk_at "exec Try") => `(tactic| ((with_reducible show wpAny _ _ (exec (Stmt.Try _ (_ :: _) _ [] _) _) _ _ _); refine wpAny_Try_except ?_))
local macro_rules | `(tactic| walk_at "noteFrame ref") => `(tactic| ((with_reducible show wpAny _ _ (noteFrame _ _) (fun _ s₂ => wpAny _ _ (setFlight _ none) (fun _ s₃ => wpAny _ _ (handleBy _ _ _) _ _ s₃) _ s₂) _ _); k_dflt (refine' look_any ?fr ?f ?R ?U ?_; (case R => assumption); (case fr => exact rfl); (case f => exact rfl); (case U => assumption)); intro h' R' U'))
local macro_rules | `(tactic| walk_at "handleBy ref") => `(tactic| (k_dflt (first
  | (refine' pass_any ?f ?R ?F ?K ?U ?XB ?TB ?T ?_; (case R => assumption); (case f => exact rfl); (case F => assumption); (case K => assumption); (case U => assumption); (case XB => assumption); (case TB => assumption); (case T => exact ⟨fun _ _ _ _ _ _ kF kX kT kq => nameX_K kF kX kT (by k_is) kq rfl rfl (by decide), by kts_exm⟩))
  | (refine' hit_any ?f ?R ?F ?K ?U ?XB ?TB ?D ?T0 ?T ?_ ?hE; (case R => assumption); (case f => exact rfl); (case F => assumption); (case K => assumption); (case U => assumption); (case XB => assumption); (case TB => assumption); (case D => assumption); (case T0 => first | assumption | exact KtsTurn.refl); (case T => exact ⟨fun _ _ _ _ _ _ kF kX kT kq => nameX_K kF kX kT (by k_is) kq rfl rfl (by decide), by kts_exm⟩); (case hE => passes_own); intro h' g' T' F' N' B' X' P' D'; (try k_sweep)))))
local macro_rules | `(tactic| walk_at "ite") => `(tactic| first
  | refine PySem.W.ite_pos (by (with_reducible rename Int.fmod _ 9 = _ => kk9); rw [kk9]; decide) ?_
  | refine PySem.W.ite_neg (by (with_reducible rename Int.fmod _ 9 = _ => kk9); rw [kk9]; decide) ?_)
theorem deed_3 {w : World} {A₀ : Around} {d u : Nat} {gs : Option (List Code)} {base h₀ : Heap} {env : Env} {outer : List Env} {L : Addr} {m mg mb : Str → Option Value} {s : Shared} {loose : List Str} {mean : ExcName → Option Value} {E : Value → Shared → Prop} {Q : Value → Shared → Prop} {rest : List (Addr × Obj)} {x dx l : Addr} {ws : List Value} {octs : List Int} {v : Nat} {n : Int} {ta tb tc : Tok} {lo mo : Addr} {wlo : List Value} {km klo : Nat} {tm tn : Tok} {nn : Int}
    (B : Below A₀ base outer h₀) (F : Fr h₀ L s.heap m) (X : (hd.heap_39 w.params).In h₀) (N : News h₀ L s.heap ((x, instObj 80 dx) :: (dx, pDict w l (n) ta tb tc) :: (l, listOf (List.toArray ws) v) :: (mo, listOf #[.ref lo, .int n tm] km) :: (lo, listOf (List.toArray wlo) klo) :: rest)) (T : Top hd.view_39 loose mean mg mb h₀)
    (D : KtsDicts (outer.filterMap (·.frame)) h₀)
    (hf : env.frame = some L) (hke : env.scope.kind = .function) (hd : d + 120 < recursionLimit) (hu : u + 600 < cLine)
    (XB : (Mine.hd.heap_39 w.params).In base) (TB : Top Mine.hd.view_39 loose mean mg mb base)
    (hxd : x ≠ dx) (hld : l ≠ dx) (hoff : ∀ p ∈ rest, p.1 ≠ dx)
    (hI : IntsAre ws octs) (hn : 0 ≤ n) (hlen : octs.length ≤ 900)
    (hmd : mo ≠ dx) (hod : lo ≠ dx) (hxm : x ≠ mo) (hdm : dx ≠ mo) (hlm : l ≠ mo) (hom : lo ≠ mo) (hoffm : ∀ p ∈ rest, p.1 ≠ mo)
    (hb : ∀ b ∈ octs, 0 ≤ b ∧ b < 256) (hIo : IntsAre wlo octs) (hno : n ≤ octs.length) (hnn : 0 ≤ nn ∧ nn < 1000000007) (hk : nn.fmod 9 = 3)
    (hQ : ∀ h₀' h' tk (octs' : List Int) (pl : Int) ws' l' v' wlo' lo' klo' ta' tc' tm' km', 0 ≤ pl ∧ pl ≤ (octs'.length : Int) → octs'.length ≤ octs.length + 20 → (∀ b ∈ octs', 0 ≤ b ∧ b < 256) → IntsAre ws' octs' → IntsAre wlo' octs' → KtsTurn (outer.filterMap (·.frame)) h₀ h₀' → Fr h₀' L h' m →
      News h₀' L h' ((x, instObj 80 dx) :: (dx, pDict w l' (pl) ta' tb tc') :: (l', listOf (List.toArray ws') v') :: (mo, listOf #[.ref lo', .int pl tm'] km') :: (lo', listOf (List.toArray wlo') klo') :: rest) → Below A₀ base outer h₀' → (Mine.hd.heap_39 w.params).In h₀' → Top Mine.hd.view_39 loose mean mg mb h₀' → KtsDicts (outer.filterMap (·.frame)) h₀' → Q (.bool true) { s with heap := h', toks := tk }) :
    wpAny (model PySem.Challenge.rw_aa6022_01.row.prog w) ⟨none, d, some (env :: outer), gs, u⟩ (call (.ref 165) [.ref x, .ref mo, .int nn tn]) Q E s := by
  revert X; k_fill; intro X
  replace hQ := Shut.mk hQ
  refine wpAny_call ?_
  refine' code_cellsT B F X N T XB TB D rfl hf hke ?k6 ?k7 ?k8 ?k9 ?kB ?kD ?_ ?c2 ?c3 ?c4
  case k6 => k_is
  case k7 => k_is
  case k8 => k_room
  case k9 => first | exact BindsTo.of_eq rfl | exact binds_K (by k_in) rfl (by k_is) rfl rfl rfl
  case kB => exact rfl
  case kD => decide +kernel
  case c2 => exact rfl
  case c3 => exact rfl
  case c4 => exact rfl
  intro g' L' h' tk' cells' FG' F' N' Y' B' X' T' D' l1
  (try k_lt l1); k_cells Y'; (try simp only [List.cons_append, List.nil_append] at N')
  have hr1 : ∀ p ∈ rest, p.1 ≠ L' + 1 := fun p hp => Nat.ne_of_lt (Nat.lt_succ_of_lt (allLt_all l1.2.2.2.2.2 p hp))
  have hr2 : ∀ p ∈ rest, p.1 ≠ L' + 1 + 1 := fun p hp => Nat.ne_of_lt (Nat.lt_succ_of_lt (Nat.lt_succ_of_lt (allLt_all l1.2.2.2.2.2 p hp)))
  have hrl : (octs.drop n.toNat).length ≤ octs.length := by rw [List.length_drop]; omega
  (try dsimp only); (try k_lift B'); (try k_fold)
  k_steps
  ·
    (with_reducible rename 8 ≤ List.length _ => h8)
    have hll : (octs.drop n.toNat).length = octs.length - n.toNat := List.length_drop
    (with_reducible rename News _ L' _ _ => N9)
    (with_reducible rename Fr _ L' _ _ => F9)
    refine ⟨_, _, _, _, KtsTurn.refl, F9, N9, fun h0' TT FF NN BB XX PP DD => ?_⟩
    refine bool_true (by simp) ?_
    exact hQ.out h0' _ _ octs (n + 8) _ _ _ _ _ _ _ _ _ _ ⟨by omega, by omega⟩ (by omega) hb hI hIo TT FF (News.sub NN (fun p hp => by
      simp only [List.mem_cons] at hp ⊢
      rcases hp with h | h | h | h | h | h
      all_goals repeat (first | exact h | exact Or.inl h | refine Or.inr ?_))) BB XX PP DD
  ·
    (with_reducible rename List.length _ < 8 => h8)
    have hll : (octs.drop n.toNat).length = octs.length - n.toNat := List.length_drop
    (with_reducible rename News _ L' _ _ => N9)
    (with_reducible rename Fr _ L' _ _ => F9)
    have e : (octs.length : Int) = n + (octs.drop n.toNat).length := by omega
    rw [e] at N9
    (with_reducible rename KtsTurn _ g' _ => T9)
    refine ⟨_, _, _, _, T9, F9, N9, fun h0' TT FF NN BB XX PP DD => ?_⟩
    refine bool_true (decide_eq_true (by omega)) ?_
    exact hQ.out h0' _ _ octs (n + ((octs.drop n.toNat).length : Int)) _ _ _ _ _ _ _ _ _ _ ⟨by omega, by omega⟩ (by omega) hb hI hIo TT FF (News.sub NN (fun p hp => by
      simp only [List.mem_cons] at hp ⊢
      rcases hp with h | h | h | h | h | h
      all_goals repeat (first | exact h | exact Or.inl h | refine Or.inr ?_))) BB XX PP DD
end Mine

-- D4
open PySem PySem.W PyProof.Rows PySem.Calls
set_option Elab.async false
set_option maxRecDepth 100000
set_option maxHeartbeats 4000000
namespace Mine
theorem fresh_D4 : True := by
  w_top off
  trivial
local macro_rules | `(tactic| k_room) => `(tactic| ((try simp only [depth_under_make, depth_under_kw, depth_in1, depth_deeper, depth_caller]); omega))
local macro_rules | `(tactic| k_all) => `(tactic| assumption)
local macro_rules | `(tactic| walk_at "call ref") => `(tactic| ((with_reducible show wpAny _ _ (call (Value.ref 124) _) _ _ _); k_dflt (refine' varint_spec ?B ?F ?X ?N ?T ?D ?hf ?hke ?hd ?hu ?hx ?hl ?U ?hI ?hn ?hlen ?_ ?_; (case F => k_asm); (case B => k_asm); (case X => k_asm); (case N => k_asm); (case T => k_asm); (case D => k_asm); (case hf => exact rfl); (case hke => exact rfl); (case hd => first | omega | ((try simp only [depth_under_make, depth_under_kw, depth_in1, depth_deeper, depth_caller, PySem.W.depth_mark]); (try dsimp only); omega) | decide); (case hu => first | omega | ((try simp only [Around.deeper_units, Around.in1_units, Around.mark_units]); (try dsimp only); omega) | decide); (case hx => k_mem); (case U => k_updF); (case hl => k_mem); (case hI => k_asm); (case hn => first | assumption | omega); (case hlen => first | assumption | omega)); (intro i' h' tk' tc' tb' hi' hlo' hhi' F' N'; (try k_sweep)); rotate_left; (intro g' h' e' t' tk' tc' hhi' FG' R' U'); rotate_left))
local macro_rules | `(tactic| walk_at "exec Try") => `(tactic| ((with_reducible show wpAny _ _ (exec (Stmt.Try _ (_ :: _) _ [] _) _) _ _ _); refine wpAny_Try_except ?_))
local macro_rules | `(tactic| walk_at "noteFrame ref") => `(tactic| ((with_reducible show wpAny _ _ (noteFrame _ _) (fun _ s₂ => wpAny _ _ (setFlight _ none) (fun _ s₃ => wpAny _ _ (handleBy _ _ _) _ _ s₃) _ s₂) _ _); k_dflt (refine' look_any ?fr ?f ?R ?U ?_; (case R => assumption); (case fr => exact rfl); (case f => exact rfl); (case U => assumption)); intro h' R' U'))
local macro_rules | `(tactic| walk_at "handleBy ref") => `(tactic| (k_dflt (first
  | (refine' pass_any ?f ?R ?F ?K ?U ?XB ?TB ?T ?_; (case R => assumption); (case f => exact rfl); (case F => assumption); (case K => assumption); (case U => assumption); (case XB => assumption); (case TB => assumption); (case T => exact ⟨fun _ _ _ _ _ _ kF kX kT kq => nameX_K kF kX kT (by k_is) kq rfl rfl (by decide), by kts_exm⟩))
  | (refine' hit_any ?f ?R ?F ?K ?U ?XB ?TB ?D ?T0 ?T ?_ ?hE; (case R => assumption); (case f => exact rfl); (case F => assumption); (case K => assumption); (case U => assumption); (case XB => assumption); (case TB => assumption); (case D => assumption); (case T0 => first | assumption | exact KtsTurn.refl); (case T => exact ⟨fun _ _ _ _ _ _ kF kX kT kq => nameX_K kF kX kT (by k_is) kq rfl rfl (by decide), by kts_exm⟩); (case hE => passes_own); intro h' g' T' F' N' B' X' P' D'; (try k_sweep)))))
local macro_rules | `(tactic| walk_at "truthy ref") => `(tactic| ((with_reducible show wpAny _ _ (truthy (Value.ref _)) _ _ _); k_dflt (refine' truthy_cons ?N ?l ?z ?_; (case N => k_asm); (case l => k_mem); (case z => omega))))
local macro_rules | `(tactic| walk_at "ite") => `(tactic| first
  | refine PySem.W.ite_pos (by (with_reducible rename Int.fmod _ 9 = _ => kk9); rw [kk9]; decide) ?_
  | refine PySem.W.ite_neg (by (with_reducible rename Int.fmod _ 9 = _ => kk9); rw [kk9]; decide) ?_)
theorem deed_4 {w : World} {A₀ : Around} {d u : Nat} {gs : Option (List Code)} {base h₀ : Heap} {env : Env} {outer : List Env} {L : Addr} {m mg mb : Str → Option Value} {s : Shared} {loose : List Str} {mean : ExcName → Option Value} {E : Value → Shared → Prop} {Q : Value → Shared → Prop} {rest : List (Addr × Obj)} {x dx l : Addr} {ws : List Value} {octs : List Int} {v : Nat} {n : Int} {ta tb tc : Tok} {lo mo : Addr} {wlo : List Value} {km klo : Nat} {tm tn : Tok} {nn : Int}
    (B : Below A₀ base outer h₀) (F : Fr h₀ L s.heap m) (X : (hd.heap_39 w.params).In h₀) (N : News h₀ L s.heap ((x, instObj 80 dx) :: (dx, pDict w l (n) ta tb tc) :: (l, listOf (List.toArray ws) v) :: (mo, listOf #[.ref lo, .int n tm] km) :: (lo, listOf (List.toArray wlo) klo) :: rest)) (T : Top hd.view_39 loose mean mg mb h₀)
    (D : KtsDicts (outer.filterMap (·.frame)) h₀)
    (hf : env.frame = some L) (hke : env.scope.kind = .function) (hd : d + 120 < recursionLimit) (hu : u + 600 < cLine)
    (XB : (Mine.hd.heap_39 w.params).In base) (TB : Top Mine.hd.view_39 loose mean mg mb base)
    (hxd : x ≠ dx) (hld : l ≠ dx) (hoff : ∀ p ∈ rest, p.1 ≠ dx)
    (hI : IntsAre ws octs) (hn : 0 ≤ n) (hlen : octs.length ≤ 900)
    (hmd : mo ≠ dx) (hod : lo ≠ dx) (hxm : x ≠ mo) (hdm : dx ≠ mo) (hlm : l ≠ mo) (hom : lo ≠ mo) (hoffm : ∀ p ∈ rest, p.1 ≠ mo)
    (hb : ∀ b ∈ octs, 0 ≤ b ∧ b < 256) (hIo : IntsAre wlo octs) (hno : n ≤ octs.length) (hnn : 0 ≤ nn ∧ nn < 1000000007) (hk : nn.fmod 9 = 4)
    (hQ : ∀ h₀' h' tk (octs' : List Int) (pl : Int) ws' l' v' wlo' lo' klo' ta' tc' tm' km', 0 ≤ pl ∧ pl ≤ (octs'.length : Int) → octs'.length ≤ octs.length + 20 → (∀ b ∈ octs', 0 ≤ b ∧ b < 256) → IntsAre ws' octs' → IntsAre wlo' octs' → KtsTurn (outer.filterMap (·.frame)) h₀ h₀' → Fr h₀' L h' m →
      News h₀' L h' ((x, instObj 80 dx) :: (dx, pDict w l' (pl) ta' tb tc') :: (l', listOf (List.toArray ws') v') :: (mo, listOf #[.ref lo', .int pl tm'] km') :: (lo', listOf (List.toArray wlo') klo') :: rest) → Below A₀ base outer h₀' → (Mine.hd.heap_39 w.params).In h₀' → Top Mine.hd.view_39 loose mean mg mb h₀' → KtsDicts (outer.filterMap (·.frame)) h₀' → Q (.bool true) { s with heap := h', toks := tk }) :
    wpAny (model PySem.Challenge.rw_aa6022_01.row.prog w) ⟨none, d, some (env :: outer), gs, u⟩ (call (.ref 165) [.ref x, .ref mo, .int nn tn]) Q E s := by
  revert X; k_fill; intro X
  replace hQ := Shut.mk hQ
  refine wpAny_call ?_
  refine' code_cellsT B F X N T XB TB D rfl hf hke ?k6 ?k7 ?k8 ?k9 ?kB ?kD ?_ ?c2 ?c3 ?c4
  case k6 => k_is
  case k7 => k_is
  case k8 => k_room
  case k9 => first | exact BindsTo.of_eq rfl | exact binds_K (by k_in) rfl (by k_is) rfl rfl rfl
  case kB => exact rfl
  case kD => decide +kernel
  case c2 => exact rfl
  case c3 => exact rfl
  case c4 => exact rfl
  intro g' L' h' tk' cells' FG' F' N' Y' B' X' T' D' l1
  (try k_lt l1); k_cells Y'; (try simp only [List.cons_append, List.nil_append] at N')
  have hr1 : ∀ p ∈ rest, p.1 ≠ L' + 1 := fun p hp => Nat.ne_of_lt (Nat.lt_succ_of_lt (allLt_all l1.2.2.2.2.2 p hp))
  have hr2 : ∀ p ∈ rest, p.1 ≠ L' + 1 + 1 := fun p hp => Nat.ne_of_lt (Nat.lt_succ_of_lt (Nat.lt_succ_of_lt (allLt_all l1.2.2.2.2.2 p hp)))
  have hrl : (octs.drop n.toNat).length ≤ octs.length := by rw [List.length_drop]; omega
  (try dsimp only); (try k_lift B'); (try k_fold)
  iterate 200 (try ((fail_if_success (with_reducible show wpAny _ _ (exec (Stmt.Assign _ (Expr.ListComp _ _ _ _) _) _) _ _ _)); (first | (k_unfold; (try dsimp only)) | (k_end; wrow_close) | walk1 | (dsimp only; walk1) | (leave1; walk_say "STEP leave1"; try dsimp only))))
  refine LCt.Assign_ListComp_T (F₀ := by k_asm) (by rfl) (by with_unfolding_all rfl) (by with_unfolding_all rfl) (by decide) (by rfl) (by decide) (by rfl) (by rfl) (by rfl) ?_
  iterate 30 (try ((fail_if_success (with_reducible show LCt.CompSrcT _ _ _ _ _ _ _ _ _ _ _ _ _ _ _)); (first | (k_unfold; (try dsimp only)) | (k_end; wrow_close) | walk1 | (dsimp only; walk1) | (leave1; walk_say "STEP leave1"; try dsimp only))))
  trace_state
  refine LCt.CompSrcT.range (n := (octs.drop n.toNat).length) (by rfl) (by k_asm) (by k_asm) (by assumption) (by exact small_one (by decide) (by decide) (by omega) (by omega)) (by first | exact rangeSize_nat _ _ | (unfold Builtin.Range.rangeSize; rw [if_pos (by decide)]; split <;> (try rw [Int.ediv_one]) <;> omega)) (by rw [sizeLine_eq]; omega) ?_
  intro g8
  refine' kci_range (fun l k => if (octs.drop n.toNat).getD k.toNat 0 < 128 then l ++ [k] else l) (fun k' t' I' oI' C' oC' D' m' ys' l' h' tk' E' hlo' hhi' hI' hC' hx' F' N' off' ne' mk' => ?_) ?_ ?_
  · k_steps
    · exact ⟨_, _, _, rfl, F', N', off', trivial, kci_el (if_pos (by assumption)) rfl rfl⟩
    · exact ⟨_, _, _, rfl, F', N', off', trivial, kci_no (if_neg (by assumption)) rfl⟩
  · intro ys' hys' hyl'
    rcases ends_fold (octs.drop n.toNat) (octs.drop n.toNat).length with ⟨h1, h2⟩ | ⟨i, es, h1, h2, h3, h4⟩
    · rw [h1] at hys'
      cases hys'
      iterate 60 (try ((fail_if_success (with_reducible show wpAny _ _ (pyIter _) _ _ _)); (first | (k_unfold; (try dsimp only)) | (k_end; wrow_close) | walk1 | (dsimp only; walk1) | (leave1; walk_say "STEP leave1"; try dsimp only))))
      (with_reducible rename News _ L' _ _ => N9)
      (with_reducible rename Fr _ L' _ _ => F9)
      refine due_loop (vs := []) (ns := []) rfl (by k_mem) .nil F9 N9 ⟨_, rfl⟩ (fun i2 n2 t2 td2 s2 own2 hn2 => by cases hn2) ?_
      intro h2' tk2 td2 uo2 F2 N2
      k_steps
      ·
        exfalso
        (with_reducible rename List.getD _ _ _ < 128 => hlo9)
        have := h2 _ (by assumption)
        omega
      ·
        (with_reducible rename News _ L' _ _ => N9)
        (with_reducible rename Fr _ L' _ _ => F9)
        have hll : (octs.drop n.toNat).length = octs.length - n.toNat := List.length_drop
        have e9 : (octs.length : Int) = n + (octs.drop n.toNat).length := by omega
        rw [e9] at N9
        (with_reducible rename KtsTurn _ g' _ => T9)
        refine ⟨_, _, _, _, T9, F9, N9, fun h0' TT FF NN BB XX PP DD => ?_⟩
        refine bool_true rfl ?_
        exact hQ.out h0' _ _ octs (n + ((octs.drop n.toNat).length : Int)) _ _ _ _ _ _ _ _ _ _ ⟨by omega, by omega⟩ (by omega) hb hI hIo TT FF (News.sub NN (fun p hp => by
          simp only [List.mem_cons] at hp ⊢
          rcases hp with h | h | h | h | h | h
          all_goals repeat (first | exact h | exact Or.inl h | refine Or.inr ?_))) BB XX PP DD
    · rw [h1] at hys'
      cases hys' with
      | cons ti hys2 =>
        iterate 60 (try ((fail_if_success (with_reducible show wpAny _ _ (subscriptTail _ (Expr.Slice _ _ _ _) _ _) _ _ _)); (first | (k_unfold; (try dsimp only)) | (k_end; wrow_close) | walk1 | (dsimp only; walk1) | (leave1; walk_say "STEP leave1"; try dsimp only))))
        walk1
        · exfalso
          rename (_ < 0) => hz
          simp at hz
          omega
        iterate 60 (try ((fail_if_success (with_reducible show wpAny _ _ (pyIter _) _ _ _)); (first | (k_unfold; (try dsimp only)) | (k_end; wrow_close) | walk1 | (dsimp only; walk1) | (leave1; walk_say "STEP leave1"; try dsimp only))))
        (with_reducible rename IntsAre _ (List.take _ _) => hI9)
        (with_reducible rename News _ L' _ _ => N9)
        (with_reducible rename Fr _ L' _ _ => F9)
        replace hI9 : IntsAre _ ((octs.drop n.toNat).take (i + 1)) := hI9
        refine due_loop rfl (by k_mem) hI9 F9 N9 ⟨_, rfl⟩ ?_ ?_
        ·
          intro i2 n2 t2 td2 s2 own2 hn2 F2 N2
          have hn3 : 0 ≤ n2 ∧ n2 < 256 := hb n2 (List.mem_of_mem_drop (List.mem_of_mem_take (List.mem_of_getElem? hn2)))
          simp only [List.cons_append] at N2
          iterate 60 (try ((fail_if_success (with_reducible show _ ∧ _)); (first | (k_unfold; (try dsimp only)) | (k_end; wrow_close) | walk1 | (dsimp only; walk1) | (leave1; walk_say "STEP leave1"; try dsimp only))))
          (with_reducible rename News _ L' _ _ => N9)
          (with_reducible rename Fr _ L' _ _ => F9)
          rw [show n2.fmod 128 = n2 % 128 from Int.fmod_eq_emod_of_nonneg n2 (by decide)] at F9
          exact ⟨rfl, _, _, _, rfl, Fr.congr F9 (funext fun y => by
            by_cases e : y = Str.ofString "due"
            · exact (if_pos e).trans (if_pos e).symm
            · simp [e]), N9⟩
        · intro h2' tk2 td2 uo2 F2 N2
          k_steps
          ·
            (with_reducible rename News _ L' _ _ => N9)
            (with_reducible rename Fr _ L' _ _ => F9)
            have hll : (octs.drop n.toNat).length = octs.length - n.toNat := List.length_drop
            (with_reducible rename List.getD _ _ _ < 128 => hl9)
            (rename ∀ j, j < _ → 128 ≤ List.getD _ j 0 => hh9)
            have hii := first_unique h3 h4 hl9 hh9
            rw [hii, show n + (i : Int) + 1 = n + ((i : Int) + 1) by omega] at N9
            refine ⟨_, _, _, _, KtsTurn.refl, F9, N9, fun h0' TT FF NN BB XX PP DD => ?_⟩
            refine bool_true (by simp) ?_
            exact hQ.out h0' _ _ octs (n + ((i : Int) + 1)) _ _ _ _ _ _ _ _ _ _ ⟨by omega, by omega⟩ (by omega) hb hI hIo TT FF (News.sub NN (fun p hp => by
              simp only [List.mem_cons] at hp ⊢
              rcases hp with h | h | h | h | h | h
              all_goals repeat (first | exact h | exact Or.inl h | refine Or.inr ?_))) BB XX PP DD
          ·
            (with_reducible rename News _ L' _ _ => N9)
            (with_reducible rename Fr _ L' _ _ => F9)
            have hll : (octs.drop n.toNat).length = octs.length - n.toNat := List.length_drop
            (with_reducible rename List.getD _ _ _ < 128 => hl9)
            (rename ∀ j, j < _ → 128 ≤ List.getD _ j 0 => hh9)
            have hii := first_unique h3 h4 hl9 hh9
            rw [hii, show n + (i : Int) + 1 = n + ((i : Int) + 1) by omega] at N9
            refine ⟨_, _, _, _, KtsTurn.refl, F9, N9, fun h0' TT FF NN BB XX PP DD => ?_⟩
            refine bool_true (by rw [hii]; simp) ?_
            exact hQ.out h0' _ _ octs (n + ((i : Int) + 1)) _ _ _ _ _ _ _ _ _ _ ⟨by omega, by omega⟩ (by omega) hb hI hIo TT FF (News.sub NN (fun p hp => by
              simp only [List.mem_cons] at hp ⊢
              rcases hp with h | h | h | h | h | h
              all_goals repeat (first | exact h | exact Or.inl h | refine Or.inr ?_))) BB XX PP DD
          ·
            exfalso
            (rename ∀ j, j < _ → 128 ≤ List.getD _ j 0 => hh9)
            have := hh9 i h2
            omega
  · intro l k
    dsimp only
    split <;> simp
end Mine

-- D5
open PySem PySem.W PyProof.Rows PySem.Calls
set_option Elab.async false
set_option maxRecDepth 100000
set_option maxHeartbeats 4000000
namespace Mine
theorem fresh_D5 : True := by
  w_top off
  trivial
local macro_rules | `(tactic| k_room) => `(tactic| ((try simp only [depth_under_make, depth_under_kw, depth_in1, depth_deeper, depth_caller]); omega))
local macro_rules | `(tactic| k_all) => `(tactic| assumption)
local macro_rules | `(tactic| walk_at "setAttr ref") => `(tactic| ((fail_if_success (have : Told := by assumption)); (have tl9 : Told := trivial); (with_reducible rename News _ _ _ _ => N9); (have tn9 := tup_ne N9 (by k_mem) (by k_mem))))
local macro_rules | `(tactic| walk_at "ite") => `(tactic| first
  | refine PySem.W.ite_pos (by (with_reducible rename Int.fmod _ 9 = _ => kk9); rw [kk9]; decide) ?_
  | refine PySem.W.ite_neg (by (with_reducible rename Int.fmod _ 9 = _ => kk9); rw [kk9]; decide) ?_)
theorem deed_5 {w : World} {A₀ : Around} {d u : Nat} {gs : Option (List Code)} {base h₀ : Heap} {env : Env} {outer : List Env} {L : Addr} {m mg mb : Str → Option Value} {s : Shared} {loose : List Str} {mean : ExcName → Option Value} {E : Value → Shared → Prop} {Q : Value → Shared → Prop} {rest : List (Addr × Obj)} {x dx l : Addr} {ws : List Value} {octs : List Int} {v : Nat} {n : Int} {ta tb tc : Tok} {lo mo : Addr} {wlo : List Value} {km klo : Nat} {tm tn : Tok} {nn : Int}
    (B : Below A₀ base outer h₀) (F : Fr h₀ L s.heap m) (X : (hd.heap_39 w.params).In h₀) (N : News h₀ L s.heap ((x, instObj 80 dx) :: (dx, pDict w l (n) ta tb tc) :: (l, listOf (List.toArray ws) v) :: (mo, listOf #[.ref lo, .int n tm] km) :: (lo, listOf (List.toArray wlo) klo) :: rest)) (T : Top hd.view_39 loose mean mg mb h₀)
    (D : KtsDicts (outer.filterMap (·.frame)) h₀)
    (hf : env.frame = some L) (hke : env.scope.kind = .function) (hd : d + 120 < recursionLimit) (hu : u + 600 < cLine)
    (XB : (Mine.hd.heap_39 w.params).In base) (TB : Top Mine.hd.view_39 loose mean mg mb base)
    (hxd : x ≠ dx) (hld : l ≠ dx) (hoff : ∀ p ∈ rest, p.1 ≠ dx)
    (hI : IntsAre ws octs) (hn : 0 ≤ n) (hlen : octs.length ≤ 900)
    (hmd : mo ≠ dx) (hod : lo ≠ dx) (hxm : x ≠ mo) (hdm : dx ≠ mo) (hlm : l ≠ mo) (hom : lo ≠ mo) (hoffm : ∀ p ∈ rest, p.1 ≠ mo)
    (hb : ∀ b ∈ octs, 0 ≤ b ∧ b < 256) (hIo : IntsAre wlo octs) (hno : n ≤ octs.length) (hnn : 0 ≤ nn ∧ nn < 1000000007) (hk : nn.fmod 9 = 5)
    (hQ : ∀ h₀' h' tk (octs' : List Int) (pl : Int) ws' l' v' wlo' lo' klo' ta' tc' tm' km', 0 ≤ pl ∧ pl ≤ (octs'.length : Int) → octs'.length ≤ octs.length + 20 → (∀ b ∈ octs', 0 ≤ b ∧ b < 256) → IntsAre ws' octs' → IntsAre wlo' octs' → KtsTurn (outer.filterMap (·.frame)) h₀ h₀' → Fr h₀' L h' m →
      News h₀' L h' ((x, instObj 80 dx) :: (dx, pDict w l' (pl) ta' tb tc') :: (l', listOf (List.toArray ws') v') :: (mo, listOf #[.ref lo', .int pl tm'] km') :: (lo', listOf (List.toArray wlo') klo') :: rest) → Below A₀ base outer h₀' → (Mine.hd.heap_39 w.params).In h₀' → Top Mine.hd.view_39 loose mean mg mb h₀' → KtsDicts (outer.filterMap (·.frame)) h₀' → Q (.bool true) { s with heap := h', toks := tk }) :
    wpAny (model PySem.Challenge.rw_aa6022_01.row.prog w) ⟨none, d, some (env :: outer), gs, u⟩ (call (.ref 165) [.ref x, .ref mo, .int nn tn]) Q E s := by
  revert X; k_fill; intro X
  replace hQ := Shut.mk hQ
  refine wpAny_call ?_
  refine' code_cellsT B F X N T XB TB D rfl hf hke ?k6 ?k7 ?k8 ?k9 ?kB ?kD ?_ ?c2 ?c3 ?c4
  case k6 => k_is
  case k7 => k_is
  case k8 => k_room
  case k9 => first | exact BindsTo.of_eq rfl | exact binds_K (by k_in) rfl (by k_is) rfl rfl rfl
  case kB => exact rfl
  case kD => decide +kernel
  case c2 => exact rfl
  case c3 => exact rfl
  case c4 => exact rfl
  intro g' L' h' tk' cells' FG' F' N' Y' B' X' T' D' l1
  (try k_lt l1); k_cells Y'; (try simp only [List.cons_append, List.nil_append] at N')
  have hr1 : ∀ p ∈ rest, p.1 ≠ L' + 1 := fun p hp => Nat.ne_of_lt (Nat.lt_succ_of_lt (allLt_all l1.2.2.2.2.2 p hp))
  have hr2 : ∀ p ∈ rest, p.1 ≠ L' + 1 + 1 := fun p hp => Nat.ne_of_lt (Nat.lt_succ_of_lt (Nat.lt_succ_of_lt (allLt_all l1.2.2.2.2.2 p hp)))
  have hrl : (octs.drop n.toNat).length ≤ octs.length := by rw [List.length_drop]; omega
  (try dsimp only); (try k_lift B'); (try k_fold)
  k_steps
  (with_reducible rename News _ L' _ _ => N9)
  (with_reducible rename Fr _ L' _ _ => F9)
  (with_reducible rename IntsAre _ (_ ++ _) => hIa)
  revert hIa
  (with_reducible rename IntsAre _ (_ ++ _) => hIb)
  intro hIa
  refine ⟨_, _, _, _, KtsTurn.refl, F9, N9, fun h0' TT FF NN BB XX PP DD => ?_⟩
  refine bool_true (by simp) ?_
  exact hQ.out h0' _ _ _ n _ _ _ _ _ _ _ _ _ _ ⟨by omega, by rw [List.length_append]; omega⟩ (by rw [List.length_append, List.length_take]; simp only [List.length_cons, List.length_nil]; omega) (slice_bytes hb) hIa hIb TT FF (News.sub NN (fun p hp => by
    simp only [List.mem_cons] at hp ⊢
    rcases hp with h | h | h | h | h | h
    all_goals repeat (first | exact h | exact Or.inl h | refine Or.inr ?_))) BB XX PP DD
end Mine

-- D6
open PySem PySem.W PyProof.Rows PySem.Calls
set_option Elab.async false
set_option maxRecDepth 100000
set_option maxHeartbeats 4000000
namespace Mine
theorem fresh_D6 : True := by
  w_top off
  trivial
local macro_rules | `(tactic| walk_at "no such key") => `(tactic| skip)
local macro_rules | `(tactic| walk_at "no such key") => `(tactic| skip)
local macro_rules | `(tactic| walk_at "no such key") => `(tactic| skip)
local macro_rules | `(tactic| k_room) => `(tactic| ((try simp only [depth_under_make, depth_under_kw, depth_in1, depth_deeper, depth_caller]); omega))
local macro_rules | `(tactic| k_all) => `(tactic| assumption)
local macro_rules | `(tactic| walk_at "binaryOp Add ref ref") => `(tactic| ((with_reducible show wpAny _ _ (binaryOp _ (Value.ref _) (Value.ref 132)) _ _ _); k_dflt (refine' add_head ?F ?X ?N ?l ?i ?z ?_; (case F => k_asm); (case X => k_asm); (case N => k_asm); (case l => k_mem); (case i => k_asm); (case z => omega)); intro D' us' h' F' N' l1 hI'; (try k_lt l1); (try k_sweep)))
local macro_rules | `(tactic| walk_at "call ref") => `(tactic| ((with_reducible show wpAny _ _ (call (Value.ref 77) [Value.ref _, Value.ref _]) _ _ _); k_dflt (refine' write_spec ?B ?F ?X ?N ?T ?hf ?hke ?hd ?hu ?hx ?hl ?ha ?U ?hI ?hIa ?hlen ?hln ?_; (case F => k_asm); (case B => k_asm); (case X => k_asm); (case N => k_asm); (case T => k_asm); (case hf => exact rfl); (case hke => exact rfl); (case hd => first | omega | ((try simp only [depth_under_make, depth_under_kw, depth_in1, depth_deeper, depth_caller, PySem.W.depth_mark]); (try dsimp only); omega) | decide); (case hu => first | omega | ((try simp only [Around.deeper_units, Around.in1_units, Around.mark_units]); (try dsimp only); omega) | decide); (case hx => k_mem); (case U => k_updF); (case hl => k_mem); (case ha => k_mem); (case hI => assumption); (case hIa => first | assumption | l_ints); (case hlen => first | omega | (simp only [List.length_append, List.length_cons, List.length_nil, List.length_map, rangeKs_length] at *; omega)); (case hln => first | omega | (simp only [List.length_append, List.length_cons, List.length_nil, List.length_map, rangeKs_length] at *; omega))); intro D' ws' h' tk' F' N' l1 hI'; (try k_lt l1); (try k_sweep)))
local macro_rules | `(tactic| walk_at "call type:list") => `(tactic| ((with_reducible show wpAny _ _ (call (Value.type _) [Value.ref 132]) _ _ _); k_dflt (refine' list_head ?F ?X ?N ?_; (case F => k_asm); (case X => k_asm); (case N => k_asm)); intro D' c' h' F' N' l1; (try k_lt l1); (try k_sweep)))
local macro_rules | `(tactic| walk_at "subscriptTail") => `(tactic| ((with_reducible show wpAny _ _ (subscriptTail _ _ (Value.ref _) (Value.int (Int.fmod _ 3) _)) _ _ _); k_dflt (refine' pick_name ?l ?k ?_ ?_ ?_; (case l => exact News.isList (by k_asm) (by k_mem)); (case k => exact mod_bounds.1))))
local macro_rules | `(tactic| walk_at "ite") => `(tactic| first
  | refine PySem.W.ite_pos (by (with_reducible rename Int.fmod _ 9 = _ => kk9); rw [kk9]; decide) ?_
  | refine PySem.W.ite_neg (by (with_reducible rename Int.fmod _ 9 = _ => kk9); rw [kk9]; decide) ?_)
theorem deed_6 {w : World} {A₀ : Around} {d u : Nat} {gs : Option (List Code)} {base h₀ : Heap} {env : Env} {outer : List Env} {L : Addr} {m mg mb : Str → Option Value} {s : Shared} {loose : List Str} {mean : ExcName → Option Value} {E : Value → Shared → Prop} {Q : Value → Shared → Prop} {rest : List (Addr × Obj)} {x dx l : Addr} {ws : List Value} {octs : List Int} {v : Nat} {n : Int} {ta tb tc : Tok} {lo mo : Addr} {wlo : List Value} {km klo : Nat} {tm tn : Tok} {nn : Int}
    (B : Below A₀ base outer h₀) (F : Fr h₀ L s.heap m) (X : (hd.heap_39 w.params).In h₀) (N : News h₀ L s.heap ((x, instObj 80 dx) :: (dx, pDict w l (n) ta tb tc) :: (l, listOf (List.toArray ws) v) :: (mo, listOf #[.ref lo, .int n tm] km) :: (lo, listOf (List.toArray wlo) klo) :: rest)) (T : Top hd.view_39 loose mean mg mb h₀)
    (D : KtsDicts (outer.filterMap (·.frame)) h₀)
    (hf : env.frame = some L) (hke : env.scope.kind = .function) (hd : d + 120 < recursionLimit) (hu : u + 600 < cLine)
    (XB : (Mine.hd.heap_39 w.params).In base) (TB : Top Mine.hd.view_39 loose mean mg mb base)
    (hxd : x ≠ dx) (hld : l ≠ dx) (hoff : ∀ p ∈ rest, p.1 ≠ dx)
    (hI : IntsAre ws octs) (hn : 0 ≤ n) (hlen : octs.length ≤ 900)
    (hmd : mo ≠ dx) (hod : lo ≠ dx) (hxm : x ≠ mo) (hdm : dx ≠ mo) (hlm : l ≠ mo) (hom : lo ≠ mo) (hoffm : ∀ p ∈ rest, p.1 ≠ mo)
    (hb : ∀ b ∈ octs, 0 ≤ b ∧ b < 256) (hIo : IntsAre wlo octs) (hno : n ≤ octs.length) (hnn : 0 ≤ nn ∧ nn < 1000000007) (hk : nn.fmod 9 = 6)
    (hQ : ∀ h₀' h' tk (octs' : List Int) (pl : Int) ws' l' v' wlo' lo' klo' ta' tc' tm' km', 0 ≤ pl ∧ pl ≤ (octs'.length : Int) → octs'.length ≤ octs.length + 20 → (∀ b ∈ octs', 0 ≤ b ∧ b < 256) → IntsAre ws' octs' → IntsAre wlo' octs' → KtsTurn (outer.filterMap (·.frame)) h₀ h₀' → Fr h₀' L h' m →
      News h₀' L h' ((x, instObj 80 dx) :: (dx, pDict w l' (pl) ta' tb tc') :: (l', listOf (List.toArray ws') v') :: (mo, listOf #[.ref lo', .int pl tm'] km') :: (lo', listOf (List.toArray wlo') klo') :: rest) → Below A₀ base outer h₀' → (Mine.hd.heap_39 w.params).In h₀' → Top Mine.hd.view_39 loose mean mg mb h₀' → KtsDicts (outer.filterMap (·.frame)) h₀' → Q (.bool true) { s with heap := h', toks := tk }) :
    wpAny (model PySem.Challenge.rw_aa6022_01.row.prog w) ⟨none, d, some (env :: outer), gs, u⟩ (call (.ref 165) [.ref x, .ref mo, .int nn tn]) Q E s := by
  revert X; k_fill; intro X
  replace hQ := Shut.mk hQ
  refine wpAny_call ?_
  refine' code_cellsT B F X N T XB TB D rfl hf hke ?k6 ?k7 ?k8 ?k9 ?kB ?kD ?_ ?c2 ?c3 ?c4
  case k6 => k_is
  case k7 => k_is
  case k8 => k_room
  case k9 => first | exact BindsTo.of_eq rfl | exact binds_K (by k_in) rfl (by k_is) rfl rfl rfl
  case kB => exact rfl
  case kD => decide +kernel
  case c2 => exact rfl
  case c3 => exact rfl
  case c4 => exact rfl
  intro g' L' h' tk' cells' FG' F' N' Y' B' X' T' D' l1
  (try k_lt l1); k_cells Y'; (try simp only [List.cons_append, List.nil_append] at N')
  have hr1 : ∀ p ∈ rest, p.1 ≠ L' + 1 := fun p hp => Nat.ne_of_lt (Nat.lt_succ_of_lt (allLt_all l1.2.2.2.2.2 p hp))
  have hr2 : ∀ p ∈ rest, p.1 ≠ L' + 1 + 1 := fun p hp => Nat.ne_of_lt (Nat.lt_succ_of_lt (Nat.lt_succ_of_lt (allLt_all l1.2.2.2.2.2 p hp)))
  have hrl : (octs.drop n.toNat).length ≤ octs.length := by rw [List.length_drop]; omega
  (try dsimp only); (try k_lift B'); (try k_fold)
  k_steps
  ·
    (with_reducible rename News _ L' _ _ => N9)
    (with_reducible rename Fr _ L' _ _ => F9)
    (with_reducible rename IntsAre _ (_ ++ _) => hIa)
    revert hIa
    (with_reducible rename IntsAre _ (_ ++ List.map _ _) => hIb)
    intro hIa
    have hz9 : 0 ≤ (nn.fdiv 9).fmod 7 ∧ (nn.fdiv 9).fmod 7 < 7 := mod_bounds.2.2.1
    replace hIa := paper_chunk hz9 hIa
    refine ⟨_, _, _, _, KtsTurn.refl, F9, N9, fun h0' TT FF NN BB XX PP DD => ?_⟩
    refine bool_true (by simp) ?_
    exact hQ.out h0' _ _ _ n _ _ _ _ _ _ _ _ _ _ ⟨by omega, chunk_place hno⟩ (chunk_len hz9 rfl) (chunk_bytes hb (by decide) (by omega)) hIa hIb TT FF (News.sub NN (fun p hp => by
      simp only [List.mem_cons] at hp ⊢
      rcases hp with h | h | h | h | h | h
      all_goals repeat (first | exact h | exact Or.inl h | refine Or.inr ?_))) BB XX PP DD
  ·
    (with_reducible rename News _ L' _ _ => N9)
    (with_reducible rename Fr _ L' _ _ => F9)
    (with_reducible rename IntsAre _ (_ ++ _) => hIa)
    revert hIa
    (with_reducible rename IntsAre _ (_ ++ List.map _ _) => hIb)
    intro hIa
    have hz9 : 0 ≤ (nn.fdiv 9).fmod 7 ∧ (nn.fdiv 9).fmod 7 < 7 := mod_bounds.2.2.1
    replace hIa := paper_chunk hz9 hIa
    refine ⟨_, _, _, _, KtsTurn.refl, F9, N9, fun h0' TT FF NN BB XX PP DD => ?_⟩
    refine bool_true (by simp) ?_
    exact hQ.out h0' _ _ _ n _ _ _ _ _ _ _ _ _ _ ⟨by omega, chunk_place hno⟩ (chunk_len hz9 rfl) (chunk_bytes hb (by decide) (by omega)) hIa hIb TT FF (News.sub NN (fun p hp => by
      simp only [List.mem_cons] at hp ⊢
      rcases hp with h | h | h | h | h | h
      all_goals repeat (first | exact h | exact Or.inl h | refine Or.inr ?_))) BB XX PP DD
  ·
    (with_reducible rename News _ L' _ _ => N9)
    (with_reducible rename Fr _ L' _ _ => F9)
    (with_reducible rename IntsAre _ (_ ++ _) => hIa)
    revert hIa
    (with_reducible rename IntsAre _ (_ ++ List.map _ _) => hIb)
    intro hIa
    have hz9 : 0 ≤ (nn.fdiv 9).fmod 7 ∧ (nn.fdiv 9).fmod 7 < 7 := mod_bounds.2.2.1
    replace hIa := paper_chunk hz9 hIa
    refine ⟨_, _, _, _, KtsTurn.refl, F9, N9, fun h0' TT FF NN BB XX PP DD => ?_⟩
    refine bool_true (by simp) ?_
    exact hQ.out h0' _ _ _ n _ _ _ _ _ _ _ _ _ _ ⟨by omega, chunk_place hno⟩ (chunk_len hz9 rfl) (chunk_bytes hb (fun b h => by rcases List.mem_flatten.mp h with ⟨l, h1, h2⟩; rw [(List.mem_replicate.mp h1).2] at h2; rw [List.mem_singleton.mp h2]; exact mod_bounds.2.2.2.1) (by omega)) hIa hIb TT FF (News.sub NN (fun p hp => by
      simp only [List.mem_cons] at hp ⊢
      rcases hp with h | h | h | h | h | h
      all_goals repeat (first | exact h | exact Or.inl h | refine Or.inr ?_))) BB XX PP DD
end Mine

-- D7
open PySem PySem.W PyProof.Rows PySem.Calls
set_option Elab.async false
set_option maxRecDepth 100000
set_option maxHeartbeats 4000000
namespace Mine
theorem fresh_D7 : True := by
  w_top off
  trivial
local macro_rules | `(tactic| k_room) => `(tactic| ((try simp only [depth_under_make, depth_under_kw, depth_in1, depth_deeper, depth_caller]); omega))
local macro_rules | `(tactic| k_all) => `(tactic| assumption)
local macro_rules | `(tactic| walk_at "ite") => `(tactic| first
  | refine PySem.W.ite_pos (by (with_reducible rename Int.fmod _ 9 = _ => kk9); rw [kk9]; decide) ?_
  | refine PySem.W.ite_neg (by (with_reducible rename Int.fmod _ 9 = _ => kk9); rw [kk9]; decide) ?_)
theorem deed_7 {w : World} {A₀ : Around} {d u : Nat} {gs : Option (List Code)} {base h₀ : Heap} {env : Env} {outer : List Env} {L : Addr} {m mg mb : Str → Option Value} {s : Shared} {loose : List Str} {mean : ExcName → Option Value} {E : Value → Shared → Prop} {Q : Value → Shared → Prop} {rest : List (Addr × Obj)} {x dx l : Addr} {ws : List Value} {octs : List Int} {v : Nat} {n : Int} {ta tb tc : Tok} {lo mo : Addr} {wlo : List Value} {km klo : Nat} {tm tn : Tok} {nn : Int}
    (B : Below A₀ base outer h₀) (F : Fr h₀ L s.heap m) (X : (hd.heap_39 w.params).In h₀) (N : News h₀ L s.heap ((x, instObj 80 dx) :: (dx, pDict w l (n) ta tb tc) :: (l, listOf (List.toArray ws) v) :: (mo, listOf #[.ref lo, .int n tm] km) :: (lo, listOf (List.toArray wlo) klo) :: rest)) (T : Top hd.view_39 loose mean mg mb h₀)
    (D : KtsDicts (outer.filterMap (·.frame)) h₀)
    (hf : env.frame = some L) (hke : env.scope.kind = .function) (hd : d + 120 < recursionLimit) (hu : u + 600 < cLine)
    (XB : (Mine.hd.heap_39 w.params).In base) (TB : Top Mine.hd.view_39 loose mean mg mb base)
    (hxd : x ≠ dx) (hld : l ≠ dx) (hoff : ∀ p ∈ rest, p.1 ≠ dx)
    (hI : IntsAre ws octs) (hn : 0 ≤ n) (hlen : octs.length ≤ 900)
    (hmd : mo ≠ dx) (hod : lo ≠ dx) (hxm : x ≠ mo) (hdm : dx ≠ mo) (hlm : l ≠ mo) (hom : lo ≠ mo) (hoffm : ∀ p ∈ rest, p.1 ≠ mo)
    (hb : ∀ b ∈ octs, 0 ≤ b ∧ b < 256) (hIo : IntsAre wlo octs) (hno : n ≤ octs.length) (hnn : 0 ≤ nn ∧ nn < 1000000007) (hk : nn.fmod 9 = 7)
    (hQ : ∀ h₀' h' tk (octs' : List Int) (pl : Int) ws' l' v' wlo' lo' klo' ta' tc' tm' km', 0 ≤ pl ∧ pl ≤ (octs'.length : Int) → octs'.length ≤ octs.length + 20 → (∀ b ∈ octs', 0 ≤ b ∧ b < 256) → IntsAre ws' octs' → IntsAre wlo' octs' → KtsTurn (outer.filterMap (·.frame)) h₀ h₀' → Fr h₀' L h' m →
      News h₀' L h' ((x, instObj 80 dx) :: (dx, pDict w l' (pl) ta' tb tc') :: (l', listOf (List.toArray ws') v') :: (mo, listOf #[.ref lo', .int pl tm'] km') :: (lo', listOf (List.toArray wlo') klo') :: rest) → Below A₀ base outer h₀' → (Mine.hd.heap_39 w.params).In h₀' → Top Mine.hd.view_39 loose mean mg mb h₀' → KtsDicts (outer.filterMap (·.frame)) h₀' → Q (.bool true) { s with heap := h', toks := tk }) :
    wpAny (model PySem.Challenge.rw_aa6022_01.row.prog w) ⟨none, d, some (env :: outer), gs, u⟩ (call (.ref 165) [.ref x, .ref mo, .int nn tn]) Q E s := by
  revert X; k_fill; intro X
  replace hQ := Shut.mk hQ
  refine wpAny_call ?_
  refine' code_cellsT B F X N T XB TB D rfl hf hke ?k6 ?k7 ?k8 ?k9 ?kB ?kD ?_ ?c2 ?c3 ?c4
  case k6 => k_is
  case k7 => k_is
  case k8 => k_room
  case k9 => first | exact BindsTo.of_eq rfl | exact binds_K (by k_in) rfl (by k_is) rfl rfl rfl
  case kB => exact rfl
  case kD => decide +kernel
  case c2 => exact rfl
  case c3 => exact rfl
  case c4 => exact rfl
  intro g' L' h' tk' cells' FG' F' N' Y' B' X' T' D' l1
  (try k_lt l1); k_cells Y'; (try simp only [List.cons_append, List.nil_append] at N')
  have hr1 : ∀ p ∈ rest, p.1 ≠ L' + 1 := fun p hp => Nat.ne_of_lt (Nat.lt_succ_of_lt (allLt_all l1.2.2.2.2.2 p hp))
  have hr2 : ∀ p ∈ rest, p.1 ≠ L' + 1 + 1 := fun p hp => Nat.ne_of_lt (Nat.lt_succ_of_lt (Nat.lt_succ_of_lt (allLt_all l1.2.2.2.2.2 p hp)))
  have hrl : (octs.drop n.toNat).length ≤ octs.length := by rw [List.length_drop]; omega
  (try dsimp only); (try k_lift B'); (try k_fold)
  k_steps
  ·
    (with_reducible rename News _ L' _ _ => N9)
    (with_reducible rename Fr _ L' _ _ => F9)
    refine ⟨_, _, _, _, KtsTurn.refl, F9, N9, fun h0' TT FF NN BB XX PP DD => ?_⟩
    refine bool_true (by simp) ?_
    exact hQ.out h0' _ _ octs n _ _ _ _ _ _ _ _ _ _ ⟨by omega, by omega⟩ (by omega) hb hI hIo TT FF (News.sub NN (fun p hp => by
      simp only [List.mem_cons] at hp ⊢
      rcases hp with h | h | h | h | h | h
      all_goals repeat (first | exact h | exact Or.inl h | refine Or.inr ?_))) BB XX PP DD
  ·
    (with_reducible rename News _ L' _ _ => N9)
    (with_reducible rename Fr _ L' _ _ => F9)
    refine ⟨_, _, _, _, KtsTurn.refl, F9, N9, fun h0' TT FF NN BB XX PP DD => ?_⟩
    refine bool_true (by simp) ?_
    exact hQ.out h0' _ _ octs n _ _ _ _ _ _ _ _ _ _ ⟨by omega, by omega⟩ (by omega) hb hI hIo TT FF (News.sub NN (fun p hp => by
      simp only [List.mem_cons] at hp ⊢
      rcases hp with h | h | h | h | h | h
      all_goals repeat (first | exact h | exact Or.inl h | refine Or.inr ?_))) BB XX PP DD
end Mine

-- D8
open PySem PySem.W PyProof.Rows PySem.Calls
set_option Elab.async false
set_option maxRecDepth 100000
set_option maxHeartbeats 4000000
namespace Mine
theorem fresh_D8 : True := by
  w_top off
  trivial
local macro_rules | `(tactic| walk_at "no such key") => `(tactic| skip)
local macro_rules | `(tactic| walk_at "no such key") => `(tactic| skip)
local macro_rules | `(tactic| k_room) => `(tactic| ((try simp only [depth_under_make, depth_under_kw, depth_in1, depth_deeper, depth_caller]); omega))
local macro_rules | `(tactic| k_all) => `(tactic| assumption)
theorem header_spec {w : World} {A₀ : Around} {d u : Nat} {gs : Option (List Code)} {base h₀ : Heap} {env : Env} {outer : List Env} {L : Addr} {m mg mb : Str → Option Value} {s : Shared} {loose : List Str} {mean : ExcName → Option Value} {E : Value → Shared → Prop} {Q : Value → Shared → Prop} {news : List (Addr × Obj)} {x dx l : Addr} {ws : List Value} {octs : List Int} {v : Nat} {n : Int} {ta tb tc : Tok} {lo mo rr : Addr} {wr : List Value} {km kr : Nat} {tm : Tok}
    (B : Below A₀ base outer h₀) (F : Fr h₀ L s.heap m) (X : (Mine.hd.heap_39 w.params).In h₀) (N : News h₀ L s.heap news) (T : Top Mine.hd.view_39 loose mean mg mb h₀)
    (D : KtsDicts (outer.filterMap (·.frame)) h₀)
    (hf : env.frame = some L) (hke : env.scope.kind = .function) (hd : d + 60 < recursionLimit) (hu : u + 300 < cLine)
    (XB : (Mine.hd.heap_39 w.params).In base) (TB : Top Mine.hd.view_39 loose mean mg mb base)
    (h1 : (x, instObj 80 dx) ∈ news) (h2 : (dx, pDict w l n ta tb tc) ∈ news) (h3 : (l, listOf (List.toArray ws) v) ∈ news) (h4 : (mo, listOf #[.ref lo, .int n tm] km) ∈ news) (h5 : (rr, listOf (List.toArray wr) kr) ∈ news)
    (hxd : x ≠ dx) (hld : l ≠ dx)
    (hI : IntsAre ws octs) (hn : 0 ≤ n) (hlen : octs.length ≤ 1000)
    (hmd : mo ≠ dx) (hrd : rr ≠ dx) (hrm : rr ≠ mo) (hxm : x ≠ mo) (hdm : dx ≠ mo) (hlm : l ≠ mo)
    (hb : ∀ b ∈ octs, 0 ≤ b ∧ b < 256) (hIr : IntsAre wr (octs.drop n.toNat)) (hno : n ≤ octs.length)
    (hQ : ∀ h₀' h' tk (pl : Int) tc' tm' km', 0 ≤ pl ∧ pl ≤ (octs.length : Int) → KtsTurn (outer.filterMap (·.frame)) h₀ h₀' → Fr h₀' L h' m → News h₀' L h' ((x, instObj 80 dx) :: (dx, pDict w l (pl) ta tb tc') :: (l, listOf ws.toArray v) :: (mo, listOf #[.ref lo, .int pl tm'] km') :: List.filter (fun p => decide (p.1 ≠ dx ∧ p.1 ≠ mo)) news) → Below A₀ base outer h₀' → (Mine.hd.heap_39 w.params).In h₀' → Top Mine.hd.view_39 loose mean mg mb h₀' → KtsDicts (outer.filterMap (·.frame)) h₀' →
      Q (.bool true) { s with heap := h', toks := tk }) :
    wpAny (model PySem.Challenge.rw_aa6022_01.row.prog w) ⟨none, d, some (env :: outer), gs, u⟩ (call (.ref 160) [.ref x, .ref mo, .ref rr]) Q E s := by
  have hof : ∀ p ∈ List.filter (fun p => decide (p.1 ≠ dx ∧ p.1 ≠ mo)) news, p.1 ≠ dx ∧ p.1 ≠ mo := fun p hp => of_decide_eq_true (List.mem_filter.mp hp).2
  exact header_core B F X (News.sub N (fun p hp => by
    simp only [List.mem_cons] at hp
    rcases hp with rfl | rfl | rfl | rfl | rfl | h
    · exact h1
    · exact h2
    · exact h3
    · exact h4
    · exact h5
    · exact (List.mem_filter.mp h).1)) T D hf hke hd hu XB TB hxd hld (fun p hp => (hof p hp).1) hI hn hlen hmd hrd hrm hxm hdm hlm (fun p hp => (hof p hp).2) hb hIr hno hQ
local macro_rules | `(tactic| walk_at "ite") => `(tactic| first
  | refine PySem.W.ite_pos (by (with_reducible rename Int.fmod _ 9 = _ => kk9); rw [kk9]; decide) ?_
  | refine PySem.W.ite_neg (by (with_reducible rename Int.fmod _ 9 = _ => kk9); rw [kk9]; decide) ?_)
theorem deed_8 {w : World} {A₀ : Around} {d u : Nat} {gs : Option (List Code)} {base h₀ : Heap} {env : Env} {outer : List Env} {L : Addr} {m mg mb : Str → Option Value} {s : Shared} {loose : List Str} {mean : ExcName → Option Value} {E : Value → Shared → Prop} {Q : Value → Shared → Prop} {rest : List (Addr × Obj)} {x dx l : Addr} {ws : List Value} {octs : List Int} {v : Nat} {n : Int} {ta tb tc : Tok} {lo mo : Addr} {wlo : List Value} {km klo : Nat} {tm tn : Tok} {nn : Int}
    (B : Below A₀ base outer h₀) (F : Fr h₀ L s.heap m) (X : (hd.heap_39 w.params).In h₀) (N : News h₀ L s.heap ((x, instObj 80 dx) :: (dx, pDict w l (n) ta tb tc) :: (l, listOf (List.toArray ws) v) :: (mo, listOf #[.ref lo, .int n tm] km) :: (lo, listOf (List.toArray wlo) klo) :: rest)) (T : Top hd.view_39 loose mean mg mb h₀)
    (D : KtsDicts (outer.filterMap (·.frame)) h₀)
    (hf : env.frame = some L) (hke : env.scope.kind = .function) (hd : d + 120 < recursionLimit) (hu : u + 600 < cLine)
    (XB : (Mine.hd.heap_39 w.params).In base) (TB : Top Mine.hd.view_39 loose mean mg mb base)
    (hxd : x ≠ dx) (hld : l ≠ dx) (hoff : ∀ p ∈ rest, p.1 ≠ dx)
    (hI : IntsAre ws octs) (hn : 0 ≤ n) (hlen : octs.length ≤ 900)
    (hmd : mo ≠ dx) (hod : lo ≠ dx) (hxm : x ≠ mo) (hdm : dx ≠ mo) (hlm : l ≠ mo) (hom : lo ≠ mo) (hoffm : ∀ p ∈ rest, p.1 ≠ mo)
    (hb : ∀ b ∈ octs, 0 ≤ b ∧ b < 256) (hIo : IntsAre wlo octs) (hno : n ≤ octs.length) (hnn : 0 ≤ nn ∧ nn < 1000000007) (hk : nn.fmod 9 = 8)
    (hQ : ∀ h₀' h' tk (octs' : List Int) (pl : Int) ws' l' v' wlo' lo' klo' ta' tc' tm' km', 0 ≤ pl ∧ pl ≤ (octs'.length : Int) → octs'.length ≤ octs.length + 20 → (∀ b ∈ octs', 0 ≤ b ∧ b < 256) → IntsAre ws' octs' → IntsAre wlo' octs' → KtsTurn (outer.filterMap (·.frame)) h₀ h₀' → Fr h₀' L h' m →
      News h₀' L h' ((x, instObj 80 dx) :: (dx, pDict w l' (pl) ta' tb tc') :: (l', listOf (List.toArray ws') v') :: (mo, listOf #[.ref lo', .int pl tm'] km') :: (lo', listOf (List.toArray wlo') klo') :: rest) → Below A₀ base outer h₀' → (Mine.hd.heap_39 w.params).In h₀' → Top Mine.hd.view_39 loose mean mg mb h₀' → KtsDicts (outer.filterMap (·.frame)) h₀' → Q (.bool true) { s with heap := h', toks := tk }) :
    wpAny (model PySem.Challenge.rw_aa6022_01.row.prog w) ⟨none, d, some (env :: outer), gs, u⟩ (call (.ref 165) [.ref x, .ref mo, .int nn tn]) Q E s := by
  revert X; k_fill; intro X
  replace hQ := Shut.mk hQ
  refine wpAny_call ?_
  refine' code_cellsT B F X N T XB TB D rfl hf hke ?k6 ?k7 ?k8 ?k9 ?kB ?kD ?_ ?c2 ?c3 ?c4
  case k6 => k_is
  case k7 => k_is
  case k8 => k_room
  case k9 => first | exact BindsTo.of_eq rfl | exact binds_K (by k_in) rfl (by k_is) rfl rfl rfl
  case kB => exact rfl
  case kD => decide +kernel
  case c2 => exact rfl
  case c3 => exact rfl
  case c4 => exact rfl
  intro g' L' h' tk' cells' FG' F' N' Y' B' X' T' D' l1
  (try k_lt l1); k_cells Y'; (try simp only [List.cons_append, List.nil_append] at N')
  have hr1 : ∀ p ∈ rest, p.1 ≠ L' + 1 := fun p hp => Nat.ne_of_lt (Nat.lt_succ_of_lt (allLt_all l1.2.2.2.2.2 p hp))
  have hr2 : ∀ p ∈ rest, p.1 ≠ L' + 1 + 1 := fun p hp => Nat.ne_of_lt (Nat.lt_succ_of_lt (Nat.lt_succ_of_lt (allLt_all l1.2.2.2.2.2 p hp)))
  have hrl : (octs.drop n.toNat).length ≤ octs.length := by rw [List.length_drop]; omega
  (try dsimp only); (try k_lift B'); (try k_fold)
  iterate 200 (try ((fail_if_success (with_reducible show wpAny _ _ (call (Value.ref 160) _) _ _ _)); (first | (k_unfold; (try dsimp only)) | (k_end; wrow_close) | walk1 | (dsimp only; walk1) | (leave1; walk_say "STEP leave1"; try dsimp only))))
  (with_reducible rename News _ L' _ _ => N9)
  (with_reducible rename Fr _ L' _ _ => F9)
  (with_reducible rename IntsAre _ (List.drop _ _) => hIr)
  (with_reducible rename (_ < _ ∧ _) => l9)
  k_dflt (refine' header_spec ?B F9 ?X N9 ?T ?D ?hf ?hke ?hd ?hu XB TB ?h1 ?h2 ?h3 ?h4 ?h5 hxd hld hI hn ?hlen hmd ?hrd ?hrm hxm hdm hlm hb hIr hno ?_)
  case B => k_asm
  case X => k_asm
  case T => k_asm
  case D => k_asm
  case hf => exact rfl
  case hke => exact rfl
  case hd => first | omega | ((try simp only [depth_under_make, depth_under_kw, depth_in1, depth_deeper, depth_caller, PySem.W.depth_mark]); (try dsimp only); omega) | decide
  case hu => first | omega | ((try simp only [Around.deeper_units, Around.in1_units, Around.mark_units]); (try dsimp only); omega) | decide
  case hlen => omega
  case h1 => k_mem
  case h2 => k_mem
  case h3 => k_mem
  case h4 => k_mem
  case h5 => k_mem
  case hrd => exact Nat.ne_of_gt l9.2.2.2.1
  case hrm => exact Nat.ne_of_gt l9.2.2.2.2.2.1
  intro h₁ h2 tk2 pl tc2 tm2 km2 hpl T9 F9 N9 BB9 XX9 PP9 DD9
  refine ⟨_, _, _, _, T9, F9, N9, fun h0' TT FF NN BB XX PP DD => ?_⟩
  refine bool_true rfl ?_
  exact hQ.out h0' _ _ octs pl _ _ _ _ _ _ _ _ _ _ hpl (by omega) hb hI hIo TT FF (News.sub NN (fun p hp => by
    simp only [List.mem_cons] at hp ⊢
    rcases hp with h | h | h | h | h | h
    · exact Or.inl h
    · exact Or.inr (Or.inl h)
    · exact Or.inr (Or.inr (Or.inl h))
    · exact Or.inr (Or.inr (Or.inr (Or.inl h)))
    · refine Or.inr (Or.inr (Or.inr (Or.inr (List.mem_filter.mpr ⟨?_, decide_eq_true ?_⟩))))
      · rw [h]; k_mem
      · rw [h]; exact ⟨hod, hom⟩
    · refine Or.inr (Or.inr (Or.inr (Or.inr (List.mem_filter.mpr ⟨?_, decide_eq_true ⟨hoff p h, hoffm p h⟩⟩))))
      simp only [List.mem_cons]
      repeat (first | exact h | refine Or.inr ?_))) BB XX PP DD
end Mine

-- At
open PySem PySem.W PyProof.Rows PySem.Calls
set_option Elab.async false
set_option maxRecDepth 100000
set_option maxHeartbeats 1000000
namespace Mine
theorem fresh_At : True := by
  w_top off
  trivial
local macro_rules | `(tactic| k_room) => `(tactic| ((try simp only [depth_under_make, depth_under_kw, depth_in1, depth_deeper, depth_caller]); omega))
local macro_rules | `(tactic| k_all) => `(tactic| assumption)
def lawAt (ns : List Int) (k : Int) : Int := if ns.length = 0 then 7 * k + 3 else (ns.getD (k.fmod ns.length).toNat 0 + 13 * k.fdiv ns.length).fmod 1000000007
theorem lawAt_nil {ns : List Int} {k : Int} (h : ns.length = 0) : lawAt ns k = 7 * k + 3 := if_pos h
theorem lawAt_cons {ns : List Int} {k : Int} (h : 0 < ns.length) : lawAt ns k = (ns.getD (k.fmod ns.length).toNat 0 + 13 * k.fdiv ns.length).fmod 1000000007 := if_neg (Nat.ne_of_gt h)
theorem lawAt_bounds {ns : List Int} {k : Int} (hk : 0 ≤ k ∧ k ≤ 1000) : 0 ≤ lawAt ns k ∧ lawAt ns k < 1000000007 := by
  unfold lawAt
  split
  · omega
  · exact ⟨Int.fmod_nonneg_of_pos _ (by decide), Int.fmod_lt_of_pos _ (by decide)⟩
theorem at_spec {w : World} {A₀ : Around} {d u : Nat} {gs : Option (List Code)} {base h₀ : Heap} {env : Env} {outer : List Env} {L : Addr} {m mg mb : Str → Option Value} {s : Shared} {loose : List Str} {mean : ExcName → Option Value} {E : Value → Shared → Prop} {Q : Value → Shared → Prop} {news : List (Addr × Obj)} {a : Addr} {ws : List Value} {ns : List Int} {k : Int} {tk : Tok}
    (B : Below A₀ base outer h₀) (F : Fr h₀ L s.heap m) (X : (hd.heap_39 w.params).In h₀) (N : News h₀ L s.heap news) (T : Top hd.view_39 loose mean mg mb h₀)
    (hf : env.frame = some L) (hke : env.scope.kind = .function) (hd : d + 20 < recursionLimit)
    (hL : base.IsList a ws.toArray) (hI : IntsAre ws ns) (hlen : ns.length ≤ 63) (hk : 0 ≤ k ∧ k ≤ 1000)
    (hQ : ∀ h' tk t, 0 ≤ lawAt ns k ∧ lawAt ns k < 1000000007 → Fr h₀ L h' m → News h₀ L h' news → Q (.int (lawAt ns k) t) { s with heap := h', toks := tk }) :
    wpAny (model PySem.Challenge.rw_aa6022_01.row.prog w) ⟨none, d, some (env :: outer), gs, u⟩ (call (.ref 139) [.ref a, .int k tk]) Q E s := by
  have hfm : 0 < ns.length → 0 ≤ k.fmod ns.length ∧ k.fmod ns.length < ns.length := fun h => ⟨Int.fmod_nonneg_of_pos _ (by omega), Int.fmod_lt_of_pos _ (by omega)⟩
  revert X; k_fill; intro X
  replace hQ := Shut.mk hQ
  refine wpAny_call ?_
  refine' code_def B F X N T rfl hf hke ?k6 ?k7 ?k8 ?k9 ?kB ?_ ?c2 ?c3 ?c4 ?c5
  case k6 => k_is
  case k7 => k_is
  case k8 => k_room
  case k9 => first | exact BindsTo.of_eq rfl | exact binds_K (by k_in) rfl (by k_is) rfl rfl rfl
  case kB => exact locs rfl
  case c2 => exact rfl
  case c3 => exact rfl
  case c4 => exact rfl
  case c5 => decide
  intro g' L' h' FG' F' N' B' X' T'
  (try dsimp only); (try k_lift B'); (try k_fold)
  k_steps
  · (with_reducible rename News h₀ L _ _ => N2)
    (with_reducible rename Fr h₀ L _ _ => F2)
    rw [← lawAt_cons (by omega)]
    exact hQ.out _ _ _ (lawAt_bounds hk) F2 N2
  · (with_reducible rename News h₀ L _ _ => N2)
    (with_reducible rename Fr h₀ L _ _ => F2)
    rw [← lawAt_nil (ns := ns) (by omega)]
    exact hQ.out _ _ _ (lawAt_bounds hk) F2 N2
end Mine

-- Dd
open PySem PySem.W PyProof.Rows PySem.Calls
set_option Elab.async false
set_option maxRecDepth 100000
set_option maxHeartbeats 1000000
namespace Mine
theorem fresh_Dd : True := by
  w_top off
  trivial
local macro_rules | `(tactic| walk_at "no such key") => `(tactic| skip)
local macro_rules | `(tactic| k_room) => `(tactic| ((try simp only [depth_under_make, depth_under_kw, depth_in1, depth_deeper, depth_caller]); omega))
local macro_rules | `(tactic| k_all) => `(tactic| assumption)
theorem deed_any {w : World} {A₀ : Around} {d u : Nat} {gs : Option (List Code)} {base h₀ : Heap} {env : Env} {outer : List Env} {L : Addr} {m mg mb : Str → Option Value} {s : Shared} {loose : List Str} {mean : ExcName → Option Value} {E : Value → Shared → Prop} {Q : Value → Shared → Prop} {rest : List (Addr × Obj)} {x dx l : Addr} {ws : List Value} {octs : List Int} {v : Nat} {n : Int} {ta tb tc : Tok} {lo mo : Addr} {wlo : List Value} {km klo : Nat} {tm tn : Tok} {nn : Int}
    (B : Below A₀ base outer h₀) (F : Fr h₀ L s.heap m) (X : (hd.heap_39 w.params).In h₀) (N : News h₀ L s.heap ((x, instObj 80 dx) :: (dx, pDict w l (n) ta tb tc) :: (l, listOf (List.toArray ws) v) :: (mo, listOf #[.ref lo, .int n tm] km) :: (lo, listOf (List.toArray wlo) klo) :: rest)) (T : Top hd.view_39 loose mean mg mb h₀)
    (D : KtsDicts (outer.filterMap (·.frame)) h₀)
    (hf : env.frame = some L) (hke : env.scope.kind = .function) (hd : d + 120 < recursionLimit) (hu : u + 600 < cLine)
    (XB : (Mine.hd.heap_39 w.params).In base) (TB : Top Mine.hd.view_39 loose mean mg mb base)
    (hxd : x ≠ dx) (hld : l ≠ dx) (hoff : ∀ p ∈ rest, p.1 ≠ dx)
    (hI : IntsAre ws octs) (hn : 0 ≤ n) (hlen : octs.length ≤ 900)
    (hmd : mo ≠ dx) (hod : lo ≠ dx) (hxm : x ≠ mo) (hdm : dx ≠ mo) (hlm : l ≠ mo) (hom : lo ≠ mo) (hoffm : ∀ p ∈ rest, p.1 ≠ mo)
    (hb : ∀ b ∈ octs, 0 ≤ b ∧ b < 256) (hIo : IntsAre wlo octs) (hno : n ≤ octs.length) (hnn : 0 ≤ nn ∧ nn < 1000000007)
    (hQ : ∀ h₀' h' tk (octs' : List Int) (pl : Int) ws' l' v' wlo' lo' klo' ta' tc' tm' km', 0 ≤ pl ∧ pl ≤ (octs'.length : Int) → octs'.length ≤ octs.length + 20 → (∀ b ∈ octs', 0 ≤ b ∧ b < 256) → IntsAre ws' octs' → IntsAre wlo' octs' → KtsTurn (outer.filterMap (·.frame)) h₀ h₀' → Fr h₀' L h' m →
      News h₀' L h' ((x, instObj 80 dx) :: (dx, pDict w l' (pl) ta' tb tc') :: (l', listOf (List.toArray ws') v') :: (mo, listOf #[.ref lo', .int pl tm'] km') :: (lo', listOf (List.toArray wlo') klo') :: rest) → Below A₀ base outer h₀' → (Mine.hd.heap_39 w.params).In h₀' → Top Mine.hd.view_39 loose mean mg mb h₀' → KtsDicts (outer.filterMap (·.frame)) h₀' → Q (.bool true) { s with heap := h', toks := tk }) :
    wpAny (model PySem.Challenge.rw_aa6022_01.row.prog w) ⟨none, d, some (env :: outer), gs, u⟩ (call (.ref 165) [.ref x, .ref mo, .int nn tn]) Q E s := by
  have h9 : 0 ≤ nn.fmod 9 ∧ nn.fmod 9 < 9 := mod_bounds.2.2.2.2
  have hk : nn.fmod 9 = 0 ∨ nn.fmod 9 = 1 ∨ nn.fmod 9 = 2 ∨ nn.fmod 9 = 3 ∨ nn.fmod 9 = 4 ∨ nn.fmod 9 = 5 ∨ nn.fmod 9 = 6 ∨ nn.fmod 9 = 7 ∨ nn.fmod 9 = 8 := by omega
  rcases hk with hk | hk | hk | hk | hk | hk | hk | hk | hk
  · exact deed_0 B F X N T D hf hke hd hu XB TB hxd hld hoff hI hn hlen hmd hod hxm hdm hlm hom hoffm hb hIo hno hnn hk hQ
  · exact deed_1 B F X N T D hf hke hd hu XB TB hxd hld hoff hI hn hlen hmd hod hxm hdm hlm hom hoffm hb hIo hno hnn hk hQ
  · exact deed_2 B F X N T D hf hke hd hu XB TB hxd hld hoff hI hn hlen hmd hod hxm hdm hlm hom hoffm hb hIo hno hnn hk hQ
  · exact deed_3 B F X N T D hf hke hd hu XB TB hxd hld hoff hI hn hlen hmd hod hxm hdm hlm hom hoffm hb hIo hno hnn hk hQ
  · exact deed_4 B F X N T D hf hke hd hu XB TB hxd hld hoff hI hn hlen hmd hod hxm hdm hlm hom hoffm hb hIo hno hnn hk hQ
  · exact deed_5 B F X N T D hf hke hd hu XB TB hxd hld hoff hI hn hlen hmd hod hxm hdm hlm hom hoffm hb hIo hno hnn hk hQ
  · exact deed_6 B F X N T D hf hke hd hu XB TB hxd hld hoff hI hn hlen hmd hod hxm hdm hlm hom hoffm hb hIo hno hnn hk hQ
  · exact deed_7 B F X N T D hf hke hd hu XB TB hxd hld hoff hI hn hlen hmd hod hxm hdm hlm hom hoffm hb hIo hno hnn hk hQ
  · exact deed_8 B F X N T D hf hke hd hu XB TB hxd hld hoff hI hn hlen hmd hod hxm hdm hlm hom hoffm hb hIo hno hnn hk hQ
structure FS where
  l : Addr
  ws : List Value
  octs : List Int
  v : Nat
  n : Int
  ta : Tok
  tb : Tok
  tc : Tok
  lo : Addr
  wlo : List Value
  km : Nat
  klo : Nat
  tm : Tok
structure FS.Ok (f : FS) (z : Nat) : Prop where
  place : 0 ≤ f.n ∧ f.n ≤ (f.octs.length : Int)
  len : f.octs.length ≤ z
  bytes : ∀ b ∈ f.octs, 0 ≤ b ∧ b < 256
  hInts : IntsAre f.ws f.octs
  hIntsO : IntsAre f.wlo f.octs
abbrev FS.led (w : World) (x dx mo : Addr) (f : FS) (r : List (Addr × Obj)) : List (Addr × Obj) :=
  (x, instObj 80 dx) :: (dx, pDict w f.l f.n f.ta f.tb f.tc) :: (f.l, listOf (List.toArray f.ws) f.v) :: (mo, listOf #[.ref f.lo, .int f.n f.tm] f.km) :: (f.lo, listOf (List.toArray f.wlo) f.klo) :: r
theorem apart_of {h₀ h : Heap} {L : Addr} {news : List (Addr × Obj)} (N : News h₀ L h news) {a b : Addr} {o o' : Obj} (hp : (a, o) ∈ news) (hq : (b, o') ∈ news) (e : o ≠ o') : a ≠ b := fun z => e (by
  have h1 := (N _ hp).1
  have h2 := (N _ hq).1
  rw [show (a, o).1 = (b, o').1 from z, h2] at h1
  exact (Option.some.inj h1).symm)
theorem ints_ne {vs : List Value} {ns : List Int} {k k' : Nat} {a : Addr} {r : List Value} (h : IntsAre vs ns) : listOf (List.toArray vs) k ≠ listOf (List.toArray (.ref a :: r)) k' := fun e => by
  have e1 := congrArg Obj.data e
  injection e1 with e1 _
  have e2 : vs = .ref a :: r := by simpa using e1
  subst e2
  cases h
theorem FS.sep {w : World} {x dx mo : Addr} {f : FS} {r : List (Addr × Obj)} {z : Nat} {h₀ h : Heap} {L : Addr} (N : News h₀ L h (f.led w x dx mo r)) (k : f.Ok z) :
    x ≠ dx ∧ f.l ≠ dx ∧ mo ≠ dx ∧ f.lo ≠ dx ∧ x ≠ mo ∧ dx ≠ mo ∧ f.l ≠ mo ∧ f.lo ≠ mo := by
  have m1 : (x, instObj 80 dx) ∈ f.led w x dx mo r := .head _
  have m2 : (dx, pDict w f.l f.n f.ta f.tb f.tc) ∈ f.led w x dx mo r := .tail _ (.head _)
  have m3 : (f.l, listOf (List.toArray f.ws) f.v) ∈ f.led w x dx mo r := .tail _ (.tail _ (.head _))
  have m4 : (mo, listOf #[.ref f.lo, .int f.n f.tm] f.km) ∈ f.led w x dx mo r := .tail _ (.tail _ (.tail _ (.head _)))
  have m5 : (f.lo, listOf (List.toArray f.wlo) f.klo) ∈ f.led w x dx mo r := .tail _ (.tail _ (.tail _ (.tail _ (.head _))))
  exact ⟨apart_of N m1 m2 (by intro e; cases (congrArg Obj.data e)), apart_of N m3 m2 (by intro e; cases (congrArg Obj.data e)), apart_of N m4 m2 (by intro e; cases (congrArg Obj.data e)),
    apart_of N m5 m2 (by intro e; cases (congrArg Obj.data e)), apart_of N m1 m4 (by intro e; cases (congrArg Obj.data e)), apart_of N m2 m4 (by intro e; cases (congrArg Obj.data e)),
    apart_of N m3 m4 (ints_ne k.hInts), apart_of N m5 m4 (ints_ne k.hIntsO)⟩
theorem FS.sep2 {w : World} {x dx mo y dy my : Addr} {f g : FS} {r : List (Addr × Obj)} {z' : Nat} {h₀ h : Heap} {L : Addr} (N : News h₀ L h (f.led w x dx mo (g.led w y dy my r))) (kg : g.Ok z') (hd : dy ≠ dx) (hm : my ≠ mo) (hr : ∀ p ∈ r, p.1 ≠ dx ∧ p.1 ≠ mo) :
    ∀ p ∈ g.led w y dy my r, p.1 ≠ dx ∧ p.1 ≠ mo := by
  have m2 : (dx, pDict w f.l f.n f.ta f.tb f.tc) ∈ f.led w x dx mo (g.led w y dy my r) := .tail _ (.head _)
  have m4 : (mo, listOf #[.ref f.lo, .int f.n f.tm] f.km) ∈ f.led w x dx mo (g.led w y dy my r) := .tail _ (.tail _ (.tail _ (.head _)))
  have up : ∀ p ∈ g.led w y dy my r, p ∈ f.led w x dx mo (g.led w y dy my r) := fun p hp => .tail _ (.tail _ (.tail _ (.tail _ (.tail _ hp))))
  intro p hp
  have hp' := up p hp
  rcases List.mem_cons.mp hp with rfl | hp
  · exact ⟨apart_of N hp' m2 (by intro e; cases (congrArg Obj.data e)), apart_of N hp' m4 (by intro e; cases (congrArg Obj.data e))⟩
  rcases List.mem_cons.mp hp with rfl | hp
  · exact ⟨hd, apart_of N hp' m4 (by intro e; cases (congrArg Obj.data e))⟩
  rcases List.mem_cons.mp hp with rfl | hp
  · exact ⟨apart_of N hp' m2 (by intro e; cases (congrArg Obj.data e)), apart_of N hp' m4 (ints_ne kg.hInts)⟩
  rcases List.mem_cons.mp hp with rfl | hp
  · exact ⟨apart_of N hp' m2 (by intro e; cases (congrArg Obj.data e)), hm⟩
  rcases List.mem_cons.mp hp with rfl | hp
  · exact ⟨apart_of N hp' m2 (by intro e; cases (congrArg Obj.data e)), apart_of N hp' m4 (ints_ne kg.hIntsO)⟩
  exact hr p hp
theorem turn_nil {h₀ h₁ : Heap} (t : KtsTurn [] h₀ h₁) {L : Addr} {h : Heap} {m : Str → Option Value} {news : List (Addr × Obj)} (F : Fr h₁ L h m) (N : News h₁ L h news) : Fr h₀ L h m ∧ News h₀ L h news :=
  ⟨⟨F.ns, fun b o e => F.keep b o (t.other b o e (fun q => nomatch q)), by rw [← t.size]; exact F.above⟩, fun p hp => ⟨(N p hp).1, (N p hp).2.1, by
    cases q : h₀.get? p.1 with
    | none => rfl
    | some o => have := t.other _ _ q (fun q => nomatch q); rw [(N p hp).2.2] at this; cases this⟩⟩
theorem deed_law {w : World} {A₀ : Around} {d u : Nat} {gs : Option (List Code)} {base h₀ : Heap} {env : Env} {L : Addr} {m mg mb : Str → Option Value} {s : Shared} {loose : List Str} {mean : ExcName → Option Value} {E : Value → Shared → Prop} {Q : Value → Shared → Prop} {rest : List (Addr × Obj)} {x dx mo : Addr} {f : FS} {z : Nat} {nn : Int} {tn : Tok}
    (B : Below A₀ base [] h₀) (F : Fr h₀ L s.heap m) (X : (hd.heap_39 w.params).In h₀) (N : News h₀ L s.heap (f.led w x dx mo rest)) (T : Top hd.view_39 loose mean mg mb h₀)
    (hf : env.frame = some L) (hke : env.scope.kind = .function) (hd : d + 120 < recursionLimit) (hu : u + 600 < cLine)
    (XB : (Mine.hd.heap_39 w.params).In base) (TB : Top Mine.hd.view_39 loose mean mg mb base)
    (hr : ∀ p ∈ rest, p.1 ≠ dx ∧ p.1 ≠ mo) (hok : f.Ok z) (hz : z ≤ 900) (hnn : 0 ≤ nn ∧ nn < 1000000007)
    (hQ : ∀ h' tk (f' : FS), f'.Ok (z + 20) → Fr h₀ L h' m → News h₀ L h' (f'.led w x dx mo rest) → Q (.bool true) { s with heap := h', toks := tk }) :
    wpAny (model PySem.Challenge.rw_aa6022_01.row.prog w) ⟨none, d, some (env :: []), gs, u⟩ (call (.ref 165) [.ref x, .ref mo, .int nn tn]) Q E s := by
  obtain ⟨s1, s2, s3, s4, s5, s6, s7, s8⟩ := FS.sep N hok
  have hlen := hok.len
  refine deed_any B F X N T ktsDicts_nil hf hke hd hu XB TB s1 s2 (fun p hp => (hr p hp).1) hok.hInts hok.place.1 (by omega) s3 s4 s5 s6 s7 s8 (fun p hp => (hr p hp).2) hok.bytes hok.hIntsO hok.place.2 hnn ?_
  intro h₀' h' tk octs' pl ws' l' v' wlo' lo' klo' ta' tc' tm' km' hpl hle hb' hI' hIo' TT FF NN _ _ _ _
  obtain ⟨F2, N2⟩ := turn_nil TT FF NN
  exact hQ h' tk ⟨l', ws', octs', v', pl, ta', f.tb, tc', lo', wlo', km', klo', tm'⟩ ⟨hpl, by show octs'.length ≤ z + 20; omega, hb', hI', hIo'⟩ F2 N2
theorem range_loop {prog : Program} {w : World} {A : Around} {E : Value → Shared → Prop} {s : Shared} {env : Env} {h₀ : Heap} {kx nx : Str} {body : List Stmt} {Q : Flow → Shared → Prop} {σ : Type} {r : Addr} {b₀ : Int} {t₀ u₀ v₀ : Tok} {n : Nat} {m₀ : Str → Option Value} (Led : σ → List (Addr × Obj)) (J : Nat → σ → Prop) (c₀ : σ)
    (hh : A.handled = none) (hr : IsRange s.heap r 0 b₀ 1 t₀ u₀ v₀) (hsmall : Builtin.Range.small 0 b₀ 1 = true) (hn : Builtin.Range.rangeSize 0 b₀ 1 = (n : Int)) (F : Fr h₀ env.locals s.heap m₀) (N : News h₀ env.locals s.heap (Led c₀)) (h0 : J 0 c₀)
    (hfld : ∀ c, ∀ p ∈ Led c, ∀ vs, p.2.data ≠ .fields vs)
    (turn : ∀ (i : Nat) c t un (s₁ : Shared) I oI, i < n → J i c → Fr h₀ env.locals s₁.heap (fun y => if y = kx then some (.int i t) else if y = nx then un else m₀ y) → News h₀ env.locals s₁.heap (Led c ++ [(I, oI)]) → (∀ p ∈ Led c, p.1 ≠ I) →
      wpAny (model prog w) A (execs body env) (fun f s' => f = .next ∧ ∃ h' tk c' uk un, s' = { s₁ with heap := h', toks := tk } ∧ Fr h₀ env.locals h' (fun y => if y = kx then uk else if y = nx then un else m₀ y) ∧ News h₀ env.locals h' (Led c' ++ [(I, oI)]) ∧ J (i + 1) c') E s₁)
    (done : ∀ h' tk c uk un, J n c → Fr h₀ env.locals h' (fun y => if y = kx then uk else if y = nx then un else m₀ y) → News h₀ env.locals h' (Led c) → Q .next { s with heap := h', toks := tk }) :
    wpAny (model prog w) A (pyIter (.ref r)) (fun it s₂ => LoopAtV prog w A h₀ env kx body Q E it s₂) E s := by
  refine wpAny_pyIter_range hr hsmall ?_
  have W : Walks prog w A s.heap.objs.size [s.heap.objs.size] [s.heap.objs.size] n (fun i v => i < n ∧ ∃ t, v = .int (0 + i * 1) t)
      (fun i h => IsRangeIter h s.heap.objs.size (0 + (i : Nat) * 1) ((n : Int) - (i : Nat)) 1) := (Walks.range hh _ 0 1 n).bound
  refine LoopAtU.toV ⟨_, _, _, n, _, _, m₀, Led c₀, fun i m₁ news₁ => ∃ c uk un, news₁ = Led c ∧ (m₁ = fun y => if y = kx then uk else if y = nx then un else m₀ y) ∧ J i c, rfl, W, ?_, ?_, ?_, (by show IsRangeIter _ _ _ _ _; rw [hn]; simpa using Heap.get?_push_size _ rfl), F.push _, (fun p hp => ⟨Heap.get?_push_of_some _ (N p hp).1, (N p hp).2⟩), ⟨c₀, m₀ kx, m₀ nx, rfl, funext fun y => ?_, h0⟩, ?_, ?_⟩
  · intro hm
    exact absurd F.ns.lt ((List.mem_singleton.mp hm) ▸ Nat.lt_irrefl _)
  · intro b hb
    rw [List.mem_singleton.mp hb]
    exact next_is_new F
  · intro p hp hI
    exact absurd (Heap.lt_size (N p hp).1) ((List.mem_singleton.mp hI) ▸ Nat.lt_irrefl _)
  · split
    · rename_i e; rw [e]
    · split
      · rename_i e; rw [e]
      · rfl
  · rintro i v m₁ news₁ s₁ own hi ⟨_, t, rfl⟩ ⟨c, uk, un, rfl, rfl, hJ⟩ hoff hfp hat hall hst F₁ N₁
    have e1 : (0 : Int) + (i : Int) * 1 = (i : Int) := by omega
    rw [e1] at F₁
    obtain ⟨oI, hoI, vI, hvI⟩ : ∃ oI : Obj, s₁.heap.get? s.heap.objs.size = some oI ∧ ∃ vs, oI.data = .fields vs := ⟨_, hst, _, rfl⟩
    have hmem := hall _ (List.mem_singleton.mpr rfl) (next_is_new F) _ hoI
    have F₂ : Fr h₀ env.locals s₁.heap (fun y => if y = kx then some (.int i t) else if y = nx then un else m₀ y) := Fr.congr F₁ (by
      funext y
      by_cases e : y = kx
      · simp [e]
      · simp [e])
    refine wpAny_mono (turn i c t un s₁ s.heap.objs.size oI hi hJ F₂ (fun p hp => ?_) (fun p hp q => hoff p hp (List.mem_singleton.mpr q))) (fun f s₂ p => ?_) fun _ _ e => e
    · rcases List.mem_append.mp hp with hp | hp
      · exact N₁ p (List.mem_append_right _ hp)
      · exact N₁ p (List.mem_append_left _ ((List.mem_singleton.mp hp) ▸ hmem))
    · obtain ⟨rfl, h', tk, c', uk', un', rfl, F₃, N₃, hJ₃⟩ := p
      refine LoopStepU.intro F₃ (news₂ := Led c') (fun p hp => ?_) (fun p hp hI => ?_) ⟨c', uk', un', rfl, rfl, hJ₃⟩
      · rcases List.mem_append.mp hp with hp | hp
        · have h1 := List.mem_singleton.mp (hfp p hp)
          have h2 := hat p hp
          obtain ⟨a, o⟩ := p
          obtain rfl : a = _ := h1
          have h3 := hoI.symm.trans h2
          obtain rfl := Option.some.inj h3
          exact N₃ _ (List.mem_append_right _ (List.mem_singleton.mpr rfl))
        · exact N₃ p (List.mem_append_left _ hp)
      · have h1 := (N₃ _ (List.mem_append_right _ (List.mem_singleton.mpr rfl))).1
        have h2 := (N₃ p (List.mem_append_left _ hp)).1
        rw [List.mem_singleton.mp hI] at h2
        have h3 := Option.some.inj (h1.symm.trans h2)
        exact hfld c' p hp vI (h3 ▸ hvI)
  · rintro h' tk m₂ news₂ F₂ N₂ _ ⟨c, uk, un, rfl, rfl, hJ⟩
    exact done h' tk c uk un hJ F₂ N₂
end Mine

-- Ml
open PySem PySem.W PyProof.Rows PySem.Calls
set_option Elab.async false
set_option maxRecDepth 100000
set_option maxHeartbeats 1000000
namespace Mine
theorem fresh_Ml : True := by
  w_top off
  trivial
local macro_rules | `(tactic| k_room) => `(tactic| ((try simp only [depth_under_make, depth_under_kw, depth_in1, depth_deeper, depth_caller]); omega))
local macro_rules | `(tactic| k_all) => `(tactic| assumption)
def TurnEnd (w : World) (h₀ : Heap) (L : Addr) (m₀ : Str → Option Value) (x0 d0 mo0 x1 d1 mo1 P M c : Addr) (kP kM : Nat) (oc : Obj) (I : Addr) (oI : Obj) (z : Nat) (s₁ s' : Shared) : Prop :=
  ∃ h' tk, ∃ (f g : FS) (uk un : Option Value), s' = { s₁ with heap := h', toks := tk } ∧ Fr h₀ L h' (fun y => if y = Str.ofString "k" then uk else if y = Str.ofString "n" then un else m₀ y) ∧ News h₀ L h' (f.led w x0 d0 mo0 (g.led w x1 d1 mo1 [(P, listOf #[.ref x0, .ref x1] kP), (M, listOf #[.ref mo0, .ref mo1] kM), (c, oc), (I, oI)])) ∧ f.Ok z ∧ g.Ok z
theorem led_swap {w : World} {x dx mo y dy my : Addr} {f g : FS} {r : List (Addr × Obj)} {h₀ h : Heap} {L : Addr} (N : News h₀ L h (f.led w x dx mo (g.led w y dy my r))) : News h₀ L h (g.led w y dy my (f.led w x dx mo r)) := fun p hp => N p (by
  simp only [List.mem_cons] at hp ⊢
  rcases hp with h | h | h | h | h | h | h | h | h | h | h <;> simp [h])
theorem tl_dif {w : World} {P M c x0 x1 mo0 mo1 : Addr} {kP kM : Nat} {oc : Obj} (hoc : ∃ v, oc.data = .cell v) : ∀ p ∈ [(P, listOf #[.ref x0, .ref x1] kP), (M, listOf #[.ref mo0, .ref mo1] kM), (c, oc)], ∀ l n ta tb tc, p.2 ≠ pDict w l n ta tb tc := by
  intro p hp l n ta tb tc e
  simp only [List.mem_cons, List.not_mem_nil, or_false] at hp
  obtain ⟨v, hv⟩ := hoc
  rcases hp with rfl | rfl | rfl
  · cases (congrArg Obj.data e)
  · cases (congrArg Obj.data e)
  · have e2 := congrArg Obj.data e
    rw [show (c, oc).2 = oc from rfl, hv] at e2
    cases e2
theorem tl_dif2 {P M c x0 x1 mo0 mo1 : Addr} {kP kM : Nat} {oc : Obj} (hoc : ∃ v, oc.data = .cell v) : ∀ p ∈ [(P, listOf #[.ref x0, .ref x1] kP), (M, listOf #[.ref mo0, .ref mo1] kM), (c, oc)], ∀ a n t k, p.2 ≠ listOf #[.ref a, .int n t] k := by
  intro p hp a n t k e
  simp only [List.mem_cons, List.not_mem_nil, or_false] at hp
  obtain ⟨v, hv⟩ := hoc
  rcases hp with rfl | rfl | rfl
  · cases (congrArg Obj.data e)
  · cases (congrArg Obj.data e)
  · have e2 := congrArg Obj.data e
    rw [show (c, oc).2 = oc from rfl, hv] at e2
    cases e2
theorem tl_apart {w : World} {h₀ h : Heap} {L : Addr} {f g : FS} {P M c x0 x1 d0 d1 mo0 mo1 : Addr} {kP kM : Nat} {oc : Obj} (hoc : ∃ v, oc.data = .cell v) (N₀ : News h₀ L h (f.led w x0 d0 mo0 (g.led w x1 d1 mo1 [(P, listOf #[.ref x0, .ref x1] kP), (M, listOf #[.ref mo0, .ref mo1] kM), (c, oc)]))) :
    (∀ p ∈ [(P, listOf #[.ref x0, .ref x1] kP), (M, listOf #[.ref mo0, .ref mo1] kM), (c, oc)], p.1 ≠ d0 ∧ p.1 ≠ mo0) ∧ ∀ p ∈ [(P, listOf #[.ref x0, .ref x1] kP), (M, listOf #[.ref mo0, .ref mo1] kM), (c, oc)], p.1 ≠ d1 ∧ p.1 ≠ mo1 := by
  have b0 : (d0, pDict w f.l f.n f.ta f.tb f.tc) ∈ f.led w x0 d0 mo0 (g.led w x1 d1 mo1 [(P, listOf #[.ref x0, .ref x1] kP), (M, listOf #[.ref mo0, .ref mo1] kM), (c, oc)]) := .tail _ (.head _)
  have b1 : (mo0, listOf #[.ref f.lo, .int f.n f.tm] f.km) ∈ f.led w x0 d0 mo0 (g.led w x1 d1 mo1 [(P, listOf #[.ref x0, .ref x1] kP), (M, listOf #[.ref mo0, .ref mo1] kM), (c, oc)]) := .tail _ (.tail _ (.tail _ (.head _)))
  have b2 : (d1, pDict w g.l g.n g.ta g.tb g.tc) ∈ f.led w x0 d0 mo0 (g.led w x1 d1 mo1 [(P, listOf #[.ref x0, .ref x1] kP), (M, listOf #[.ref mo0, .ref mo1] kM), (c, oc)]) := .tail _ (.tail _ (.tail _ (.tail _ (.tail _ (.tail _ (.head _))))))
  have b3 : (mo1, listOf #[.ref g.lo, .int g.n g.tm] g.km) ∈ f.led w x0 d0 mo0 (g.led w x1 d1 mo1 [(P, listOf #[.ref x0, .ref x1] kP), (M, listOf #[.ref mo0, .ref mo1] kM), (c, oc)]) := .tail _ (.tail _ (.tail _ (.tail _ (.tail _ (.tail _ (.tail _ (.tail _ (.head _))))))))
  have up : ∀ p ∈ [(P, listOf #[.ref x0, .ref x1] kP), (M, listOf #[.ref mo0, .ref mo1] kM), (c, oc)], p ∈ f.led w x0 d0 mo0 (g.led w x1 d1 mo1 [(P, listOf #[.ref x0, .ref x1] kP), (M, listOf #[.ref mo0, .ref mo1] kM), (c, oc)]) := fun p hp => .tail _ (.tail _ (.tail _ (.tail _ (.tail _ (.tail _ (.tail _ (.tail _ (.tail _ (.tail _ hp)))))))))
  exact ⟨fun p hp => ⟨apart_of N₀ (up p hp) b0 (tl_dif hoc p hp _ _ _ _ _), apart_of N₀ (up p hp) b1 (tl_dif2 hoc p hp _ _ _ _)⟩, fun p hp => ⟨apart_of N₀ (up p hp) b2 (tl_dif hoc p hp _ _ _ _ _), apart_of N₀ (up p hp) b3 (tl_dif2 hoc p hp _ _ _ _)⟩⟩
theorem sepN {w : World} {h₀ h : Heap} {L : Addr} {f g : FS} {z z' : Nat} {P M c x0 x1 d0 d1 mo0 mo1 : Addr} {kP kM : Nat} {oc : Obj} (hoc : ∃ v, oc.data = .cell v) (N : News h₀ L h (f.led w x0 d0 mo0 (g.led w x1 d1 mo1 [(P, listOf #[.ref x0, .ref x1] kP), (M, listOf #[.ref mo0, .ref mo1] kM), (c, oc)]))) (kf : f.Ok z) (kg : g.Ok z') (hdd : d1 ≠ d0) (hmm : mo1 ≠ mo0) :
    (x0 ≠ d0 ∧ f.l ≠ d0 ∧ mo0 ≠ d0 ∧ f.lo ≠ d0 ∧ x1 ≠ d0 ∧ d1 ≠ d0 ∧ g.l ≠ d0 ∧ mo1 ≠ d0 ∧ g.lo ≠ d0 ∧ P ≠ d0 ∧ M ≠ d0 ∧ c ≠ d0) ∧ (x0 ≠ d1 ∧ d0 ≠ d1 ∧ f.l ≠ d1 ∧ mo0 ≠ d1 ∧ f.lo ≠ d1 ∧ x1 ≠ d1 ∧ g.l ≠ d1 ∧ mo1 ≠ d1 ∧ g.lo ≠ d1 ∧ P ≠ d1 ∧ M ≠ d1 ∧ c ≠ d1) := by
  obtain ⟨t0, t1⟩ := tl_apart hoc N
  obtain ⟨a1, a2, a3, a4, _, _, _, _⟩ := FS.sep N kf
  obtain ⟨c1, c2, c3, c4, _, _, _, _⟩ := FS.sep (led_swap N) kg
  have sA := FS.sep2 N kg hdd hmm t0
  have sB := FS.sep2 (led_swap N) kf hdd.symm hmm.symm t1
  have s0 := fun p hp => (sA p hp).1
  have s1 := fun p hp => (sB p hp).1
  simp only [List.forall_mem_cons] at s0 s1
  obtain ⟨e1, e2, e3, e4, e5, e6, e7, e8, _⟩ := s0
  obtain ⟨g1, g2, g3, g4, g5, g6, g7, g8, _⟩ := s1
  exact ⟨⟨a1, a2, a3, a4, e1, e2, e3, e4, e5, e6, e7, e8⟩, ⟨g1, g2, g3, g4, g5, c1, c2, c3, c4, g6, g7, g8⟩⟩
theorem main_loop {prog : Program} {w : World} {A : Around} {E : Value → Shared → Prop} {s : Shared} {env : Env} {h₀ : Heap} {body : List Stmt} {Q : Flow → Shared → Prop} {r : Addr} {b₀ : Int} {t₀ u₀ v₀ : Tok} {m₀ : Str → Option Value}
    {P M c x0 x1 d0 d1 l0 l1 mo0 mo1 lo0 lo1 : Addr} {kP kM v0 v1 km0 km1 klo0 klo1 : Nat} {ws0 ws1 : List Value} {os0 os1 : List Int} {ta0 tb0 tc0 ta1 tb1 tc1 tm0 tm1 : Tok} {oc : Obj} {q1 q2 : Addr × Obj}
    (N : News h₀ env.locals s.heap [(P, listOf #[.ref x0, .ref x1] kP), (l1, listOf (List.toArray ws1) v1), (x1, instObj 80 d1), (d1, pDict w l1 0 ta1 tb1 tc1), (l0, listOf (List.toArray ws0) v0), (x0, instObj 80 d0), (d0, pDict w l0 0 ta0 tb0 tc0),
      (M, listOf #[.ref mo0, .ref mo1] kM), (mo1, listOf #[.ref lo1, .int 0 tm1] km1), (lo1, listOf (List.toArray ws1) klo1), (mo0, listOf #[.ref lo0, .int 0 tm0] km0), (lo0, listOf (List.toArray ws0) klo0), q1, q2, (c, oc)])
    (F : Fr h₀ env.locals s.heap m₀)
    (hh : A.handled = none) (hr : IsRange s.heap r 0 b₀ 1 t₀ u₀ v₀) (hb : 0 ≤ b₀ ∧ b₀ < 40)
    (hI0 : IntsAre ws0 os0) (hI1 : IntsAre ws1 os1) (hl0 : os0.length ≤ 26) (hl1 : os1.length ≤ 26) (hb0 : ∀ b ∈ os0, 0 ≤ b ∧ b < 256) (hb1 : ∀ b ∈ os1, 0 ≤ b ∧ b < 256) (hoc : ∃ v, oc.data = .cell v) (hdd : d1 ≠ d0) (hmm : mo1 ≠ mo0)
    (turn : ∀ (i : Nat) (f g : FS) t un (s₁ : Shared) I oI, i < b₀.toNat → f.Ok (26 + 20 * i) → g.Ok (26 + 20 * i) → Fr h₀ env.locals s₁.heap (fun y => if y = Str.ofString "k" then some (.int i t) else if y = Str.ofString "n" then un else m₀ y) →
      News h₀ env.locals s₁.heap (f.led w x0 d0 mo0 (g.led w x1 d1 mo1 [(P, listOf #[.ref x0, .ref x1] kP), (M, listOf #[.ref mo0, .ref mo1] kM), (c, oc), (I, oI)])) → (∀ p ∈ [(P, listOf #[.ref x0, .ref x1] kP), (M, listOf #[.ref mo0, .ref mo1] kM), (c, oc), (I, oI)], p.1 ≠ d0 ∧ p.1 ≠ mo0) → (∀ p ∈ [(P, listOf #[.ref x0, .ref x1] kP), (M, listOf #[.ref mo0, .ref mo1] kM), (c, oc), (I, oI)], p.1 ≠ d1 ∧ p.1 ≠ mo1) → d1 ≠ d0 → mo1 ≠ mo0 →
      wpAny (model prog w) A (execs body env) (fun f s' => f = .next ∧ TurnEnd w h₀ env.locals m₀ x0 d0 mo0 x1 d1 mo1 P M c kP kM oc I oI (26 + 20 * (i + 1)) s₁ s') E s₁)
    (done : ∀ h' tk (f g : FS) uk un, f.Ok 900 → g.Ok 900 → Fr h₀ env.locals h' (fun y => if y = Str.ofString "k" then uk else if y = Str.ofString "n" then un else m₀ y) → News h₀ env.locals h' (f.led w x0 d0 mo0 (g.led w x1 d1 mo1 [(P, listOf #[.ref x0, .ref x1] kP), (M, listOf #[.ref mo0, .ref mo1] kM), (c, oc)])) → (x0 ≠ d0 ∧ f.l ≠ d0 ∧ mo0 ≠ d0 ∧ f.lo ≠ d0 ∧ x1 ≠ d0 ∧ d1 ≠ d0 ∧ g.l ≠ d0 ∧ mo1 ≠ d0 ∧ g.lo ≠ d0 ∧ P ≠ d0 ∧ M ≠ d0 ∧ c ≠ d0) → (x0 ≠ d1 ∧ d0 ≠ d1 ∧ f.l ≠ d1 ∧ mo0 ≠ d1 ∧ f.lo ≠ d1 ∧ x1 ≠ d1 ∧ g.l ≠ d1 ∧ mo1 ≠ d1 ∧ g.lo ≠ d1 ∧ P ≠ d1 ∧ M ≠ d1 ∧ c ≠ d1) → Q .next { s with heap := h', toks := tk }) :
    wpAny (model prog w) A (pyIter (.ref r)) (fun it s₂ => LoopAtV prog w A h₀ env (Str.ofString "k") body Q E it s₂) E s := by
  have hn : Builtin.Range.rangeSize 0 b₀ 1 = (b₀.toNat : Int) := by
    unfold Builtin.Range.rangeSize
    rw [if_pos (by decide)]
    split <;> (try rw [Int.ediv_one]) <;> omega
  refine range_loop (σ := FS × FS) (nx := Str.ofString "n") (fun c' => c'.1.led w x0 d0 mo0 (c'.2.led w x1 d1 mo1 [(P, listOf #[.ref x0, .ref x1] kP), (M, listOf #[.ref mo0, .ref mo1] kM), (c, oc)])) (fun i c' => c'.1.Ok (26 + 20 * i) ∧ c'.2.Ok (26 + 20 * i))
    (⟨l0, ws0, os0, v0, 0, ta0, tb0, tc0, lo0, ws0, km0, klo0, tm0⟩, ⟨l1, ws1, os1, v1, 0, ta1, tb1, tc1, lo1, ws1, km1, klo1, tm1⟩) hh hr (small_one (by decide) (by decide) (by omega) (by omega)) hn F (fun p hp => N p ?_)
    ⟨⟨⟨Int.le_refl 0, Int.natCast_nonneg _⟩, hl0, hb0, hI0, hI0⟩, ⟨⟨Int.le_refl 0, Int.natCast_nonneg _⟩, hl1, hb1, hI1, hI1⟩⟩ ?_ ?_ ?_
  · simp only [List.mem_cons, List.not_mem_nil, or_false] at hp ⊢
    rcases hp with rfl | rfl | rfl | rfl | rfl | rfl | rfl | rfl | rfl | rfl | rfl | rfl | rfl <;> simp
  · intro c' p hp vs e
    simp only [List.mem_cons, List.not_mem_nil, or_false] at hp
    obtain ⟨v, hv⟩ := hoc
    rcases hp with rfl | rfl | rfl | rfl | rfl | rfl | rfl | rfl | rfl | rfl | rfl | rfl | rfl <;> first | cases e | (have e2 : oc.data = .fields vs := e; rw [hv] at e2; cases e2)
  · rintro i ⟨f, g⟩ t un s₁ I oI hi ⟨h1, h2⟩ F₁ N₁ ap
    have b0 : (d0, pDict w f.l f.n f.ta f.tb f.tc) ∈ f.led w x0 d0 mo0 (g.led w x1 d1 mo1 [(P, listOf #[.ref x0, .ref x1] kP), (M, listOf #[.ref mo0, .ref mo1] kM), (c, oc)]) := .tail _ (.head _)
    have b1 : (mo0, listOf #[.ref f.lo, .int f.n f.tm] f.km) ∈ f.led w x0 d0 mo0 (g.led w x1 d1 mo1 [(P, listOf #[.ref x0, .ref x1] kP), (M, listOf #[.ref mo0, .ref mo1] kM), (c, oc)]) := .tail _ (.tail _ (.tail _ (.head _)))
    have b2 : (d1, pDict w g.l g.n g.ta g.tb g.tc) ∈ f.led w x0 d0 mo0 (g.led w x1 d1 mo1 [(P, listOf #[.ref x0, .ref x1] kP), (M, listOf #[.ref mo0, .ref mo1] kM), (c, oc)]) := .tail _ (.tail _ (.tail _ (.tail _ (.tail _ (.tail _ (.head _))))))
    have b3 : (mo1, listOf #[.ref g.lo, .int g.n g.tm] g.km) ∈ f.led w x0 d0 mo0 (g.led w x1 d1 mo1 [(P, listOf #[.ref x0, .ref x1] kP), (M, listOf #[.ref mo0, .ref mo1] kM), (c, oc)]) := .tail _ (.tail _ (.tail _ (.tail _ (.tail _ (.tail _ (.tail _ (.tail _ (.head _))))))))
    have up : ∀ p ∈ [(P, listOf #[.ref x0, .ref x1] kP), (M, listOf #[.ref mo0, .ref mo1] kM), (c, oc)], p ∈ f.led w x0 d0 mo0 (g.led w x1 d1 mo1 [(P, listOf #[.ref x0, .ref x1] kP), (M, listOf #[.ref mo0, .ref mo1] kM), (c, oc)]) := fun p hp => .tail _ (.tail _ (.tail _ (.tail _ (.tail _ (.tail _ (.tail _ (.tail _ (.tail _ (.tail _ hp)))))))))
    have N₀ : News h₀ env.locals s₁.heap (f.led w x0 d0 mo0 (g.led w x1 d1 mo1 [(P, listOf #[.ref x0, .ref x1] kP), (M, listOf #[.ref mo0, .ref mo1] kM), (c, oc)])) := fun p hp => N₁ p (List.mem_append_left _ hp)
    refine wpAny_mono (turn i f g t un s₁ I oI hi h1 h2 F₁ (fun p hp => N₁ p hp) (fun p hp => ?_) (fun p hp => ?_) hdd hmm) (fun f s₂ p => ?_) fun _ _ e => e
    · rcases List.mem_append.mp (show p ∈ [(P, listOf #[.ref x0, .ref x1] kP), (M, listOf #[.ref mo0, .ref mo1] kM), (c, oc)] ++ [(I, oI)] from hp) with hp | hp
      · exact ⟨apart_of N₀ (up p hp) b0 (tl_dif hoc p hp _ _ _ _ _), apart_of N₀ (up p hp) b1 (tl_dif2 hoc p hp _ _ _ _)⟩
      · rw [List.mem_singleton.mp hp]
        exact ⟨fun q => ap _ b0 q.symm, fun q => ap _ b1 q.symm⟩
    · rcases List.mem_append.mp (show p ∈ [(P, listOf #[.ref x0, .ref x1] kP), (M, listOf #[.ref mo0, .ref mo1] kM), (c, oc)] ++ [(I, oI)] from hp) with hp | hp
      · exact ⟨apart_of N₀ (up p hp) b2 (tl_dif hoc p hp _ _ _ _ _), apart_of N₀ (up p hp) b3 (tl_dif2 hoc p hp _ _ _ _)⟩
      · rw [List.mem_singleton.mp hp]
        exact ⟨fun q => ap _ b2 q.symm, fun q => ap _ b3 q.symm⟩
    · obtain ⟨rfl, h', tk, f', g', uk', un', rfl, F₃, N₃, a, b⟩ := p
      exact ⟨rfl, h', tk, (f', g'), uk', un', rfl, F₃, fun p hp => N₃ p hp, a, b⟩
  · rintro h' tk ⟨f, g⟩ uk un ⟨h1, h2⟩ F₂ N₂
    have N₃ : News h₀ env.locals h' (f.led w x0 d0 mo0 (g.led w x1 d1 mo1 [(P, listOf #[.ref x0, .ref x1] kP), (M, listOf #[.ref mo0, .ref mo1] kM), (c, oc)])) := N₂
    obtain ⟨sA, sB⟩ := sepN hoc N₃ h1 h2 hdd hmm
    exact done h' tk f g uk un ⟨h1.place, Nat.le_trans h1.len (by omega), h1.bytes, h1.hInts, h1.hIntsO⟩ ⟨h2.place, Nat.le_trans h2.len (by omega), h2.bytes, h2.hInts, h2.hIntsO⟩ F₂ N₃ sA sB
theorem handed_nil {f : Int → Int} {b : Int} (h : 0 ≤ b.fmod 13 ∧ b.fmod 13 < 13) : (List.map (fun k' => (f k').fmod 256) (rangeKs 0 (b.fmod 13 - 0).toNat)).length ≤ 12 ∧ ∀ z ∈ List.map (fun k' => (f k').fmod 256) (rangeKs 0 (b.fmod 13 - 0).toNat), 0 ≤ z ∧ z < 256 := by
  refine ⟨?_, fun z hz => ?_⟩
  · rw [List.length_map, rangeKs_length]; omega
  · obtain ⟨k, _, rfl⟩ := List.mem_map.mp hz
    exact mod_bounds.2.2.2.1
theorem handed_head {f : Int → Int} {b q : Int} (h : 0 ≤ b.fmod 13 ∧ b.fmod 13 < 13) : ([77, 84, 104, 100] ++ [0, 0, 0, 6 + q.fmod 3] ++ List.map (fun k' => (f k').fmod 256) (rangeKs 0 (b.fmod 13 - 0).toNat) ++ [1, 2, 3, 4, 5, 6]).length ≤ 26 ∧
    ∀ z ∈ [77, 84, 104, 100] ++ [0, 0, 0, 6 + q.fmod 3] ++ List.map (fun k' => (f k').fmod 256) (rangeKs 0 (b.fmod 13 - 0).toNat) ++ [1, 2, 3, 4, 5, 6], 0 ≤ z ∧ z < 256 := by
  obtain ⟨h1, h2⟩ := handed_nil (f := f) h
  have h3 : 0 ≤ q.fmod 3 ∧ q.fmod 3 < 3 := mod_bounds.1
  refine ⟨?_, fun z hz => ?_⟩
  · simp only [List.length_append, List.length_cons, List.length_nil] at h1 ⊢; omega
  · rcases List.mem_append.mp hz with hz | hz
    · rcases List.mem_append.mp hz with hz | hz
      · simp only [List.mem_append, List.mem_cons, List.not_mem_nil, or_false] at hz
        omega
      · exact h2 z hz
    · simp only [List.mem_cons, List.not_mem_nil, or_false] at hz
      omega
theorem fr_twice {h₀ h : Heap} {L : Addr} {a : Str} {D : Addr} {v : Option Value} {m : Str → Option Value} (F : Fr h₀ L h (fun y => if y = a then some (.ref D) else if y = a then v else m y)) : Fr h₀ L h (fun y => if y = a then some (.ref D) else m y) :=
  Fr.congr F (funext fun y => by
    by_cases e : y = a
    · simp only [if_pos e]
    · simp only [if_neg e])
theorem fr_turn {h₀ h : Heap} {L : Addr} {a b : Str} {u v v' : Option Value} {m : Str → Option Value} (hab : a ≠ b) (F : Fr h₀ L h (fun y => if y = a then v else if y = b then u else if y = a then v' else m y)) : Fr h₀ L h (fun y => if y = b then u else if y = a then v else m y) :=
  Fr.congr F (funext fun y => by
    by_cases e : y = a
    · subst e; simp [hab]
    · simp only [if_neg e])
theorem b0_ok {z : Int} : 0 ≤ 8 + z.fmod 17 ∧ 8 + z.fmod 17 < 40 := by
  have h1 : 0 ≤ z.fmod 17 := Int.fmod_nonneg_of_pos _ (by decide)
  have h2 : z.fmod 17 < 17 := Int.fmod_lt_of_pos _ (by decide)
  omega
theorem i_ok {z : Int} {i : Nat} (h : i < (8 + z.fmod 17).toNat) : (i : Int) < 25 := by
  have h2 : z.fmod 17 < 17 := Int.fmod_lt_of_pos _ (by decide)
  omega
theorem FS.Ok.mono {f : FS} {z z' : Nat} (h : f.Ok z) (e : z ≤ z') : f.Ok z' := ⟨h.place, Nat.le_trans h.len e, h.bytes, h.hInts, h.hIntsO⟩
end Mine

-- Lw
open PySem PySem.W PyProof.Rows PySem.Calls
set_option Elab.async false
set_option maxRecDepth 100000
set_option maxHeartbeats 4000000
namespace Mine
theorem fresh_Lw : True := by
  w_top off
  trivial
local macro_rules | `(tactic| walk_at "no such key") => `(tactic| skip)
local macro_rules | `(tactic| k_room) => `(tactic| ((try simp only [depth_under_make, depth_under_kw, depth_in1, depth_deeper, depth_caller]); omega))
local macro_rules | `(tactic| k_all) => `(tactic| assumption)
local macro_rules | `(tactic| walk_at "call ref") => `(tactic| ((with_reducible show wpAny _ _ (call (Value.ref 139) _) _ _ _); k_dflt (refine' at_spec ?B ?F ?X ?N ?T ?hf ?hke ?hd ?hL ?hI ?hlen ?hk ?_; (case F => k_asm); (case B => k_asm); (case X => k_asm); (case N => k_asm); (case T => k_asm); (case hf => exact rfl); (case hke => exact rfl); (case hd => first | omega | ((try simp only [depth_under_make, depth_under_kw, depth_in1, depth_deeper, depth_caller, PySem.W.depth_mark]); (try dsimp only); omega) | decide); (case hL => k_asm); (case hI => k_asm); (case hlen => first | assumption | omega); (case hk => constructor <;> omega)); intro h' tk' t' _hlh' F' N'; clear _hlh'; (try k_sweep)))
theorem head_add {w : World} {A : Around} {E : Value → Shared → Prop} {s : Shared} {h₀ : Heap} {L a : Addr} {m : Str → Option Value} {vs : List Value} {ns : List Int} {k : Nat} {news : List (Addr × Obj)} {Q : Value → Shared → Prop} (F : Fr h₀ L s.heap m) (X : (hd.heap_39 w.params).In h₀) (N : News h₀ L s.heap news)
    (hl : (a, listOf (List.toArray vs) k) ∈ news) (hi : IntsAre vs ns) (hz : ns.length ≤ 1000)
    (h : ∀ D us h', Fr h₀ L h' m → News h₀ L h' ((D, listOf (List.toArray us) 0) :: news) → (∀ p ∈ news, p.1 < D) → IntsAre us ([77, 84, 104, 100] ++ ns) → Q (.ref D) { s with heap := h' }) :
    wpAny (model PySem.Challenge.rw_aa6022_01.row.prog w) A (binaryOp .Add (.ref 132) (.ref a)) Q E s :=
  kmk_add_ints F N (head_list (X.keeps F.keep)) (N.isList hl) head_ints hi h (by rw [sizeLine_eq]; simp only [List.length_cons, List.length_nil]; omega)
local macro_rules | `(tactic| walk_at "binaryOp Add ref ref") => `(tactic| ((with_reducible show wpAny _ _ (binaryOp _ (Value.ref 132) (Value.ref _)) _ _ _); k_dflt (refine' head_add ?F ?X ?N ?l ?i ?z ?_; (case F => k_asm); (case X => k_asm); (case N => k_asm); (case l => k_mem); (case i => l_ints); (case z => first | decide | omega | (simp only [List.length_cons, List.length_nil]; omega))); intro D' us' h' F' N' l1 hI'; (try k_lt l1); (try k_sweep)))
def HandedP (h₀ : Heap) (L : Addr) (m₀ : Str → Option Value) (c : Addr) (oc : Obj) (s s' : Shared) : Prop :=
  ∃ D us octs k h' tk, s' = { s with heap := h', toks := tk } ∧ octs.length ≤ 26 ∧ (∀ b ∈ octs, 0 ≤ b ∧ b < 256) ∧ IntsAre us octs ∧ c ≠ D ∧ Fr h₀ L h' (fun z => if z = Str.ofString "handed" then some (.ref D) else m₀ z) ∧ News h₀ L h' [(D, listOf (List.toArray us) k), (c, oc)]
theorem handed_join {M : Model} {A : Around} {E : Value → Shared → Prop} {s : Shared} {env : Env} {Q : Flow → Shared → Prop} {h₀ : Heap} {L c D₀ : Addr} {oc o₀ : Obj} {m₀ : Str → Option Value} {st : Stmt} {rest : List Stmt}
    (_F : Fr h₀ L s.heap (fun z => if z = Str.ofString "handed" then some (.ref D₀) else m₀ z)) (_N : News h₀ L s.heap [(D₀, o₀), (c, oc)])
    (h1 : wpAny M A (exec st env) (fun f s' => f = .next ∧ HandedP h₀ L m₀ c oc s s') E s)
    (h2 : ∀ D us octs k h' tk, octs.length ≤ 26 → (∀ b ∈ octs, 0 ≤ b ∧ b < 256) → IntsAre us octs → c ≠ D → Fr h₀ L h' (fun z => if z = Str.ofString "handed" then some (.ref D) else m₀ z) → News h₀ L h' [(D, listOf (List.toArray us) k), (c, oc)] →
      wpAny M A (execs rest env) Q E { s with heap := h', toks := tk }) : wpAny M A (execs (st :: rest) env) Q E s :=
  wpAny_execs_cons (wpAny_mono h1 (fun f s' p => by
    obtain ⟨rfl, D, us, octs, k, h', tk, rfl, a, b, c, d, e, f⟩ := p
    exact h2 D us octs k h' tk a b c d e f) fun _ _ e => e)
local macro_rules | `(tactic| k_ne) => `(tactic| assumption)
local macro_rules | `(tactic| walk_at "subscriptTail") => `(tactic| ((with_reducible show wpAny _ _ (subscriptTail (PySem.Expr.Subscript _ _ _) (PySem.Expr.Slice _ _ _ _) _ _) _ _ _); k_dflt (refine kba_turn (value' := PySem.Expr.Name (PySem.Str.ofString "_") ⟨0, 0, 0, 0⟩) (fun _ => rfl) ?_)))
theorem ne_same {w : World} {A : Around} {E : Value → Shared → Prop} {s : Shared} {a b : Addr} {vs ws : List Value} {ns : List Int} {Q : Value → Shared → Prop}
    (hl : s.heap.IsList a vs.toArray) (hi : IntsAre vs ns) (hl' : s.heap.IsList b ws.toArray) (hi' : IntsAre ws ns) (hu : A.units + 64 < cLine) (h : Q (.bool false) s) :
    wpAny (model PySem.Challenge.rw_aa6022_01.row.prog w) A (compareOp .NotEq (.ref a) (.ref b)) Q E s :=
  ne_intsK hl hi hl' hi' hu (by simpa using h)
local macro_rules | `(tactic| walk_at "compareOp NotEq ref ref") => `(tactic| ((with_reducible show wpAny _ _ (compareOp CmpOp.NotEq (Value.ref _) (Value.ref _)) _ _ _); k_dflt (refine' ne_same ?l ?i ?l2 ?i2 ?u ?_; (case l => exact News.isList (by k_asm) (by k_mem)); (case l2 => exact News.isList (by k_asm) (by k_mem)); (case i => assumption); (case i2 => assumption); (case u => first | omega | ((try simp only [Around.deeper_units, Around.in1_units, Around.mark_units]); (try dsimp only); omega) | decide))))
local macro_rules | `(tactic| walk_at "call ref") => `(tactic| ((with_reducible show wpAny _ _ (call (Value.ref 103) _) _ _ _); k_dflt (refine' rbytes_spec ?B ?F ?X ?N ?T ktsDicts_nil ?hf ?hke ?hd ?hu ?hx ?hl ?U ?hI ?hn ?hlen ?hs ?_ ?hE; (case F => k_asm); (case B => k_asm); (case X => k_asm); (case N => k_asm); (case T => k_asm); (case hf => exact rfl); (case hke => exact rfl); (case hd => first | omega | ((try simp only [depth_under_make, depth_under_kw, depth_in1, depth_deeper, depth_caller, PySem.W.depth_mark]); (try dsimp only); omega) | decide); (case hu => first | omega | ((try simp only [Around.deeper_units, Around.in1_units, Around.mark_units]); (try dsimp only); omega) | decide); (case hx => k_mem); (case U => k_updF); (case hl => k_mem); (case hI => k_asm); (case hn => first | assumption | omega); (case hlen => first | assumption | omega); (case hs => omega); (case hE => intro _ _ _ _ _ _ hz' _ _ _; exfalso; omega)); (intro D' h' tk' tc' wr' vr' hz' F' N' l1 hI'; (try k_lt l1); (simp only [Int.toNat_natCast, List.take_length] at hI'); (try k_sweep))))
theorem law_holds : PySem.Challenge.rw_aa6022_01.Holds := hd (by
  k_go0
  (all_goals try k_fold)
  repeat' ((fail_if_success (with_reducible show wpAny _ _ (execs (Stmt.If _ _ _ _ :: _) _) _ _ _)); (fail_if_success (with_reducible show wpAny _ _ (execs (Stmt.For _ _ _ _ _ :: _) _) _ _ _)); (first | (k_unfold; (try dsimp only)) | (k_end; kc_close) | walk1 | (dsimp only; walk1) | (leave1; walk_say "STEP leave1"; (try dsimp only)) | fail "no step"))
  (with_reducible rename News _ _ _ [_, _] => N1)
  (with_reducible rename Fr _ _ _ (fun z => if z = _ then _ else _) => F1)
  refine handed_join F1 N1 ?_ ?_
  · repeat' ((fail_if_success (with_reducible show _ ∧ HandedP _ _ _ _ _ _ _)); (fail_if_success (with_reducible show wpAny _ _ (execs (Stmt.If _ _ _ _ :: _) _) _ _ _)); (fail_if_success (with_reducible show wpAny _ _ (execs (Stmt.For _ _ _ _ _ :: _) _) _ _ _)); (first | (k_unfold; (try dsimp only)) | (k_end; kc_close) | walk1 | (dsimp only; walk1) | (leave1; walk_say "STEP leave1"; (try dsimp only)) | fail "no step"))
    ·
      (with_reducible rename IntsAre _ (_ ++ [1, 2, 3, 4, 5, 6]) => hI9)
      (with_reducible rename News _ _ _ _ => N9)
      (with_reducible rename Fr _ _ _ _ => F9)
      obtain ⟨e1, e2⟩ := handed_head (f := fun k' => lawAt _ (4 + k')) (q := _) (by constructor <;> assumption)
      refine ⟨rfl, _, _, _, 0, _, _, rfl, e1, e2, hI9, ?ne, fr_twice F9, News.sub N9 (fun p hp => ?mm)⟩
      case ne => exact Nat.ne_of_lt (by omega)
      case mm =>
        simp only [List.mem_cons, List.not_mem_nil, or_false] at hp
        rcases hp with rfl | rfl
        · exact .head _
        · k_mem
    ·
      (with_reducible rename IntsAre _ (List.map _ _) => hI9)
      (with_reducible rename News _ _ _ _ => N9)
      (with_reducible rename Fr _ _ _ _ => F9)
      obtain ⟨e1, e2⟩ := handed_nil (f := fun k' => lawAt _ (4 + k')) (by constructor <;> assumption)
      exact ⟨rfl, _, _, _, _, _, _, rfl, Nat.le_trans e1 (by decide), e2, hI9, by assumption, F9, N9⟩
  · clear F1 N1
    intro D us octs kD h' tk hlen hby hI hcD F' N'
    have hul : us.length = octs.length := hI.length
    repeat' ((fail_if_success (with_reducible show wpAny _ _ (pyIter (Value.ref _)) (fun it s₂ => LoopAtV _ _ _ _ _ _ _ _ _ it s₂) _ _)); (first | (k_unfold; (try dsimp only)) | (k_end; kc_close) | walk1 | (dsimp only; walk1) | (leave1; walk_say "STEP leave1"; (try dsimp only)) | fail "no step"))
    (with_reducible rename News _ _ _ _ => N9)
    (with_reducible rename Fr _ _ _ _ => F9)
    refine main_loop N9 F9 rfl (by assumption) b0_ok (by assumption) (by assumption) hlen (Nat.le_trans (handed_nil (f := fun k' => lawAt _ (16 + k')) (by constructor <;> assumption)).1 (by decide)) hby (handed_nil (f := fun k' => lawAt _ (16 + k')) (by constructor <;> assumption)).2 ⟨_, by assumption⟩ (Nat.ne_of_gt (by omega)) (Nat.ne_of_gt (by omega)) ?_ ?_
    · clear N9 F9
      intro i f g t un s₁ I oI hi hf hg F2 N2 ap0 ap1 hdd hmm
      obtain ⟨l0, ws0, os0, v0, n0, ta0, tb0, tc0, lo0, wlo0, km0, klo0, tm0⟩ := f
      obtain ⟨l1, ws1, os1, v1, n1, ta1, tb1, tc1, lo1, wlo1, km1, klo1, tm1⟩ := g
      dsimp only [FS.led] at N2
      have hi2 := i_ok hi
      repeat' ((fail_if_success (with_reducible show wpAny _ _ (call (Value.ref 165) _) _ _ _)); (first | (k_unfold; (try dsimp only)) | (k_end; kc_close) | walk1 | (dsimp only; walk1) | (leave1; walk_say "STEP leave1"; (try dsimp only)) | fail "no step"))
      ·
        (with_reducible rename News _ _ _ _ => N9)
        (with_reducible rename Fr _ _ _ _ => F9)
        replace N9 : News _ _ _ (FS.led _ _ _ _ ⟨l0, ws0, os0, v0, n0, ta0, tb0, tc0, lo0, wlo0, km0, klo0, tm0⟩ (FS.led _ _ _ _ ⟨l1, ws1, os1, v1, n1, ta1, tb1, tc1, lo1, wlo1, km1, klo1, tm1⟩ _)) := N9
        refine' deed_law (f := ⟨l0, ws0, os0, v0, n0, ta0, tb0, tc0, lo0, wlo0, km0, klo0, tm0⟩) (z := 26 + 20 * i) ?B F9 ?X N9 ?T rfl rfl ?hd ?hu ?X ?T (FS.sep2 N9 hg hdd hmm ap0) hf ?hz (lawAt_bounds ⟨by omega, by omega⟩) ?_
        case B => assumption
        case X => assumption
        case T => assumption
        case hd => first | omega | ((try simp only [depth_under_make, depth_under_kw, depth_in1, depth_deeper, depth_caller, PySem.W.depth_mark]); (try dsimp only); omega) | decide
        case hu => first | omega | ((try simp only [Around.deeper_units, Around.in1_units, Around.mark_units]); (try dsimp only); omega) | decide
        case hz => omega
        intro h3' tk3 f3 hf3 F3 N3
        repeat' ((fail_if_success (with_reducible show _ ∧ TurnEnd _ _ _ _ _ _ _ _ _ _ _ _ _ _ _ _ _ _ _ _ _)); (first | (k_unfold; (try dsimp only)) | (k_end; kc_close) | walk1 | (dsimp only; walk1) | (leave1; walk_say "STEP leave1"; (try dsimp only)) | fail "no step"))
        exact ⟨rfl, _, _, f3, ⟨l1, ws1, os1, v1, n1, ta1, tb1, tc1, lo1, wlo1, km1, klo1, tm1⟩, _, _, rfl, fr_turn (by decide) F3, N3, hf3, hg.mono (by omega)⟩
      ·
        (with_reducible rename News _ _ _ _ => N9)
        (with_reducible rename Fr _ _ _ _ => F9)
        replace N9 : News _ _ _ (FS.led _ _ _ _ ⟨l0, ws0, os0, v0, n0, ta0, tb0, tc0, lo0, wlo0, km0, klo0, tm0⟩ (FS.led _ _ _ _ ⟨l1, ws1, os1, v1, n1, ta1, tb1, tc1, lo1, wlo1, km1, klo1, tm1⟩ _)) := N9
        have N8 := led_swap N9
        refine' deed_law (f := ⟨l1, ws1, os1, v1, n1, ta1, tb1, tc1, lo1, wlo1, km1, klo1, tm1⟩) (z := 26 + 20 * i) ?Bq F9 ?Xq N8 ?Tq rfl rfl ?hdq ?huq ?Xq ?Tq (FS.sep2 N8 hf hdd.symm hmm.symm ap1) hg ?hzq (lawAt_bounds ⟨by omega, by omega⟩) ?_
        case Bq => assumption
        case Xq => assumption
        case Tq => assumption
        case hdq => first | omega | ((try simp only [depth_under_make, depth_under_kw, depth_in1, depth_deeper, depth_caller, PySem.W.depth_mark]); (try dsimp only); omega) | decide
        case huq => first | omega | ((try simp only [Around.deeper_units, Around.in1_units, Around.mark_units]); (try dsimp only); omega) | decide
        case hzq => omega
        intro h3' tk3 g3 hg3 F3 N3
        replace N3 := led_swap N3
        repeat' ((fail_if_success (with_reducible show _ ∧ TurnEnd _ _ _ _ _ _ _ _ _ _ _ _ _ _ _ _ _ _ _ _ _)); (first | (k_unfold; (try dsimp only)) | (k_end; kc_close) | walk1 | (dsimp only; walk1) | (leave1; walk_say "STEP leave1"; (try dsimp only)) | fail "no step"))
        exact ⟨rfl, _, _, ⟨l0, ws0, os0, v0, n0, ta0, tb0, tc0, lo0, wlo0, km0, klo0, tm0⟩, g3, _, _, rfl, fr_turn (by decide) F3, N3, hf.mono (by omega), hg3⟩
    · clear N9 F9
      intro h2' tk2 f g uk un hf hg F2 N2 sA sB
      obtain ⟨sa1, sa2, sa3, sa4, sa5, sa6, sa7, sa8, sa9, sa10, sa11, sa12⟩ := sA
      obtain ⟨sb1, sb2, sb3, sb4, sb5, sb6, sb7, sb8, sb9, sb10, sb11, sb12⟩ := sB
      repeat ((with_reducible rename _ < _ ∧ _ => z9); clear z9)
      obtain ⟨l0, ws0, os0, v0, n0, ta0, tb0, tc0, lo0, wlo0, km0, klo0, tm0⟩ := f
      obtain ⟨l1, ws1, os1, v1, n1, ta1, tb1, tc1, lo1, wlo1, km1, klo1, tm1⟩ := g
      dsimp only [FS.led] at N2
      dsimp only at sa1 sa2 sa3 sa4 sa5 sa6 sa7 sa8 sa9 sa10 sa11 sa12 sb1 sb2 sb3 sb4 sb5 sb6 sb7 sb8 sb9 sb10 sb11 sb12
      obtain ⟨⟨hpa0, hpb0⟩, hle0, hby0, hI0, hIo0⟩ := hf
      obtain ⟨⟨hpa1, hpb1⟩, hle1, hby1, hI1, hIo1⟩ := hg
      dsimp only at hpa0 hpb0 hle0 hby0 hI0 hIo0 hpa1 hpb1 hle1 hby1 hI1 hIo1 ⊢
      have hll0 : (os0.drop n0.toNat).length = os0.length - n0.toNat := List.length_drop
      have hll1 : (os1.drop n1.toNat).length = os1.length - n1.toNat := List.length_drop
      repeat' (first | (k_unfold; (try dsimp only)) | (k_end; kc_close) | walk1 | (dsimp only; walk1) | (leave1; walk_say "STEP leave1"; (try dsimp only)) | fail "no step")
)
end Mine

set_option maxRecDepth 100000 in
set_option maxHeartbeats 8000000 in
theorem PySem.Challenge.cw_aa6022_01_holds : PySem.Challenge.rw_aa6022_01.Holds := by
  exact Mine.law_holds
