import PyProof.Rows.All
import Wide.All
import OpenK.AllK
import Wide.FinOn
import Lean
import PySem.Challenge.RW_op0010_01
set_option Elab.async false
set_option maxRecDepth 100000
set_option maxHeartbeats 8000000
set_option linter.all false
set_option compiler.extract_closed false
open PySem PySem.W PyProof.Rows
namespace Mine
open_top hd for PySem.Challenge.rw_op0010_01

open PySem.Calls PySem.Spec

noncomputable abbrev Lo : List Str := looseW Mine.hd.view_39
      [Str.ofString "bytes_types", Str.ofString "a2b_base64", Str.ofString "b2a_base64", Str.ofString "b64encode",
        Str.ofString "b64decode"]

/-- a call of the def at f with the values vs comes back with R, and leaves the frame and the ledger as they stood -/
abbrev Gives (n : Nat) (w : World) (mean : ExcName → Option Value) (mg mb : Str → Option Value) (f : Addr) (vs : List Value) (R : Tok → Value) : Prop :=
  ∀ (news : List (Addr × Obj)) (dp un : Nat) (gd : Option (List Code)) (cn : Str) (cs : Scope) (a : Addr) (ccd : Value) (cl : List (Str × Addr)) (outer : List Env) (A₀ : Around) (base h₀ : Heap) (L : Addr) (m : Str → Option Value) (s : Shared) (Q E : Value → Shared → Prop),
    Below A₀ base outer h₀ → Fr h₀ L s.heap m → (Mine.hd.heap_39 w.params).In h₀ → News h₀ L s.heap news → Top Mine.hd.view_39 Lo mean mg mb h₀ → cs.kind = .function →
    dp + n < recursionLimit → un + 16 * n < cLine → (∀ (t : Tok) (h' : Heap) (tk' : Nat), Fr h₀ L h' m → News h₀ L h' news → Q (R t) { s with heap := h', toks := tk' }) →
      wpAny (model PySem.Challenge.rw_op0010_01.row.prog w) (ktrTop dp un gd cn cs L a ccd cl outer) (call (.ref f) vs) Q E s

theorem use {n : Nat} {w : World} {mean : ExcName → Option Value} {mg mb : Str → Option Value} {f : Addr} {vs : List Value} {R : Tok → Value} (C : Gives n w mean mg mb f vs R)
    {news : List (Addr × Obj)} {dp un : Nat} {gd : Option (List Code)} {cn : Str} {cs : Scope} {a : Addr} {ccd : Value} {cl : List (Str × Addr)} {outer : List Env} {A₀ : Around} {base h₀ : Heap} {L : Addr} {m : Str → Option Value} {s : Shared} {Q E : Value → Shared → Prop}
    (B : Below A₀ base outer h₀) (F : Fr h₀ L s.heap m) (X : (Mine.hd.heap_39 w.params).In h₀) (N : News h₀ L s.heap news) (T : Top Mine.hd.view_39 Lo mean mg mb h₀) (hk : cs.kind = .function)
    (hd : dp + n < recursionLimit) (hu : un + 16 * n < cLine) (ret : ∀ (t : Tok) (h' : Heap) (tk' : Nat), Fr h₀ L h' m → News h₀ L h' news → Q (R t) { s with heap := h', toks := tk' }) :
      wpAny (model PySem.Challenge.rw_op0010_01.row.prog w) (ktrTop dp un gd cn cs L a ccd cl outer) (call (.ref f) vs) Q E s :=
  C _ _ _ _ _ _ _ _ _ _ _ _ _ _ _ _ _ _ B F X N T hk hd hu ret

structure Seen (n : Nat) : Prop where
theorem seen (n : Nat) : Seen n := ⟨⟩

theorem retY {h₀ h' : Heap} {L : Addr} {m : Str → Option Value} {news : List (Addr × Obj)} {s : Shared} {Q : Value → Shared → Prop} {t : Tok} {tk' : Nat} {x y : Array UInt8}
    (hret : ∀ (t : Tok) (h' : Heap) (tk' : Nat), Fr h₀ L h' m → News h₀ L h' news → Q (.bytes x t) { s with heap := h', toks := tk' }) (e : y = x) (F : Fr h₀ L h' m) (N : News h₀ L h' news) : Q (.bytes y t) { s with heap := h', toks := tk' } := by
  subst e
  exact hret t h' tk' F N

theorem allLt_mem {d : Nat} : ∀ {l : List (Addr × Obj)}, AllLt d l → ∀ p ∈ l, p.1 < d := fun h p hp => ktn_ltOf h p hp
theorem below_ne {L a : Nat} {news : List (Addr × Obj)} (h1 : ∀ p ∈ news, p.1 < L) (h2 : L ≤ a) : ∀ p ∈ news, p.1 ≠ a := fun p hp => Nat.ne_of_lt (Nat.lt_of_lt_of_le (h1 p hp) h2)
local macro_rules | `(tactic| k_room) => `(tactic| ktr_room)
local macro_rules | `(tactic| walk_at "call type:type") => `(tactic| (k_here; (with_reducible show wpAny _ _ (call (Value.type "type") [Value.bytes _ _]) _ _ _); refine call_type_of (typeIs_bytes _ _ _) (by decide +kernel) ?_))
local macro_rules | `(tactic| walk_at "InvEndN") => `(tactic| k_dflt kst_close)
local macro_rules | `(tactic| walk_at "ite") => `(tactic| (k_here; k_openite; first | (refine ite_neg (by (try simp only [decide_eq_true_eq, beq_iff_eq, bne_iff_ne]); omega) ?_; walk_say "PRUNED BY OMEGA") | (refine ite_pos (by (try simp only [decide_eq_true_eq, beq_iff_eq, bne_iff_ne]); omega) ?_; walk_say "PRUNED BY OMEGA")))
local macro_rules | `(tactic| walk_at "KswEnd") => `(tactic| k_dflt ksw_close)
local macro_rules | `(tactic| k_all) => `(tactic| ((fail_if_success (with_reducible exact List.forall_mem_nil _)); (fail_if_success (with_reducible refine List.forall_mem_cons.mpr ⟨?_, ?_⟩)); (fail_if_success (with_reducible refine List.forall_mem_append.mpr ⟨?_, ?_⟩)); (refine fun p hp => Nat.ne_of_lt (allLt_mem ?_ p hp)); first | assumption | (walk_say "ALLLT"; (repeat (cases ‹_ ∧ _›)); assumption)))
local macro_rules | `(tactic| k_all) => `(tactic| ((with_reducible refine List.forall_mem_append.mpr ⟨?_, ?_⟩) <;> k_all))
local macro_rules | `(tactic| k_all) => `(tactic| ((fail_if_success (with_reducible exact List.forall_mem_nil _)); (fail_if_success (with_reducible refine List.forall_mem_cons.mpr ⟨?_, ?_⟩)); (refine below_ne (by assumption) ?_; omega)))
local macro_rules | `(tactic| walk_at $s:str) => `(tactic| (k_here; k_extra $s))
noncomputable def b64v (c : Int) : Int := if 65 ≤ c ∧ c ≤ 90 then c - 65 else if 97 ≤ c ∧ c ≤ 122 then c - 71 else if 48 ≤ c ∧ c ≤ 57 then c + 4 else if c = 43 then 62 else if c = 47 then 63 else 64

theorem bv1 {c : Int} (h : 65 ≤ c) (g : c ≤ 90) : c - 65 = b64v c := (if_pos ⟨h, g⟩).symm
theorem bv2 {c : Int} (h : 97 ≤ c) (g : c ≤ 122) : c - 71 = b64v c := by
  unfold b64v
  rw [if_neg (fun x => absurd (Int.le_trans h x.2) (by decide)), if_pos ⟨h, g⟩]
theorem bv3 {c : Int} (h : 48 ≤ c) (g : c ≤ 57) : c + 4 = b64v c := by
  unfold b64v
  rw [if_neg (fun x => absurd (Int.le_trans x.1 g) (by decide)), if_neg (fun x => absurd (Int.le_trans x.1 g) (by decide)), if_pos ⟨h, g⟩]
theorem bv4 {c : Int} (h : c = 43) : 62 = b64v c := by rw [h]; rfl
theorem bv5 {c : Int} (h : c = 47) : 63 = b64v c := by rw [h]; rfl
theorem bv6 {c : Int} (h1 : ¬ (65 ≤ c ∧ c ≤ 90)) (h2 : ¬ (97 ≤ c ∧ c ≤ 122)) (h3 : ¬ (48 ≤ c ∧ c ≤ 57)) (h4 : ¬ c = 43) (h5 : ¬ c = 47) : 64 = b64v c := by
  unfold b64v
  rw [if_neg h1, if_neg h2, if_neg h3, if_neg h4, if_neg h5]
theorem c_b64v {w mean mg mb} (c : Int) (t : Tok) : Gives 2 w mean mg mb 70 [.int c t] (fun t => .int (b64v c) t) := by
  w_top off
  have hfill : PySem.Challenge.rw_op0010_01 = PySem.Challenge.rw_op0010_01 ∧ Mine.hd.heap_39 = Mine.hd.heap_39 := by (k_fill; exact ⟨rfl, rfl⟩)
  clear hfill
  unfold Gives
  intros
  rename_i hret
  refine wpAny_call ?_
  k_dflt cell_enter
  k_steps
  all_goals (refine cb_retI hret ?_ (by k_asm) (by k_asm))
  all_goals first
    | with_reducible exact bv1 (by assumption) (by assumption)
    | with_reducible exact bv2 (by assumption) (by assumption)
    | with_reducible exact bv3 (by assumption) (by assumption)
    | with_reducible exact bv4 (by assumption)
    | with_reducible exact bv5 (by assumption)
    | exact bv6 (fun x => by omega) (fun x => by omega) (fun x => by omega) (fun x => by omega) (fun x => by omega)

theorem c_bfd {w mean mg mb} (b : Array UInt8) (t : Tok) : Gives 2 w mean mg mb 29 [.bytes b t] (fun t => .bytes b t) := by
  (w_top off; have hfill : PySem.Challenge.rw_op0010_01 = PySem.Challenge.rw_op0010_01 ∧ Mine.hd.heap_39 = Mine.hd.heap_39 := (by (k_fill; exact ⟨rfl, rfl⟩)); clear hfill)
  unfold Gives
  intros
  rename_i hret
  refine wpAny_call ?_
  k_dflt ((refine' code_def ?k1 ?k2 ?k3 ?k4 ?k5 ?kA ?kF ?kK ?k6 ?k7 ?k8 ?k9 ?kB ?_ ?c2 ?c3 ?c4 ?c5; (case kA => exact rfl); (case kF => exact rfl); (case kK => first | assumption | exact rfl); (case k1 => k_asm); (case k2 => k_asm); (case k3 => k_asm); (case k4 => k_asm); (case k5 => k_asm); (case k6 => k_is); (case k7 => k_is); (case k8 => ktr_room); (case k9 => first | exact BindsTo.of_eq rfl | exact binds_K (by k_in) rfl (by k_is) rfl rfl rfl); (case c5 => decide); (case kB => exact locs rfl); (case c2 => exact rfl); (case c3 => exact rfl); (case c4 => exact rfl); k_whole; intro gV9 LV9 hV9 FGV9 FV9 NV9 BV9 XV9 TV9; (try dsimp only); (try k_lift BV9); (try k_fold)))
  k_steps
  all_goals exact hret _ _ _ (by k_asm) (by k_asm)

theorem c_asc {w mean mg mb} (b : Array UInt8) (t : Tok) : Gives 2 w mean mg mb 49 [.bytes b t] (fun t => .bytes b t) := by
  (w_top off; have hfill : PySem.Challenge.rw_op0010_01 = PySem.Challenge.rw_op0010_01 ∧ Mine.hd.heap_39 = Mine.hd.heap_39 := (by (k_fill; exact ⟨rfl, rfl⟩)); clear hfill)
  unfold Gives
  intros
  rename_i hret
  refine wpAny_call ?_
  k_dflt ((refine' code_def ?k1 ?k2 ?k3 ?k4 ?k5 ?kA ?kF ?kK ?k6 ?k7 ?k8 ?k9 ?kB ?_ ?c2 ?c3 ?c4 ?c5; (case kA => exact rfl); (case kF => exact rfl); (case kK => first | assumption | exact rfl); (case k1 => k_asm); (case k2 => k_asm); (case k3 => k_asm); (case k4 => k_asm); (case k5 => k_asm); (case k6 => k_is); (case k7 => k_is); (case k8 => ktr_room); (case k9 => first | exact BindsTo.of_eq rfl | exact binds_K (by k_in) rfl (by k_is) rfl rfl rfl); (case c5 => decide); (case kB => exact locs rfl); (case c2 => exact rfl); (case c3 => exact rfl); (case c4 => exact rfl); k_whole; intro gV9 LV9 hV9 FGV9 FV9 NV9 BV9 XV9 TV9; (try dsimp only); (try k_lift BV9); (try k_fold)))
  k_steps
  all_goals exact hret _ _ _ (by k_asm) (by k_asm)
theorem c_buf {w mean mg mb} (b : Array UInt8) (t : Tok) : Gives 2 w mean mg mb 56 [.bytes b t] (fun t => .bytes b t) := by
  (w_top off; have hfill : PySem.Challenge.rw_op0010_01 = PySem.Challenge.rw_op0010_01 ∧ Mine.hd.heap_39 = Mine.hd.heap_39 := (by (k_fill; exact ⟨rfl, rfl⟩)); clear hfill)
  unfold Gives
  intros
  rename_i hret
  refine wpAny_call ?_
  k_dflt ((refine' code_def ?k1 ?k2 ?k3 ?k4 ?k5 ?kA ?kF ?kK ?k6 ?k7 ?k8 ?k9 ?kB ?_ ?c2 ?c3 ?c4 ?c5; (case kA => exact rfl); (case kF => exact rfl); (case kK => first | assumption | exact rfl); (case k1 => k_asm); (case k2 => k_asm); (case k3 => k_asm); (case k4 => k_asm); (case k5 => k_asm); (case k6 => k_is); (case k7 => k_is); (case k8 => ktr_room); (case k9 => first | exact BindsTo.of_eq rfl | exact binds_K (by k_in) rfl (by k_is) rfl rfl rfl); (case c5 => decide); (case kB => exact locs rfl); (case c2 => exact rfl); (case c3 => exact rfl); (case c4 => exact rfl); k_whole; intro gV9 LV9 hV9 FGV9 FV9 NV9 BV9 XV9 TV9; (try dsimp only); (try k_lift BV9); (try k_fold)))
  k_steps
  all_goals exact hret _ _ _ (by k_asm) (by k_asm)
theorem c_truth {w mean mg mb} : Gives 2 w mean mg mb 63 [.bool false] (fun t => .bool false) := by
  (w_top off; have hfill : PySem.Challenge.rw_op0010_01 = PySem.Challenge.rw_op0010_01 ∧ Mine.hd.heap_39 = Mine.hd.heap_39 := (by (k_fill; exact ⟨rfl, rfl⟩)); clear hfill)
  unfold Gives
  intros
  rename_i hret
  refine wpAny_call ?_
  k_dflt ((refine' code_def ?k1 ?k2 ?k3 ?k4 ?k5 ?kA ?kF ?kK ?k6 ?k7 ?k8 ?k9 ?kB ?_ ?c2 ?c3 ?c4 ?c5; (case kA => exact rfl); (case kF => exact rfl); (case kK => first | assumption | exact rfl); (case k1 => k_asm); (case k2 => k_asm); (case k3 => k_asm); (case k4 => k_asm); (case k5 => k_asm); (case k6 => k_is); (case k7 => k_is); (case k8 => ktr_room); (case k9 => first | exact BindsTo.of_eq rfl | exact binds_K (by k_in) rfl (by k_is) rfl rfl rfl); (case c5 => decide); (case kB => exact locs rfl); (case c2 => exact rfl); (case c3 => exact rfl); (case c4 => exact rfl); k_whole; intro gV9 LV9 hV9 FGV9 FV9 NV9 BV9 XV9 TV9; (try dsimp only); (try k_lift BV9); (try k_fold)))
  k_steps
  all_goals exact hret 0 _ _ (by k_asm) (by k_asm)

noncomputable def dstep (c : List Int × Int × Int) (k : Int) : List Int × Int × Int :=
  if c.2.1 = 0 then (c.1, 1, b64v k) else if c.2.1 = 1 then (c.1 ++ [c.2.2 * 4 + b64v k / 16], 2, b64v k % 16) else if c.2.1 = 2 then (c.1 ++ [c.2.2 * 16 + b64v k / 4], 3, b64v k % 4) else (c.1 ++ [c.2.2 * 64 + b64v k], 0, 0)

def DI (pre out : List Int) (q l : Int) : Prop := (out, q, l) = pre.foldl dstep ([], 0, 0)

def DInv (pre : List Int) (out : List Int) (q l pads i : Int) : Prop :=
  DI pre out q l ∧ pads = 0 ∧ q = (pre.length : Int) % 4 ∧ 0 ≤ l ∧ (q = 0 → l = 0) ∧ (q = 1 → l < 64) ∧ (q = 2 → l < 16) ∧ (q = 3 → l < 4) ∧ KBa.In out ∧ out.length ≤ pre.length ∧ 0 ≤ i ∧ i ≤ (pre.length : Int)

noncomputable def dec (ks : List Int) : List Int := (ks.foldl dstep ([], 0, 0)).1

theorem dinv0 : DInv [] [] 0 0 0 0 := by
  refine ⟨rfl, rfl, rfl, by decide, by decide, by decide, by decide, by decide, ?_, by decide, by decide, by decide⟩
  intro n hn; cases hn
theorem b64v_lo (c : Int) : 0 ≤ b64v c := by
  unfold b64v
  split
  · rename_i h; exact Int.sub_nonneg_of_le h.1
  split
  · rename_i h; exact Int.sub_nonneg_of_le (Int.le_trans (by decide) h.1)
  split
  · rename_i h; exact Int.add_nonneg (Int.le_trans (by decide) h.1) (by decide)
  split
  · decide
  split <;> decide
theorem q_in {q : Int} {n : Nat} (h : q = (n : Int) % 4) : 0 ≤ q ∧ q ≤ 3 := by
  subst h
  exact ⟨Int.emod_nonneg _ (by decide), Int.le_of_lt_add_one (Int.emod_lt_of_pos _ (by decide))⟩
theorem l_in {q l : Int} (hq : 0 ≤ q ∧ q ≤ 3) (h5 : q = 0 → l = 0) (h6 : q = 1 → l < 64) (h7 : q = 2 → l < 16) (h8 : q = 3 → l < 4) : l < 64 := by
  have : q = 0 ∨ q = 1 ∨ q = 2 ∨ q = 3 := by clear h5 h6 h7 h8; omega
  rcases this with e | e | e | e
  · rw [h5 e]; decide
  · exact h6 e
  · exact Int.lt_trans (h7 e) (by decide)
  · exact Int.lt_trans (h8 e) (by decide)
theorem q_three {q : Int} (hq : 0 ≤ q ∧ q ≤ 3) (h0 : q ≠ 0) (h1 : q ≠ 1) (h2 : q ≠ 2) : q = 3 := by omega
theorem q_step {q : Int} {n : Nat} {x : Int} (h : q = (n : Int) % 4) (r : Int) (e : r = (q + 1) % 4) {pre : List Int} (hn : pre.length = n) : r = ((pre ++ [x]).length : Int) % 4 := by
  rw [List.length_append, List.length_singleton, e, h, hn]
  omega
theorem i_step {i : Int} {pre : List Int} {x : Int} (h : i ≤ (pre.length : Int)) : i + 1 ≤ ((pre ++ [x]).length : Int) := by
  rw [List.length_append, List.length_singleton]
  exact Int.add_le_add_right h 1
theorem len_step {out pre : List Int} {x y : Int} (h : out.length ≤ pre.length) : (out ++ [y]).length ≤ (pre ++ [x]).length := by
  rw [List.length_append, List.length_append]
  exact Nat.add_le_add_right h 1
theorem sx_in {l a b c : Int} (h0 : 0 ≤ l) (h1 : l < a) (hb : 0 ≤ b) (h2 : b < c) (e : a * c = 256) (hc : 0 < c) : 0 ≤ l * c + b ∧ l * c + b < 256 := by
  refine ⟨Int.add_nonneg (Int.mul_nonneg h0 (Int.le_of_lt hc)) hb, ?_⟩
  have : (l + 1) * c ≤ a * c := Int.mul_le_mul_of_nonneg_right h1 (Int.le_of_lt hc)
  rw [Int.add_mul, Int.one_mul, e] at this
  omega
theorem qd {x a b : Int} (h0 : 0 ≤ x) (h : x < a * b) (ha : 0 < a) : 0 ≤ x / a ∧ x / a < b := ⟨Int.ediv_nonneg h0 (Int.le_of_lt ha), Int.ediv_lt_of_lt_mul ha (by rw [Int.mul_comm]; exact h)⟩
theorem b64v_61 : ¬ b64v 61 < 64 := by unfold b64v; decide
theorem b64v_fact {ks pre post : List Int} {n : Int} (hv : ∀ k ∈ ks, b64v k < 64) (e : ks = pre ++ n :: post) : n ≠ 61 ∧ 0 ≤ b64v n ∧ b64v n < 64 := by
  have h := hv n (by rw [e]; simp)
  refine ⟨fun h1 => ?_, b64v_lo n, h⟩
  subst h1; exact b64v_61 h
theorem dfacts {ks pre post out : List Int} {n q l pads i : Int} (hv : ∀ k ∈ ks, b64v k < 64) (e : ks = pre ++ n :: post) (h : DInv pre out q l pads i) : n ≠ 61 ∧ 0 ≤ b64v n ∧ b64v n < 64 ∧
    pads = 0 ∧ 0 ≤ q ∧ q ≤ 3 ∧ 0 ≤ l ∧ (l < 64) ∧ (q = 2 → l < 16) ∧ (q = 3 → l < 4) ∧ KBa.In out ∧ out.length ≤ pre.length := by
  obtain ⟨h1, h2, h3, h4, h5, h6, h7, h8, h9, h10, h11, h12⟩ := h
  obtain ⟨g1, g2, g3⟩ := b64v_fact hv e
  exact ⟨g1, g2, g3, h2, (q_in h3).1, (q_in h3).2, h4, l_in (q_in h3) h5 h6 h7 h8, h7, h8, h9, h10⟩
theorem dfacts2 {ks out : List Int} {q l pads i : Int} (hl : ks.length % 4 = 0) (hl' : ks.length ≤ 16) (h : DInv ks out q l pads i) : pads = 0 ∧ q = 0 ∧ KBa.In out ∧ out.length ≤ 16 ∧ out = (ks.foldl dstep ([], 0, 0)).1 := by
  obtain ⟨h1, h2, h3, h4, h5, h6, h7, h8, h9, h10, h11, h12⟩ := h
  exact ⟨h2, by omega, h9, by omega, congrArg (fun x => x.1) h1⟩
theorem di_step {pre out : List Int} {q l n : Int} (h : DI pre out q l) : (pre ++ [n]).foldl dstep ([], 0, 0) = dstep (out, q, l) n := by
  rw [List.foldl_append, ← h]; rfl
theorem in_snoc {out : List Int} {x : Int} (h : KBa.In out) (h0 : 0 ≤ x) (h1 : x < 256) : KBa.In (out ++ [x]) := by
  intro n hn
  rcases List.mem_append.mp hn with hn | hn
  · exact h n hn
  · rw [List.mem_singleton.mp hn]; exact ⟨h0, h1⟩
theorem bor_low (k : Nat) (l x : Int) (hl : 0 ≤ l) (h0 : 0 ≤ x) (h1 : x < 2 ^ k) : Builtin.bitOr (l * 2 ^ k) x = l * 2 ^ k + x := by
  have hx : Builtin.bitOr (l * 2 ^ k) x = l * 2 ^ k + x - Builtin.bitAnd (l * 2 ^ k) x := by
    have := bitXor_and (l * 2 ^ k) x
    unfold Builtin.bitXor at this
    omega
  have hz : Builtin.bitAnd (l * 2 ^ k) x = 0 := by
    obtain ⟨L, rfl⟩ := Int.eq_ofNat_of_zero_le hl
    obtain ⟨X, rfl⟩ := Int.eq_ofNat_of_zero_le h0
    have e2 : ((L : Int) * 2 ^ k) = ((L * 2 ^ k : Nat) : Int) := by push_cast; rfl
    rw [e2]
    unfold Builtin.bitAnd
    have a1 : decide ((0 : Int) ≤ ((L * 2 ^ k : Nat) : Int)) = true := by simp only [decide_eq_true_eq]; omega
    have a2 : decide ((0 : Int) ≤ (X : Int)) = true := by simp only [decide_eq_true_eq]; omega
    rw [a1, a2]
    show (((((L * 2 ^ k : Nat) : Int).toNat &&& ((X : Int)).toNat : Nat)) : Int) = 0
    rw [Int.toNat_natCast, Int.toNat_natCast]
    have hX : X < 2 ^ k := by
      have : ((X : Nat) : Int) < ((2 ^ k : Nat) : Int) := by push_cast; exact h1
      exact Int.ofNat_lt.mp this
    have : L * 2 ^ k &&& X = 0 := by
      apply Nat.eq_of_testBit_eq
      intro i
      rw [Nat.testBit_and, Nat.zero_testBit, Nat.testBit_mul_two_pow]
      by_cases hi : k ≤ i
      · have : X.testBit i = false := Nat.testBit_lt_two_pow (Nat.lt_of_lt_of_le hX (Nat.pow_le_pow_right (by decide) hi))
        rw [this]; simp
      · simp [hi]
    rw [this]; rfl
  omega
theorem dst0 {pre out : List Int} {q l pads i n : Int} (h : DInv pre out q l pads i) (h0 : 0 ≤ b64v n) (h1 : b64v n < 64) (hq : q = 0) : DInv (pre ++ [n]) out 1 (b64v n) 0 (i + 1) := by
  obtain ⟨g1, g2, g3, g4, g5, g6, g7, g8, g9, g10, g11, g12⟩ := h
  refine ⟨?_, rfl, q_step g3 1 (by rw [hq]; rfl) rfl, h0, fun e => absurd e (by decide), fun _ => h1, fun e => absurd e (by decide), fun e => absurd e (by decide), g9, Nat.le_trans g10 (by rw [List.length_append]; exact Nat.le_add_right _ _), Int.add_nonneg g11 (by decide), i_step g12⟩
  unfold DI; rw [di_step g1]; subst hq; rfl
theorem dst1 {pre out : List Int} {q l pads i n : Int} (h : DInv pre out q l pads i) (h0 : 0 ≤ b64v n) (h1 : b64v n < 64) (hq : q = 1) :
    DInv (pre ++ [n]) (out ++ [Builtin.bitOr (l * 2 ^ Int.toNat 2) ((b64v n).fdiv (2 ^ Int.toNat 4))]) 2 (Builtin.bitAnd (b64v n) 15) 0 (i + 1) := by
  obtain ⟨g1, g2, g3, g4, g5, g6, g7, g8, g9, g10, g11, g12⟩ := h
  have e1 : (b64v n).fdiv (2 ^ Int.toNat 4) = b64v n / 16 := by rw [Int.fdiv_eq_ediv_of_nonneg _ (by decide)]; rfl
  have d := qd (x := b64v n) (a := 16) (b := 4) h0 h1 (by decide)
  have e2 := bor_low 2 l (b64v n / 16) g4 d.1 d.2
  rw [bitAnd_m4, e1, show Int.toNat 2 = 2 from rfl, e2]
  have s := sx_in (a := 64) (c := 4) g4 (g6 hq) d.1 d.2 rfl (by decide)
  refine ⟨?_, rfl, q_step g3 2 (by rw [hq]; rfl) rfl, Int.emod_nonneg _ (by decide), fun e => absurd e (by decide), fun e => absurd e (by decide), fun _ => Int.emod_lt_of_pos _ (by decide), fun e => absurd e (by decide), in_snoc g9 s.1 s.2, len_step g10, Int.add_nonneg g11 (by decide), i_step g12⟩
  unfold DI; rw [di_step g1]; subst hq; rfl
theorem dst2 {pre out : List Int} {q l pads i n : Int} (h : DInv pre out q l pads i) (h0 : 0 ≤ b64v n) (h1 : b64v n < 64) (hq : q = 2) :
    DInv (pre ++ [n]) (out ++ [Builtin.bitOr (l * 2 ^ Int.toNat 4) ((b64v n).fdiv (2 ^ Int.toNat 2))]) 3 (Builtin.bitAnd (b64v n) 3) 0 (i + 1) := by
  obtain ⟨g1, g2, g3, g4, g5, g6, g7, g8, g9, g10, g11, g12⟩ := h
  have e1 : (b64v n).fdiv (2 ^ Int.toNat 2) = b64v n / 4 := by rw [Int.fdiv_eq_ediv_of_nonneg _ (by decide)]; rfl
  have d := qd (x := b64v n) (a := 4) (b := 16) h0 h1 (by decide)
  have e2 := bor_low 4 l (b64v n / 4) g4 d.1 d.2
  rw [bitAnd_m2, e1, show Int.toNat 4 = 4 from rfl, e2]
  have s := sx_in (a := 16) (c := 16) g4 (g7 hq) d.1 d.2 rfl (by decide)
  refine ⟨?_, rfl, q_step g3 3 (by rw [hq]; rfl) rfl, Int.emod_nonneg _ (by decide), fun e => absurd e (by decide), fun e => absurd e (by decide), fun e => absurd e (by decide), fun _ => Int.emod_lt_of_pos _ (by decide), in_snoc g9 s.1 s.2, len_step g10, Int.add_nonneg g11 (by decide), i_step g12⟩
  unfold DI; rw [di_step g1]; subst hq; rfl
theorem dst3 {pre out : List Int} {q l pads i n : Int} (h : DInv pre out q l pads i) (h0 : 0 ≤ b64v n) (h1 : b64v n < 64) (hq0 : q ≠ 0) (hq1 : q ≠ 1) (hq2 : q ≠ 2) :
    DInv (pre ++ [n]) (out ++ [Builtin.bitOr (l * 2 ^ Int.toNat 6) (b64v n)]) 0 0 0 (i + 1) := by
  obtain ⟨g1, g2, g3, g4, g5, g6, g7, g8, g9, g10, g11, g12⟩ := h
  have hq : q = 3 := q_three (q_in g3) hq0 hq1 hq2
  have e2 := bor_low 6 l (b64v n) g4 h0 h1
  rw [show Int.toNat 6 = 6 from rfl, e2]
  have s := sx_in (a := 4) (c := 64) g4 (g8 hq) h0 h1 rfl (by decide)
  refine ⟨?_, rfl, q_step g3 0 (by rw [hq]; rfl) rfl, by decide, fun _ => rfl, fun e => absurd e (by decide), fun e => absurd e (by decide), fun e => absurd e (by decide), in_snoc g9 s.1 s.2, len_step g10, Int.add_nonneg g11 (by decide), i_step g12⟩
  unfold DI; rw [di_step g1]; subst hq; rfl

theorem c_dec {w mean mg mb} (b : Array UInt8) (ks : List Int) (hb : KBw.bInts b = ks) (hv : ∀ k ∈ ks, b64v k < 64) (hl : ks.length % 4 = 0) (hl' : ks.length ≤ 16) (t : Tok) : Gives 8 w mean mg mb 102 [.bytes b t] (fun t => .bytes (byteArr (dec ks)) t) := by
  (w_top off; have hfill : PySem.Challenge.rw_op0010_01 = PySem.Challenge.rw_op0010_01 ∧ Mine.hd.heap_39 = Mine.hd.heap_39 := (by (k_fill; exact ⟨rfl, rfl⟩)); clear hfill)
  k_with_none
  k_with "call ref" => k_dflt (first
    | refine' use (c_b64v _ _) ?k1 ?k2 ?k3 ?k4 ?k5 ?kK ?kd ?ku ?_; ((case k1 => k_asm); (case k2 => k_asm); (case k3 => k_asm); (case k4 => k_asm); (case k5 => k_asm); (case kK => first | exact rfl | assumption); (case kd => ktr_room); (case ku => ktr_units); intro tU9 hU9 tkU9 FU9 NU9; (try dsimp only); (try k_fold))
    | refine' use (c_bfd _ _) ?k1 ?k2 ?k3 ?k4 ?k5 ?kK ?kd ?ku ?_; ((case k1 => k_asm); (case k2 => k_asm); (case k3 => k_asm); (case k4 => k_asm); (case k5 => k_asm); (case kK => first | exact rfl | assumption); (case kd => ktr_room); (case ku => ktr_units); intro tU9 hU9 tkU9 FU9 NU9; (try dsimp only); (try k_fold))
    | refine' use (c_asc _ _) ?k1 ?k2 ?k3 ?k4 ?k5 ?kK ?kd ?ku ?_; ((case k1 => k_asm); (case k2 => k_asm); (case k3 => k_asm); (case k4 => k_asm); (case k5 => k_asm); (case kK => first | exact rfl | assumption); (case kd => ktr_room); (case ku => ktr_units); intro tU9 hU9 tkU9 FU9 NU9; (try dsimp only); (try k_fold))
    | refine' use c_truth ?k1 ?k2 ?k3 ?k4 ?k5 ?kK ?kd ?ku ?_; ((case k1 => k_asm); (case k2 => k_asm); (case k3 => k_asm); (case k4 => k_asm); (case k5 => k_asm); (case kK => first | exact rfl | assumption); (case kd => ktr_room); (case ku => ktr_units); intro tU9 hU9 tkU9 FU9 NU9; (try dsimp only); (try k_fold)))
  k_with "pyIter bytes" => (k_of "this_ch" => k_state (fun pre out q l pads i => DInv pre out q l pads i) "out" "quad_pos" "leftchar" "pads" "i")
  k_with "isTrue Compare" => ((fail_if_success (with_reducible rename Seen 1 => mk9)); (rename _ = _ ++ _ :: _ => kE); (with_reducible rename DInv _ _ _ _ _ _ => kI); (have kQ := dfacts hv kE kI); (obtain ⟨hn1, hn2, hn3, kI2, kI3, kI4, kI5, kI6, kI7, kI8, kI9, kI10⟩ := kQ); (have mk1 := seen 1))
  k_with "state" => first | exact dinv0 | with_reducible exact dst0 (by assumption) (by assumption) (by assumption) (by assumption) | with_reducible exact dst1 (by assumption) (by assumption) (by assumption) (by assumption) | with_reducible exact dst2 (by assumption) (by assumption) (by assumption) (by assumption) | with_reducible exact dst3 (by assumption) (by assumption) (by assumption) (by assumption) (by assumption) (by assumption) | (exfalso; omega)
  k_with "isTrue Compare" => ((fail_if_success (with_reducible rename Seen 1 => mk9)); (fail_if_success (with_reducible rename Seen 2 => mk9)); (fail_if_success (rename _ = _ ++ _ :: _ => kE)); (with_reducible rename DInv _ _ _ _ _ _ => kI); (have kQ := dfacts2 hl hl' kI); (obtain ⟨kJ1, kJ2, kJ3, kJ4, kJ5⟩ := kQ); (have mk2 := seen 2))
  have hI0 : IntsAre ([] : List Value) ([] : List Int) := .nil
  unfold Gives
  intros
  rename_i hret
  refine wpAny_call ?_
  k_dflt ((refine' code_def ?k1 ?k2 ?k3 ?k4 ?k5 ?kA ?kF ?kK ?k6 ?k7 ?k8 ?k9 ?kB ?_ ?c2 ?c3 ?c4 ?c5; (case kA => exact rfl); (case kF => exact rfl); (case kK => first | assumption | exact rfl); (case k1 => k_asm); (case k2 => k_asm); (case k3 => k_asm); (case k4 => k_asm); (case k5 => k_asm); (case k6 => k_is); (case k7 => k_is); (case k8 => ktr_room); (case k9 => first | exact BindsTo.of_eq rfl | exact binds_K (by k_in) rfl (by k_is) rfl rfl rfl); (case c5 => decide); (case kB => exact locs rfl); (case c2 => exact rfl); (case c3 => exact rfl); (case c4 => exact rfl); k_whole; intro gV9 LV9 hV9 FGV9 FV9 NV9 BV9 XV9 TV9; (try dsimp only); (try k_lift BV9); (try k_fold)))
  k_steps
  all_goals (refine retY hret (congrArg byteArr ?_) (by k_asm) (by (first | k_asm | (refine' cb_drop ?cbN ?cbS; (case cbN => assumption); (case cbS => (intro p hp; repeat (first | exact hp | apply List.Mem.tail)))))))
  all_goals exact kJ5

noncomputable def num64 (ks : List Int) : Int := ks.foldl (fun n k => n * 64 + b64v k) 0
noncomputable def num256 (ks : List Int) : Int := ks.foldl (fun n k => n * 256 + k) 0
def NInv (pre : List Int) (n : Int) : Prop := n = num256 pre
theorem ninv0 : NInv [] 0 := rfl
theorem ninv1 {pre : List Int} {n k : Int} (h : NInv pre n) : NInv (pre ++ [k]) (n * 256 + k) := by
  unfold NInv num256 at *; rw [List.foldl_append, ← h]; rfl
theorem num256_lo : ∀ (ks : List Int) (a : Int), KBa.In ks → 0 ≤ a → 0 ≤ ks.foldl (fun n k => n * 256 + k) a ∧ ks.foldl (fun n k => n * 256 + k) a < (a + 1) * 256 ^ ks.length
  | [], a, _, h => by simp; omega
  | k :: r, a, hin, h => by
    have h1 := hin k (List.mem_cons_self ..)
    have h2 := num256_lo r (a * 256 + k) (fun n hn => hin n (List.mem_cons_of_mem _ hn)) (by omega)
    rw [List.foldl_cons, List.length_cons]
    refine ⟨h2.1, Int.lt_of_lt_of_le h2.2 ?_⟩
    rw [Int.pow_succ]
    have hp : (0 : Int) ≤ 256 ^ r.length := Int.le_of_lt (pow_pos_of (by decide) _)
    have h3 : a * 256 + k + 1 ≤ (a + 1) * 256 := by omega
    calc (a * 256 + k + 1) * 256 ^ r.length ≤ ((a + 1) * 256) * 256 ^ r.length := Int.mul_le_mul_of_nonneg_right h3 hp
      _ = (a + 1) * (256 ^ r.length * 256) := by rw [Int.mul_assoc, Int.mul_comm 256]
theorem num256_in {ks : List Int} (hin : KBa.In ks) (hl : ks.length ≤ 16) : 0 ≤ num256 ks ∧ num256 ks < 340282366920938463463374607431768211456 := by
  have h := num256_lo ks 0 hin (by decide)
  refine ⟨h.1, Int.lt_of_lt_of_le h.2 ?_⟩
  have hn : (256 : Nat) ^ ks.length ≤ 256 ^ 16 := Nat.pow_le_pow_right (by decide) hl
  have : ((256 ^ ks.length : Nat) : Int) ≤ ((256 ^ 16 : Nat) : Int) := Int.ofNat_le.mpr hn
  have e : ((256 ^ ks.length : Nat) : Int) = (256 : Int) ^ ks.length := by push_cast; rfl
  rw [e] at this
  have e2 : ((256 ^ 16 : Nat) : Int) = 340282366920938463463374607431768211456 := by decide
  omega
theorem nfacts {ks pre post : List Int} {n k : Int} (hin : KBa.In ks) (hl : ks.length ≤ 16) (e : ks = pre ++ k :: post) (h : NInv pre n) : 0 ≤ n ∧ n < 340282366920938463463374607431768211456 := by
  rw [h]
  refine num256_in (fun x hx => hin x (by rw [e]; exact List.mem_append_left _ hx)) ?_
  have := congrArg List.length e
  rw [List.length_append, List.length_cons] at this
  omega
theorem num256_snoc (out : List Int) (x : Int) : num256 (out ++ [x]) = num256 out * 256 + x := by
  unfold num256; rw [List.foldl_append]; rfl
theorem dec_block : ∀ (m : Nat) (ks out : List Int), ks.length = 4 * m → (∀ k ∈ ks, b64v k < 64) → KBa.In out →
    ∃ out', ks.foldl dstep (out, 0, 0) = (out', 0, 0) ∧ num256 out' = ks.foldl (fun n k => n * 64 + b64v k) (num256 out) ∧ KBa.In out' ∧ out'.length = out.length + 3 * m
  | 0, ks, out, h, _, hin => by
    have : ks = [] := List.length_eq_zero_iff.mp (by omega)
    subst this
    exact ⟨out, rfl, rfl, hin, by omega⟩
  | m + 1, ks, out, h, hv, hin => by
    match ks, h with
    | a :: b :: c :: d :: r, h =>
      have ha := hv a (by simp); have hb := hv b (by simp); have hc := hv c (by simp); have hd := hv d (by simp)
      have ha0 := b64v_lo a; have hb0 := b64v_lo b; have hc0 := b64v_lo c; have hd0 := b64v_lo d
      obtain ⟨out', e1, e2, e3, e4⟩ := dec_block m r (((out ++ [b64v a * 4 + b64v b / 16]) ++ [b64v b % 16 * 16 + b64v c / 4]) ++ [b64v c % 4 * 64 + b64v d]) (by simp only [List.length_cons] at h; omega) (fun k hk => hv k (by simp [hk]))
        (in_snoc (in_snoc (in_snoc hin (by omega) (by omega)) (by omega) (by omega)) (by omega) (by omega))
      refine ⟨out', ?_, ?_, e3, ?_⟩
      · rw [← e1]; rfl
      · rw [e2, num256_snoc, num256_snoc, num256_snoc]
        simp only [List.foldl_cons]
        congr 1
        omega
      · rw [e4]; simp only [List.length_append, List.length_singleton]; omega
theorem dec_num {ks : List Int} (hv : ∀ k ∈ ks, b64v k < 64) (hl : ks.length % 4 = 0) (hl' : ks.length ≤ 16) : num256 (dec ks) = num64 ks ∧ KBa.In (dec ks) ∧ (dec ks).length ≤ 16 := by
  obtain ⟨out', e1, e2, e3, e4⟩ := dec_block (ks.length / 4) ks [] (by omega) hv (fun n hn => nomatch hn)
  have e : dec ks = out' := by unfold dec; rw [e1]
  rw [e]
  refine ⟨e2, e3, ?_⟩
  rw [e4]; simp only [List.length_nil]; omega

theorem c_count0 {w mean mg mb} (b : Array UInt8) (ks : List Int) (hb : KBw.bInts b = ks) (hv : ∀ k ∈ ks, b64v k < 64) (hl : ks.length % 4 = 0) (hl' : ks.length ≤ 16) (hd1 : KBa.In (dec ks)) (hd2 : (dec ks).length ≤ 16) (t : Tok) : Gives 12 w mean mg mb 137 [.bytes b t] (fun t => .int (num256 (dec ks)) t) := by
  (w_top off; have hfill : PySem.Challenge.rw_op0010_01 = PySem.Challenge.rw_op0010_01 ∧ Mine.hd.heap_39 = Mine.hd.heap_39 := (by (k_fill; exact ⟨rfl, rfl⟩)); clear hfill)
  k_with_none
  k_with "call ref" => k_dflt (first
    | refine' use (c_dec _ ks (by assumption) hv hl hl' _) ?k1 ?k2 ?k3 ?k4 ?k5 ?kK ?kd ?ku ?_; ((case k1 => k_asm); (case k2 => k_asm); (case k3 => k_asm); (case k4 => k_asm); (case k5 => k_asm); (case kK => first | exact rfl | assumption); (case kd => ktr_room); (case ku => ktr_units); intro tU9 hU9 tkU9 FU9 NU9; (try dsimp only); (try k_fold)))
  k_with "pyIter bytes" => (k_of "octet" => k_state (fun pre n => NInv pre n) "number")
  k_with "exec Assign" => ((fail_if_success (with_reducible rename Seen 1 => mk9)); (rename _ = _ ++ _ :: _ => kE); (with_reducible rename NInv _ _ => kI); (have kQ := nfacts hd1 hd2 kE kI); (obtain ⟨kJ1, kJ2⟩ := kQ); (have mk1 := seen 1))
  k_with "state" => first | exact ninv0 | with_reducible exact ninv1 (by assumption)
  have hI0 : IntsAre ([] : List Value) ([] : List Int) := .nil
  unfold Gives
  intros
  rename_i hret
  refine wpAny_call ?_
  k_dflt ((refine' code_def ?k1 ?k2 ?k3 ?k4 ?k5 ?kA ?kF ?kK ?k6 ?k7 ?k8 ?k9 ?kB ?_ ?c2 ?c3 ?c4 ?c5; (case kA => exact rfl); (case kF => exact rfl); (case kK => first | assumption | exact rfl); (case k1 => k_asm); (case k2 => k_asm); (case k3 => k_asm); (case k4 => k_asm); (case k5 => k_asm); (case k6 => k_is); (case k7 => k_is); (case k8 => ktr_room); (case k9 => first | exact BindsTo.of_eq rfl | exact binds_K (by k_in) rfl (by k_is) rfl rfl rfl); (case c5 => decide); (case kB => exact locs rfl); (case c2 => exact rfl); (case c3 => exact rfl); (case c4 => exact rfl); k_whole; intro gV9 LV9 hV9 FGV9 FV9 NV9 BV9 XV9 TV9; (try dsimp only); (try k_lift BV9); (try k_fold)))
  k_steps
  all_goals (refine cb_retI hret ?_ (by k_asm) (by (first | k_asm | (refine' cb_drop ?cbN ?cbS; (case cbN => assumption); (case cbS => (intro p hp; repeat (first | exact hp | apply List.Mem.tail)))))))
  all_goals ((with_reducible rename NInv _ _ => kI); exact kI)

theorem c_count {w mean mg mb} (b : Array UInt8) (ks : List Int) (hb : KBw.bInts b = ks) (hv : ∀ k ∈ ks, b64v k < 64) (hl : ks.length % 4 = 0) (hl' : ks.length ≤ 16) (t : Tok) : Gives 12 w mean mg mb 137 [.bytes b t] (fun t => .int (num64 ks) t) := by
  obtain ⟨h1, h2, h3⟩ := dec_num hv hl hl'
  rw [← h1]
  exact c_count0 b ks hb hv hl hl' h2 h3 t

theorem arr_of_ints {b : Array UInt8} {ks : List Int} (h : KBw.bInts b = ks) : b = byteArr ks := by
  subst h
  unfold byteArr KBw.bInts
  rw [List.map_map]
  have : ((fun n : Int => n.toNat.toUInt8) ∘ fun c : UInt8 => ((c.toNat : Nat) : Int)) = _root_.id := by
    funext c
    show (((c.toNat : Nat) : Int).toNat).toUInt8 = c
    rw [Int.toNat_natCast]
    exact UInt8.ofNat_toNat
  rw [this, List.map_id]
def apK (n : Nat) : List Int := if h : n = 0 then [] else apK (n / 16) ++ [(65 : Int) + ((n % 16 : Nat) : Int)]
termination_by n
decreasing_by omega
theorem apK_zero : apK 0 = [] := by rw [apK]; simp
theorem apK_pos {n : Nat} (h : n ≠ 0) : apK n = apK (n / 16) ++ [65 + ((n % 16 : Nat) : Int)] := by rw [apK]; simp [h]
theorem apK_in : ∀ n, ∀ k ∈ apK n, 65 ≤ k ∧ k ≤ 80 := by
  intro n
  induction n using Nat.strongRecOn with
  | ind n ih =>
    intro k hk
    by_cases h : n = 0
    · subst h; rw [apK_zero] at hk; cases hk
    · rw [apK_pos h] at hk
      rcases List.mem_append.mp hk with hk | hk
      · exact ih (n / 16) (by omega) k hk
      · rw [List.mem_singleton.mp hk]; omega
theorem apK_len : ∀ (m n : Nat), n < 16 ^ m → (apK n).length ≤ m
  | 0, n, h => by
    have : n = 0 := by simp at h; exact h
    subst this; rw [apK_zero]; simp
  | m + 1, n, h => by
    by_cases hn : n = 0
    · subst hn; rw [apK_zero]; simp
    · rw [apK_pos hn, List.length_append, List.length_singleton]
      have := apK_len m (n / 16) (by rw [Nat.pow_succ] at h; omega)
      omega
/-- what holds of the while of Int2AP: n0 the number at its head -/
def AInv (n0 : Nat) (num : Int) (val : Array UInt8) : Prop := 0 ≤ num ∧ apK num.toNat ++ KBw.bInts val = apK n0
theorem ainv0 {x : Int} {n0 : Nat} (h : n0 = x.natAbs) : AInv n0 (if x < 0 then -x else x) #[] := by
  subst h
  have e : (if x < 0 then -x else x) = (x.natAbs : Int) := by split <;> omega
  rw [e]
  exact ⟨by omega, by rw [Int.toNat_natCast]; simp [KBw.bInts]⟩
theorem afacts {n0 : Nat} {num : Int} {val : Array UInt8} (h0 : n0 < 16 ^ 16) (h : AInv n0 num val) : KBw.bInts val = KBw.bInts val ∧ (KBw.bInts val).length ≤ 16 ∧ 0 ≤ num := by
  refine ⟨rfl, ?_, h.1⟩
  have h1 := apK_len 16 n0 h0
  have h2 := congrArg List.length h.2
  rw [List.length_append] at h2
  omega
abbrev apA : Array UInt8 := #[65, 66, 67, 68, 69, 70, 71, 72, 73, 74, 75, 76, 77, 78, 79, 80]
theorem ap_cut (k : Nat) (h : k < 16) : List.take 1 (List.drop k ([65, 66, 67, 68, 69, 70, 71, 72, 73, 74, 75, 76, 77, 78, 79, 80] : List Int)) = [65 + (k : Int)] := by
  have g : ∀ d : Fin 16, List.take 1 (List.drop d.val ([65, 66, 67, 68, 69, 70, 71, 72, 73, 74, 75, 76, 77, 78, 79, 80] : List Int)) = [65 + (d.val : Int)] := by decide
  exact g ⟨k, h⟩
theorem ameas {num : Int} (h0 : 0 ≤ num) (h : num ≠ 0) : (num.fdiv 16).toNat < num.toNat := by
  rw [Int.fdiv_eq_ediv_of_nonneg _ (by decide)]
  omega
theorem ainv1 {n0 : Nat} {num : Int} {val : Array UInt8} (h : AInv n0 num val) (hne : num ≠ 0) :
    AInv n0 (num.fdiv 16) (KBy.picked #[65, 66, 67, 68, 69, 70, 71, 72, 73, 74, 75, 76, 77, 78, 79, 80] (some (num.fmod 16)) (some (num.fmod 16 + 1)) ++ val) := by
  obtain ⟨h1, h2⟩ := h
  obtain ⟨n, rfl⟩ := Int.eq_ofNat_of_zero_le h1
  have e1 : ((n : Int)).fdiv 16 = ((n / 16 : Nat) : Int) := by rw [Int.fdiv_eq_ediv_of_nonneg _ (by decide)]; omega
  have e2 : ((n : Int)).fmod 16 = ((n % 16 : Nat) : Int) := by rw [Int.fmod_eq_emod_of_nonneg _ (by decide)]; omega
  rw [e1, e2]
  refine ⟨by omega, ?_⟩
  have hn : n ≠ 0 := by omega
  have hp : KBw.bInts (KBy.picked apA (some ((n % 16 : Nat) : Int)) (some (((n % 16 : Nat) : Int) + 1))) = [65 + ((n % 16 : Nat) : Int)] := by
    rw [KBc.ints_picked (show KBw.bInts apA = [65, 66, 67, 68, 69, 70, 71, 72, 73, 74, 75, 76, 77, 78, 79, 80] from rfl)]
    have hk : n % 16 < 16 := Nat.mod_lt _ (by decide)
    generalize n % 16 = k at hk
    have c1 : clipAt 16 ((k : Nat) : Int) = k := by rw [clipAt_nat]; omega
    have c2 : clipAt 16 (((k : Nat) : Int) + 1) = k + 1 := by
      have : ((k : Nat) : Int) + 1 = ((k + 1 : Nat) : Int) := by omega
      rw [this, clipAt_nat]; omega
    show List.take (clipAt 16 (((k : Nat) : Int) + 1) - clipAt 16 ((k : Nat) : Int)) (List.drop (clipAt 16 ((k : Nat) : Int)) _) = _
    rw [c1, c2, Nat.add_sub_cancel_left]
    exact ap_cut k hk
  rw [KBw.ints_app hp rfl, Int.toNat_natCast, ← List.append_assoc, ← apK_pos hn, ← h2, Int.toNat_natCast]
theorem aend {n0 : Nat} {num : Int} {val : Array UInt8} (h : AInv n0 num val) (hz : num = 0) : val = byteArr (apK n0) := by
  obtain ⟨h1, h2⟩ := h
  subst hz
  rw [show (0 : Int).toNat = 0 from rfl, apK_zero, List.nil_append] at h2
  exact arr_of_ints h2

theorem c_ap {w mean mg mb} (x : Int) (n0 : Nat) (hn0 : n0 = x.natAbs) (hx : n0 < 16 ^ 16) (t : Tok) : Gives 4 w mean mg mb 109 [.int x t] (fun t => .bytes (byteArr (apK n0)) t) := by
  (w_top off; have hfill : PySem.Challenge.rw_op0010_01 = PySem.Challenge.rw_op0010_01 ∧ Mine.hd.heap_39 = Mine.hd.heap_39 := (by (k_fill; exact ⟨rfl, rfl⟩)); clear hfill)
  k_with_none
  k_with "exec While Name cons nil" => (k_while (fun _ num val => AInv n0 num val) (fun _ num _ => num.toNat) "num" "val")
  k_with "exec Assign" => ((fail_if_success (with_reducible rename Seen 1 => mk9)); (with_reducible rename AInv _ _ _ => kI); (have kQ := afacts hx kI); (obtain ⟨kJ1, kJ2, kJ3⟩ := kQ); (have mk1 := seen 1))
  k_with "measure" => exact ameas (by assumption) (by assumption)
  k_with "state" => first | exact ainv0 hn0 | with_reducible exact ainv1 (by assumption) (by assumption)
  have hAP : KBw.bInts (#[65, 66, 67, 68, 69, 70, 71, 72, 73, 74, 75, 76, 77, 78, 79, 80] : Array UInt8) = [65, 66, 67, 68, 69, 70, 71, 72, 73, 74, 75, 76, 77, 78, 79, 80] := rfl
  unfold Gives
  intros
  rename_i hret
  refine wpAny_call ?_
  k_dflt ((refine' code_def ?k1 ?k2 ?k3 ?k4 ?k5 ?kA ?kF ?kK ?k6 ?k7 ?k8 ?k9 ?kB ?_ ?c2 ?c3 ?c4 ?c5; (case kA => exact rfl); (case kF => exact rfl); (case kK => first | assumption | exact rfl); (case k1 => k_asm); (case k2 => k_asm); (case k3 => k_asm); (case k4 => k_asm); (case k5 => k_asm); (case k6 => k_is); (case k7 => k_is); (case k8 => ktr_room); (case k9 => first | exact BindsTo.of_eq rfl | exact binds_K (by k_in) rfl (by k_is) rfl rfl rfl); (case c5 => decide); (case kB => exact locs rfl); (case c2 => exact rfl); (case c3 => exact rfl); (case c4 => exact rfl); k_whole; intro gV9 LV9 hV9 FGV9 FV9 NV9 BV9 XV9 TV9; (try dsimp only); (try k_lift BV9); (try k_fold)))
  k_steps
  all_goals (refine retY hret (aend (by assumption) ?_) (by k_asm) (by (first | k_asm | (refine' cb_drop ?cbN ?cbS; (case cbN => assumption); (case cbS => (intro p hp; repeat (first | exact hp | apply List.Mem.tail)))))))
  all_goals assumption

def wordK (n s : Nat) : List Int := List.replicate (s - (apK n).length) 65 ++ apK n
theorem apK_in' (n : Nat) : KBa.In (apK n) := fun k hk => by have := apK_in n k hk; omega
theorem rep_ints (k : Nat) : KBw.bInts ((List.replicate k ([65] : List UInt8)).flatten.toArray) = List.replicate k 65 := by
  show ((List.replicate k ([65] : List UInt8)).flatten).map _ = _
  induction k with
  | zero => rfl
  | succ k ih => rw [List.replicate_succ, List.flatten_cons, List.map_append, ih]; rfl

theorem c_word {w mean mg mb} (x : Int) (n0 sz : Nat) (hn0 : n0 = x.natAbs) (hz : sz ≤ 16) (hx : n0 < 16 ^ sz) (t u : Tok) : Gives 8 w mean mg mb 130 [.int x t, .int (sz : Int) u] (fun t => .bytes (byteArr (wordK n0 sz)) t) := by
  (w_top off; have hfill : PySem.Challenge.rw_op0010_01 = PySem.Challenge.rw_op0010_01 ∧ Mine.hd.heap_39 = Mine.hd.heap_39 := (by (k_fill; exact ⟨rfl, rfl⟩)); clear hfill)
  k_with_none
  have hx' : n0 < 16 ^ 16 := Nat.lt_of_lt_of_le hx (Nat.pow_le_pow_right (by decide) hz)
  have hlen : (apK n0).length ≤ sz := apK_len sz n0 hx
  have hin : KBa.In (apK n0) := apK_in' n0
  have hA : KBw.bInts (#[65] : Array UInt8) = [65] := rfl
  k_with "call ref" => k_dflt (refine' use (c_ap _ n0 hn0 hx' _) ?k1 ?k2 ?k3 ?k4 ?k5 ?kK ?kd ?ku ?_; ((case k1 => k_asm); (case k2 => k_asm); (case k3 => k_asm); (case k4 => k_asm); (case k5 => k_asm); (case kK => first | exact rfl | assumption); (case kd => ktr_room); (case ku => ktr_units); intro tU9 hU9 tkU9 FU9 NU9; (try dsimp only); (try k_fold)))
  k_with "binaryOp Add bytes bytes" => (refine KBa.add_K (rep_ints _) (KBa.ints_make hin) ?_ ?_; (rw [List.length_replicate]; omega); intro t9 k9 hadd)
  unfold Gives
  intros
  rename_i hret
  refine wpAny_call ?_
  k_dflt ((refine' code_def ?k1 ?k2 ?k3 ?k4 ?k5 ?kA ?kF ?kK ?k6 ?k7 ?k8 ?k9 ?kB ?_ ?c2 ?c3 ?c4 ?c5; (case kA => exact rfl); (case kF => exact rfl); (case kK => first | assumption | exact rfl); (case k1 => k_asm); (case k2 => k_asm); (case k3 => k_asm); (case k4 => k_asm); (case k5 => k_asm); (case k6 => k_is); (case k7 => k_is); (case k8 => ktr_room); (case k9 => first | exact BindsTo.of_eq rfl | exact binds_K (by k_in) rfl (by k_is) rfl rfl rfl); (case c5 => decide); (case kB => exact locs rfl); (case c2 => exact rfl); (case c3 => exact rfl); (case c4 => exact rfl); k_whole; intro gV9 LV9 hV9 FGV9 FV9 NV9 BV9 XV9 TV9; (try dsimp only); (try k_lift BV9); (try k_fold)))
  k_steps
  all_goals (refine retY hret ?_ (by k_asm) (by (first | k_asm | (refine' cb_drop ?cbN ?cbS; (case cbN => assumption); (case cbS => (intro p hp; repeat (first | exact hp | apply List.Mem.tail)))))))
  all_goals (rw [arr_of_ints hadd]; unfold wordK; congr 3; omega)

/-- letters, row, carried after the columns -/
def cstep (c : List Int × List Int × Int) (k : Int) : List Int × List Int × Int :=
  ((65 + (k + c.2.2).fmod 16) :: c.1, (k + c.2.2).fdiv 16 :: c.2.1, (k + c.2.2).fdiv 16)
def cfold (ks : List Int) : List Int × List Int × Int := ks.foldl cstep ([], [], 0)
theorem cfold_snoc (ks : List Int) (k : Int) : cfold (ks ++ [k]) = cstep (cfold ks) k := by unfold cfold; rw [List.foldl_append]; rfl
theorem cfold_take {ks : List Int} {i : Nat} {k : Int} (h : ks[i]? = some k) : cfold (ks.take (i + 1)) = cstep (cfold (ks.take i)) k := by
  rw [← cfold_snoc]; congr 1; simp [List.take_add_one, h]
abbrev CPs (la ra : Addr) (c : Int) (t : Tok) : List (Str × Value) := [(Str.ofString "letters", Value.ref la), (Str.ofString "row", Value.ref ra), (Str.ofString "carried", Value.int c t)]
def CJ (ns : List Int) (nw : List (Addr × Obj)) (m₀ : Str → Option Value) (i : Nat) (m : Str → Option Value) (nx : List (Addr × Obj)) : Prop :=
  ∃ (la ra : Addr) (lvs rvs : List Value) (ln rn : Nat) (t : Tok), nx = (ra, listOf rvs.toArray rn) :: (la, listOf lvs.toArray ln) :: nw ∧ IntsAre lvs (cfold (ns.take i)).1 ∧ IntsAre rvs (cfold (ns.take i)).2.1 ∧
    AllLt la nw ∧ AllLt ra nw ∧
    (∀ p ∈ CPs la ra (cfold (ns.take i)).2.2 t, m p.1 = some p.2) ∧
    (∀ z, z ≠ Str.ofString "column" → (∀ p ∈ CPs la ra (cfold (ns.take i)).2.2 t, z ≠ p.1) → ([] : List Str).contains z = false → m z = m₀ z)
theorem c_loop {prog : Program} {w : World} {A : Around} {E : Value → Shared → Prop} {s : Shared} {env : Env} {h₀ : Heap} {body : List Stmt} {Q : Flow → Shared → Prop} {l la₀ ra₀ : Addr} {vs : List Value} {ns : List Int} {en ln₀ rn₀ : Nat} {t₀ : Tok} {m₀ : Str → Option Value} {news : List (Addr × Obj)}
    (hh : A.handled = none) (hI : IntsAre vs ns) (F : Fr h₀ env.locals s.heap m₀) (N : News h₀ env.locals s.heap ((ra₀, listOf #[] rn₀) :: (la₀, listOf #[] ln₀) :: (l, listOf vs.toArray en) :: news))
    (hla : AllLt la₀ ((l, listOf vs.toArray en) :: news)) (hra : AllLt ra₀ ((l, listOf vs.toArray en) :: news)) (hk : ∀ p ∈ CPs la₀ ra₀ 0 t₀, m₀ p.1 = some p.2)
    (turn : ∀ (i : Nat) (n : Int) (t : Tok) (la ra : Addr) (lvs rvs : List Value) (ln rn : Nat) (tc : Tok) (u : Str → Option Value) (h : Heap) (tk : Nat) (own : List (Addr × Obj)), ns[i]? = some n → n ∈ ns → i < ns.length →
      IntsAre lvs (cfold (ns.take i)).1 → IntsAre rvs (cfold (ns.take i)).2.1 → AllLt la ((l, listOf vs.toArray en) :: news) → AllLt ra ((l, listOf vs.toArray en) :: news) → OwnOff own (((ra, listOf rvs.toArray rn) :: (la, listOf lvs.toArray ln) :: (l, listOf vs.toArray en) :: news).map (·.1)) →
      Fr h₀ env.locals h (fun y => if y = Str.ofString "column" then some (.int n t) else kstB (fun z => if ([] : List Str).contains z then u z else m₀ z) (CPs la ra (cfold (ns.take i)).2.2 tc) y) →
      News h₀ env.locals h ((ra, listOf rvs.toArray rn) :: (la, listOf lvs.toArray ln) :: (l, listOf vs.toArray en) :: (news ++ own)) →
      wpAny (model prog w) A (execs body env) (InvPostG h₀ env.locals (fun m' nx => (l, listOf vs.toArray en) ∈ nx ∧ CJ ns ((l, listOf vs.toArray en) :: news) m₀ (i + 1) m' nx) own { s with heap := h, toks := tk } Q) E { s with heap := h, toks := tk })
    (done : ∀ (la ra : Addr) (lvs rvs : List Value) (ln rn : Nat) (tc : Tok) (u : Str → Option Value) (h : Heap) (tk : Nat), IntsAre lvs (cfold ns).1 → IntsAre rvs (cfold ns).2.1 → AllLt la ((l, listOf vs.toArray en) :: news) → AllLt ra ((l, listOf vs.toArray en) :: news) →
      Fr h₀ env.locals h (fun y => if y = Str.ofString "column" then u y else kstB (fun z => if ([] : List Str).contains z then u z else m₀ z) (CPs la ra (cfold ns).2.2 tc) y) →
      News h₀ env.locals h ((ra, listOf rvs.toArray rn) :: (la, listOf lvs.toArray ln) :: (l, listOf vs.toArray en) :: news) → Q .next { s with heap := h, toks := tk }) :
    wpAny (model prog w) A (pyIter (.ref l)) (fun it s₂ => LoopAtV prog w A h₀ env (Str.ofString "column") body Q E it s₂) E s := by
  refine kdl_iter (vs := vs) (nn := en) (CJ ns ((l, listOf vs.toArray en) :: news) m₀) hh (.tail _ (.tail _ (.head _))) F N ⟨la₀, ra₀, [], [], ln₀, rn₀, t₀, rfl, .nil, .nil, hla, hra, hk, fun _ _ _ _ => rfl⟩ ?_ ?_
  · rintro i v m₁ nx h tk own hv hoff _ ⟨la, ra, lvs, rvs, ln, rn, tc, rfl, h1, h2, h3, h4, h5, h6⟩ F₁ N₁
    obtain ⟨n, tn, rfl, hn⟩ := IntsAre.at hI i v hv
    have hlt : i < ns.length := (List.getElem?_eq_some_iff.mp hn).1
    exact turn i n tn la ra lvs rvs ln rn tc m₁ h tk own hn (List.mem_of_getElem? hn) hlt h1 h2 h3 h4 hoff (kst_fr h5 h6 F₁) N₁
  · rintro m₁ nx h tk ⟨la, ra, lvs, rvs, ln, rn, tc, rfl, h1, h2, h3, h4, h5, h6⟩ F₁ N₁
    rw [hI.length, List.take_length] at h1 h2 h5 h6
    exact done la ra lvs rvs ln rn tc m₁ h tk h1 h2 h3 h4 (kst_frOut h5 h6 F₁) N₁
theorem cfold_len (ks : List Int) : (cfold ks).1.length = ks.length ∧ (cfold ks).2.1.length = ks.length := by
  suffices h : ∀ (ks : List Int) c, (ks.foldl cstep c).1.length = ks.length + c.1.length ∧ (ks.foldl cstep c).2.1.length = ks.length + c.2.1.length by
    have := h ks ([], [], 0); simpa [cfold] using this
  intro ks
  induction ks with
  | nil => intro c; simp
  | cons k r ih => intro c; rw [List.foldl_cons]; have := ih (cstep c k); simp only [cstep, List.length_cons] at *; omega
theorem cfold_in (ks : List Int) : ∀ k ∈ (cfold ks).1, 65 ≤ k ∧ k ≤ 80 := by
  suffices h : ∀ (ks : List Int) c, (∀ k ∈ c.1, 65 ≤ k ∧ k ≤ 80) → ∀ k ∈ (ks.foldl cstep c).1, 65 ≤ k ∧ k ≤ 80 by
    exact h ks ([], [], 0) (fun k hk => nomatch hk)
  intro ks
  induction ks with
  | nil => intro c hc; exact hc
  | cons x r ih =>
    intro c hc
    refine ih (cstep c x) ?_
    intro k hk
    rcases List.mem_cons.mp hk with rfl | hk
    · have h1 := fmod_lo (x + c.2.2) (show (0 : Int) < 16 by decide)
      have h2 := fmod_hi (x + c.2.2) (show (0 : Int) < 16 by decide)
      omega
    · exact hc k hk
theorem cfold_in' (ks : List Int) : KBa.In (cfold ks).1 := fun k hk => by have := cfold_in ks k hk; omega
theorem c_end {h₀ : Heap} {L : Addr} {ns : List Int} {i : Nat} {n : Int} {l D D1 : Addr} {vs ws ws1 : List Value} {en rn ln : Nat} {tc : Tok} {x1 x2 x3 x4 : Addr × Obj} {news own : List (Addr × Obj)} {m₀ m' : Str → Option Value} {s₁ : Shared} {h' : Heap} {tk : Nat} {ra la : Addr × Obj}
    (F : Fr h₀ L h' m') (N : News h₀ L h' ((D, listOf ws.toArray rn) :: x1 :: (D1, listOf ws1.toArray ln) :: x2 :: x3 :: x4 :: (l, listOf vs.toArray en) :: (news ++ own)))
    (hn : ns[i]? = some n) (hI1 : IntsAre ws1 ([65 + (n + (cfold (ns.take i)).2.2).fmod 16] ++ (cfold (ns.take i)).1)) (hI2 : IntsAre ws ([(n + (cfold (ns.take i)).2.2).fdiv 16] ++ (cfold (ns.take i)).2.1))
    (l1 : x2.1 < D1 ∧ x3.1 < D1 ∧ x4.1 < D1 ∧ l < D1 ∧ AllLt D1 (news ++ own)) (l2 : x1.1 < D ∧ D1 < D ∧ x2.1 < D ∧ x3.1 < D ∧ x4.1 < D ∧ l < D ∧ AllLt D (news ++ own))
    (hof : OwnOff own ((ra :: la :: (l, listOf vs.toArray en) :: news).map (·.1)))
    (h5 : ∀ p ∈ CPs D1 D ((n + (cfold (ns.take i)).2.2).fdiv 16) tc, m' p.1 = some p.2)
    (h6 : ∀ z, z ≠ Str.ofString "column" → (∀ p ∈ CPs D1 D ((n + (cfold (ns.take i)).2.2).fdiv 16) tc, z ≠ p.1) → ([] : List Str).contains z = false → m' z = m₀ z) :
    InvEndG h₀ L (fun m' nx => (l, listOf vs.toArray en) ∈ nx ∧ CJ ns ((l, listOf vs.toArray en) :: news) m₀ (i + 1) m' nx) own s₁ { s₁ with heap := h', toks := tk } := by
  have e := cfold_take hn
  refine InvEndG.intro (nx := (D, listOf ws.toArray rn) :: (D1, listOf ws1.toArray ln) :: (l, listOf vs.toArray en) :: news) F N ⟨.tail _ (.tail _ (.head _)), D1, D, ws1, ws, ln, rn, tc, rfl, ?_, ?_, ?_, ?_, ?_, ?_⟩ ?_ ?_ ?_
  · rw [e]; exact hI1
  · rw [e]; exact hI2
  · refine ⟨l1.2.2.2.1, allLt_of fun p hp => allLt_mem l1.2.2.2.2 p (List.mem_append_left _ hp)⟩
  · refine ⟨l2.2.2.2.2.2.1, allLt_of fun p hp => allLt_mem l2.2.2.2.2.2.2 p (List.mem_append_left _ hp)⟩
  · rw [e]; exact h5
  · rw [e]; exact h6
  · intro p hp b hb
    simp only [List.map_cons] at hb
    rcases List.mem_cons.mp hb with rfl | hb
    · exact Nat.ne_of_lt (allLt_mem l2.2.2.2.2.2.2 p (List.mem_append_right _ hp))
    · rcases List.mem_cons.mp hb with rfl | hb
      · exact Nat.ne_of_lt (allLt_mem l1.2.2.2.2 p (List.mem_append_right _ hp))
      · exact hof p hp b (by simp only [List.map_cons]; exact .tail _ (.tail _ hb))
  · intro p hp
    rcases List.mem_cons.mp hp with rfl | hp
    · exact .head _
    · rcases List.mem_cons.mp hp with rfl | hp
      · exact .tail _ (.tail _ (.head _))
      · rcases List.mem_cons.mp hp with rfl | hp
        · exact .tail _ (.tail _ (.tail _ (.tail _ (.tail _ (.tail _ (.head _))))))
        · exact .tail _ (.tail _ (.tail _ (.tail _ (.tail _ (.tail _ (.tail _ (List.mem_append_left _ hp)))))))
  · intro p hp
    exact .tail _ (.tail _ (.tail _ (.tail _ (.tail _ (.tail _ (.tail _ (List.mem_append_right _ hp)))))))
/-- a call of _law_carried -/
abbrev GivesC (w : World) (mean : ExcName → Option Value) (mg mb : Str → Option Value) (ns : List Int) : Prop :=
  ∀ (l : Addr) (vs : List Value) (en : Nat) (news : List (Addr × Obj)) (dp un : Nat) (gd : Option (List Code)) (cn : Str) (cs : Scope) (a : Addr) (ccd : Value) (cl : List (Str × Addr)) (outer : List Env) (A₀ : Around) (base h₀ : Heap) (L : Addr) (m : Str → Option Value) (s : Shared) (Q E : Value → Shared → Prop),
    Below A₀ base outer h₀ → Fr h₀ L s.heap m → (Mine.hd.heap_39 w.params).In h₀ → News h₀ L s.heap ((l, listOf vs.toArray en) :: news) → IntsAre vs ns → Top Mine.hd.view_39 Lo mean mg mb h₀ → cs.kind = .function →
    dp + 4 < recursionLimit → un + 16 * 4 < cLine →
    (∀ (D ra : Addr) (rvs : List Value) (dn rn : Nat) (t : Tok) (h' : Heap) (tk' : Nat), Fr h₀ L h' m → News h₀ L h' ((D, ({ cls := .type "tuple", data := .seq #[.bytes (byteArr (cfold ns).1) t, .ref ra] dn } : Obj)) :: (ra, listOf rvs.toArray rn) :: (l, listOf vs.toArray en) :: news) →
      IntsAre rvs (cfold ns).2.1 → (∀ p ∈ (l, listOf vs.toArray en) :: news, p.1 < ra) → ra < D → Q (.ref D) { s with heap := h', toks := tk' }) →
      wpAny (model PySem.Challenge.rw_op0010_01.row.prog w) (ktrTop dp un gd cn cs L a ccd cl outer) (call (.ref 144) [.ref l]) Q E s

theorem c_ret {h₀ h' : Heap} {L D ra l : Addr} {m : Str → Option Value} {ns : List Int} {vs rvs : List Value} {en dn rn : Nat} {t : Tok} {la : Addr × Obj} {news : List (Addr × Obj)} {s : Shared} {Q : Value → Shared → Prop} {tk' : Nat}
    (hret : ∀ (D ra : Addr) (rvs : List Value) (dn rn : Nat) (t : Tok) (h' : Heap) (tk' : Nat), Fr h₀ L h' m → News h₀ L h' ((D, ({ cls := .type "tuple", data := .seq #[.bytes (byteArr (cfold ns).1) t, .ref ra] dn } : Obj)) :: (ra, listOf rvs.toArray rn) :: (l, listOf vs.toArray en) :: news) →
      IntsAre rvs (cfold ns).2.1 → (∀ p ∈ (l, listOf vs.toArray en) :: news, p.1 < ra) → ra < D → Q (.ref D) { s with heap := h', toks := tk' })
    (F : Fr h₀ L h' m) (N : News h₀ L h' ((D, ({ cls := .type "tuple", data := .seq #[.bytes (byteArr (cfold ns).1) t, .ref ra] dn } : Obj)) :: (ra, listOf rvs.toArray rn) :: la :: (l, listOf vs.toArray en) :: news))
    (hr : IntsAre rvs (cfold ns).2.1) (har : AllLt ra ((l, listOf vs.toArray en) :: news)) (hD : ra < D ∧ la.1 < D ∧ l < D ∧ AllLt D news) : Q (.ref D) { s with heap := h', toks := tk' } :=
  hret D ra rvs dn rn t h' tk' F (fun p hp => N p (by
    rcases List.mem_cons.mp hp with rfl | hp
    · exact .head _
    · rcases List.mem_cons.mp hp with rfl | hp
      · exact .tail _ (.head _)
      · exact .tail _ (.tail _ (.tail _ hp)))) hr (allLt_mem har) hD.1
theorem c_carried {w mean mg mb} (ns : List Int) (hlen : ns.length ≤ 16) (hlo : ∀ n ∈ ns, 0 ≤ n) : GivesC w mean mg mb ns := by
  (w_top off; have hfill : PySem.Challenge.rw_op0010_01 = PySem.Challenge.rw_op0010_01 ∧ Mine.hd.heap_39 = Mine.hd.heap_39 := (by (k_fill; exact ⟨rfl, rfl⟩)); clear hfill)
  k_with_none
  k_with "pyIter ref" => ((rename Fr _ _ _ _ => lF'); (rename News _ _ _ _ => lN'); (with_unfolding_all refine' c_loop (by rfl) (by assumption) lF' lN' ?hla ?hra ?hk ?turn ?done); (case hla => k_dflt (first | assumption | exact And.right (by assumption))); (case hra => k_dflt (first | assumption | exact And.right (by assumption))); (case hk => k_dflt (refine List.forall_mem_cons.mpr ⟨by with_unfolding_all rfl, List.forall_mem_cons.mpr ⟨by with_unfolding_all rfl, List.forall_mem_cons.mpr ⟨by with_unfolding_all rfl, List.forall_mem_nil _⟩⟩⟩)); (all_goals (try clear lF' lN')); (intro i9 n9 t9 la9 ra9 lvs9 rvs9 ln9 rn9 tc9 u9 h9 tk9 own9 hn9 hm9 hi9 hl9 hr9 hal9 har9 hof9 F9 N9; (have cL1 := cfold_len (ns.take i9)); (have cL2 := IntsAre.length hl9); (have cL3 := IntsAre.length hr9); (have cL4 := hlo _ hm9); (try k_fold)); rotate_left; (intro la9 ra9 lvs9 rvs9 ln9 rn9 tc9 u9 h9 tk9 hl9 hr9 hal9 har9 F9 N9; (try k_fold)); rotate_left)
  k_with "InvEndG" => k_dflt ((rename Fr _ _ _ _ => fE'); (rename News _ _ _ _ => nE'); (refine' c_end fE' nE' (by assumption) (by assumption) (by assumption) (by assumption) (by assumption) (by assumption) ?h5 ?h6); (case h5 => (refine List.forall_mem_cons.mpr ⟨by with_unfolding_all rfl, List.forall_mem_cons.mpr ⟨by with_unfolding_all rfl, List.forall_mem_cons.mpr ⟨by with_unfolding_all rfl, List.forall_mem_nil _⟩⟩⟩)); (case h6 => (intro z h1 h2 h3; (simp only [CPs, List.forall_mem_cons, List.not_mem_nil, false_implies, implies_true, and_true, ne_eq] at h1 h2); (simp [CPs, kstB, h1, h2]))))
  have hin := cfold_in' ns
  have hcl := cfold_len ns
  unfold GivesC
  intro l vs en news
  intros
  rename_i hret
  refine wpAny_call ?_
  k_dflt ((refine' code_def ?k1 ?k2 ?k3 ?k4 ?k5 ?kA ?kF ?kK ?k6 ?k7 ?k8 ?k9 ?kB ?_ ?c2 ?c3 ?c4 ?c5; (case kA => exact rfl); (case kF => exact rfl); (case kK => first | assumption | exact rfl); (case k1 => k_asm); (case k2 => k_asm); (case k3 => k_asm); (case k4 => k_asm); (case k5 => k_asm); (case k6 => k_is); (case k7 => k_is); (case k8 => ktr_room); (case k9 => first | exact BindsTo.of_eq rfl | exact binds_K (by k_in) rfl (by k_is) rfl rfl rfl); (case c5 => decide); (case kB => exact locs rfl); (case c2 => exact rfl); (case c3 => exact rfl); (case c4 => exact rfl); k_whole; intro gV9 LV9 hV9 FGV9 FV9 NV9 BV9 XV9 TV9; (try dsimp only); (try k_lift BV9); (try k_fold)))
  k_steps
  all_goals (exact c_ret hret (by k_asm) (by assumption) (by assumption) (by assumption) (by assumption))

def sgL : List Int := [65, 66, 67, 68, 69, 70, 71, 72, 73, 74, 75, 76, 77, 78, 79, 80, 81, 82, 83, 84, 85, 86, 87, 88, 89, 90, 97, 98, 99, 100, 101, 102, 103, 104, 105, 106, 107, 108, 109, 110, 111, 112, 113, 114, 115, 116, 117, 118, 119, 120, 121, 122, 48, 49, 50, 51, 52, 53, 54, 55, 56, 57, 43, 47]
theorem sgL_eq : KBw.bInts (#[65, 66, 67, 68, 69, 70, 71, 72, 73, 74, 75, 76, 77, 78, 79, 80, 81, 82, 83, 84, 85, 86, 87, 88, 89, 90, 97, 98, 99, 100, 101, 102, 103, 104, 105, 106, 107, 108, 109, 110, 111, 112, 113, 114, 115, 116, 117, 118, 119, 120, 121, 122, 48, 49, 50, 51, 52, 53, 54, 55, 56, 57, 43, 47] : Array UInt8) = sgL := rfl
def sg (d : Int) : Int := sgL.getD d.toNat 0
def estep (c : List Int × Int × Int) (b : Int) : List Int × Int × Int :=
  let l := (c.2.2 * 256 + b) % 65536
  if c.2.1 = 0 then (c.1 ++ [sg (l / 4 % 64)], 2, l) else if c.2.1 = 2 then (c.1 ++ [sg (l / 16 % 64)], 4, l) else (c.1 ++ [sg (l / 64 % 64), sg (l % 64)], 0, l)
def EI (pre out : List Int) (lb lc : Int) : Prop := (out, lb, lc) = pre.foldl estep ([], 0, 0)
def EInv (pre out : List Int) (lb lc : Int) : Prop := EI pre out lb lc ∧ (lb = 0 ∨ lb = 2 ∨ lb = 4) ∧ 0 ≤ lc ∧ lc < 65536 ∧ lb = 2 * ((pre.length : Int) % 3) ∧ KBa.In out ∧ out.length ≤ 2 * pre.length
theorem einv0 : EInv [] [] 0 0 := ⟨rfl, .inl rfl, by decide, by decide, rfl, (fun n hn => nomatch hn), by decide⟩
def enc (ks : List Int) : List Int := (ks.foldl estep ([], 0, 0)).1
theorem band63 (x : Int) : 0 ≤ Builtin.bitAnd x 63 ∧ Builtin.bitAnd x 63 < (sgL.length : Int) := by
  have := bitAnd_range x (show (0 : Int) ≤ 63 by decide)
  have e : (sgL.length : Int) = 64 := by decide
  omega
theorem lcn {lc n : Int} (h : 0 ≤ lc) (h0 : 0 ≤ n) (h1 : n < 256) : Builtin.bitAnd (Builtin.bitOr (lc * 2 ^ Int.toNat 8) n) 65535 = (lc * 256 + n) % 65536 := by
  rw [bitAnd_m16, show Int.toNat 8 = 8 from rfl, bor_low 8 lc n h h0 (by show _ < (256 : Int); exact h1)]
  rfl
theorem sg_in (i : Nat) : 0 ≤ sgL.getD i 0 ∧ sgL.getD i 0 < 256 := KBw.getD_in (by decide)
theorem shr {x : Int} (k : Int) (m : Int) (hm : (2 : Int) ^ k.toNat = m) (hp : 0 < m) : Builtin.bitAnd (x.fdiv (2 ^ k.toNat)) 63 = x / m % 64 := by
  rw [bitAnd_m6, hm, Int.fdiv_eq_ediv_of_nonneg _ (by omega)]
theorem ei_step {pre out : List Int} {lb lc n : Int} (h : EI pre out lb lc) : (pre ++ [n]).foldl estep ([], 0, 0) = estep (out, lb, lc) n := by
  rw [List.foldl_append, ← h]; rfl
theorem est0 {pre out : List Int} {lc n : Int} (h : EInv pre out 0 lc) (h0 : 0 ≤ n) (h1 : n < 256) :
    EInv (pre ++ [n]) (out ++ [sgL.getD (Builtin.bitAnd ((Builtin.bitAnd (Builtin.bitOr (lc * 2 ^ Int.toNat 8) n) 65535).fdiv (2 ^ (0 + 8 - 6 : Int).toNat)) 63).toNat 0]) (0 + 8 - 6) (Builtin.bitAnd (Builtin.bitOr (lc * 2 ^ Int.toNat 8) n) 65535) := by
  obtain ⟨g1, g2, g3, g4, g5, g6, g7⟩ := h
  rw [lcn g3 h0 h1, shr (0 + 8 - 6) 4 rfl (by decide)]
  refine ⟨?_, .inr (.inl rfl), by omega, by omega, ?_, in_snoc g6 (sg_in _).1 (sg_in _).2, ?_⟩
  · unfold EI; rw [ei_step g1]; rfl
  all_goals (rw [List.length_append, List.length_singleton]; try rw [List.length_append, List.length_singleton])
  all_goals omega
theorem est2 {pre out : List Int} {lc n : Int} (h : EInv pre out 2 lc) (h0 : 0 ≤ n) (h1 : n < 256) :
    EInv (pre ++ [n]) (out ++ [sgL.getD (Builtin.bitAnd ((Builtin.bitAnd (Builtin.bitOr (lc * 2 ^ Int.toNat 8) n) 65535).fdiv (2 ^ (2 + 8 - 6 : Int).toNat)) 63).toNat 0]) (2 + 8 - 6) (Builtin.bitAnd (Builtin.bitOr (lc * 2 ^ Int.toNat 8) n) 65535) := by
  obtain ⟨g1, g2, g3, g4, g5, g6, g7⟩ := h
  rw [lcn g3 h0 h1, shr (2 + 8 - 6) 16 rfl (by decide)]
  refine ⟨?_, .inr (.inr rfl), by omega, by omega, ?_, in_snoc g6 (sg_in _).1 (sg_in _).2, ?_⟩
  · unfold EI; rw [ei_step g1]; rfl
  all_goals (rw [List.length_append, List.length_singleton]; try rw [List.length_append, List.length_singleton])
  all_goals omega
theorem est4 {pre out : List Int} {lc n : Int} (h : EInv pre out 4 lc) (h0 : 0 ≤ n) (h1 : n < 256) :
    EInv (pre ++ [n]) (out ++ [sgL.getD (Builtin.bitAnd ((Builtin.bitAnd (Builtin.bitOr (lc * 2 ^ Int.toNat 8) n) 65535).fdiv (2 ^ (4 + 8 - 6 : Int).toNat)) 63).toNat 0] ++ [sgL.getD (Builtin.bitAnd ((Builtin.bitAnd (Builtin.bitOr (lc * 2 ^ Int.toNat 8) n) 65535).fdiv (2 ^ (4 + 8 - 6 - 6 : Int).toNat)) 63).toNat 0]) (4 + 8 - 6 - 6) (Builtin.bitAnd (Builtin.bitOr (lc * 2 ^ Int.toNat 8) n) 65535) := by
  obtain ⟨g1, g2, g3, g4, g5, g6, g7⟩ := h
  rw [lcn g3 h0 h1, shr (4 + 8 - 6) 64 rfl (by decide), shr (4 + 8 - 6 - 6) 1 rfl (by decide)]
  refine ⟨?_, .inl rfl, by omega, by omega, ?_, in_snoc (in_snoc g6 (sg_in _).1 (sg_in _).2) (sg_in _).1 (sg_in _).2, ?_⟩
  · unfold EI; rw [ei_step g1, Int.ediv_one, List.append_assoc]; rfl
  all_goals simp only [List.length_append, List.length_singleton]
  all_goals omega
theorem efacts2 {ks out : List Int} {lb lc : Int} (hl : ks.length % 3 = 0) (hl' : ks.length ≤ 12) (h : EInv ks out lb lc) : lb = 0 ∧ KBa.In out ∧ out.length ≤ 24 ∧ out = enc ks := by
  obtain ⟨h1, h2, h3, h4, h5, h6, h7⟩ := h
  exact ⟨by omega, h6, by omega, congrArg (fun x => x.1) h1⟩

theorem c_enc {w mean mg mb} (b : Array UInt8) (ks : List Int) (hb : KBw.bInts b = ks) (hl : ks.length % 3 = 0) (hl' : ks.length ≤ 12) (t : Tok) : Gives 8 w mean mg mb 94 [.bytes b t] (fun t => .bytes (byteArr (enc ks)) t) := by
  (w_top off; have hfill : PySem.Challenge.rw_op0010_01 = PySem.Challenge.rw_op0010_01 ∧ Mine.hd.heap_39 = Mine.hd.heap_39 := (by (k_fill; exact ⟨rfl, rfl⟩)); clear hfill)
  k_with_none
  k_with "call ref" => k_dflt (first
    | refine' use (c_buf _ _) ?k1 ?k2 ?k3 ?k4 ?k5 ?kK ?kd ?ku ?_; ((case k1 => k_asm); (case k2 => k_asm); (case k3 => k_asm); (case k4 => k_asm); (case k5 => k_asm); (case kK => first | exact rfl | assumption); (case kd => ktr_room); (case ku => ktr_units); intro tU9 hU9 tkU9 FU9 NU9; (try dsimp only); (try k_fold))
    | refine' use c_truth ?k1 ?k2 ?k3 ?k4 ?k5 ?kK ?kd ?ku ?_; ((case k1 => k_asm); (case k2 => k_asm); (case k3 => k_asm); (case k4 => k_asm); (case k5 => k_asm); (case kK => first | exact rfl | assumption); (case kd => ktr_room); (case ku => ktr_units); intro tU9 hU9 tkU9 FU9 NU9; (try dsimp only); (try k_fold)))
  k_with "pyIter bytes" => (k_of "b" => k_state (fun pre out lb lc => EInv pre out lb lc) "out" "leftbits" "leftchar")
  k_with "exec Assign" => ((fail_if_success (with_reducible rename Seen 1 => mk9)); (rename _ = _ ++ _ :: _ => kE); (with_reducible rename EInv _ _ _ _ => kI); (have kQ := kI); (have kQ2 : _ ∧ _ := kQ); (obtain ⟨kI1, kI2, kI3, kI4, kI5, kI6, kI7⟩ := kQ2); (have mk1 := seen 1); (rcases kI2 with rfl | rfl | rfl))
  k_with "subscriptTail" => ((with_reducible show wpAny _ _ (subscriptTail _ _ (Value.bytes _ _) (Value.int _ _)) _ _ _); (refine KBw.item_K sgL_eq (by decide) (band63 _).1 (band63 _).2 ?_); intro t9 k9 hlo9 hhi9)
  k_with "isTrue Compare" => ((fail_if_success (with_reducible rename Seen 1 => mk9)); (fail_if_success (with_reducible rename Seen 2 => mk9)); (fail_if_success (rename _ = _ ++ _ :: _ => kE)); (with_reducible rename EInv _ _ _ _ => kI); (have kQ := efacts2 hl hl' kI); (obtain ⟨kJ1, kJ2, kJ3, kJ4⟩ := kQ); (have mk2 := seen 2))
  k_with "state" => first | exact einv0 | with_reducible exact est0 (by assumption) (by assumption) (by assumption) | with_reducible exact est2 (by assumption) (by assumption) (by assumption) | with_reducible exact est4 (by assumption) (by assumption) (by assumption)
  have hI0 : IntsAre ([] : List Value) ([] : List Int) := .nil
  have hS := sgL_eq
  unfold Gives
  intros
  rename_i hret
  refine wpAny_call ?_
  k_dflt ((refine' code_def ?k1 ?k2 ?k3 ?k4 ?k5 ?kA ?kF ?kK ?k6 ?k7 ?k8 ?k9 ?kB ?_ ?c2 ?c3 ?c4 ?c5; (case kA => exact rfl); (case kF => exact rfl); (case kK => first | assumption | exact rfl); (case k1 => k_asm); (case k2 => k_asm); (case k3 => k_asm); (case k4 => k_asm); (case k5 => k_asm); (case k6 => k_is); (case k7 => k_is); (case k8 => ktr_room); (case k9 => first | exact BindsTo.of_eq rfl | exact binds_K (by k_in) rfl (by k_is) rfl rfl rfl); (case c5 => decide); (case kB => exact locs rfl); (case c2 => exact rfl); (case c3 => exact rfl); (case c4 => exact rfl); k_whole; intro gV9 LV9 hV9 FGV9 FV9 NV9 BV9 XV9 TV9; (try dsimp only); (try k_lift BV9); (try k_fold)))
  k_steps
  all_goals (refine retY hret (congrArg byteArr ?_) (by k_asm) (by (first | k_asm | (refine' cb_drop ?cbN ?cbS; (case cbN => assumption); (case cbS => (intro p hp; repeat (first | exact hp | apply List.Mem.tail)))))))
  all_goals exact kJ4

theorem band4095 (x : Int) : Builtin.bitAnd x 4095 = x % 4096 := kbt_mask x 12
theorem band_even (x y : Int) : Builtin.bitAnd x (2 * y) = 2 * Builtin.bitAnd (x / 2) y := by
  rw [kbt_halves]
  have h1 : 2 * y / 2 = y := Int.mul_ediv_cancel_left _ (by decide)
  have h2 : ¬ (x % 2 = 1 ∧ 2 * y % 2 = 1) := fun h => by rw [Int.mul_emod_right] at h; exact absurd h.2 (by decide)
  rw [h1, if_neg h2]; omega
theorem band_pow (y : Int) : ∀ (n : Nat) (x : Int), Builtin.bitAnd x (2 ^ n * y) = 2 ^ n * Builtin.bitAnd (x / 2 ^ n) y
  | 0, x => by rw [Int.pow_zero, Int.one_mul, Int.one_mul, Int.ediv_one]
  | n + 1, x => by
    rw [Int.pow_succ, Int.mul_comm _ 2, Int.mul_assoc, band_even, band_pow y n (x / 2), Int.ediv_ediv_of_nonneg (by decide), Int.mul_assoc]
theorem band61440 (x : Int) : Builtin.bitAnd x 61440 = x / 4096 % 16 * 4096 := by
  rw [show (61440 : Int) = 2 ^ 12 * 15 from rfl, band_pow, bitAnd_m4, Int.mul_comm]
  rfl
theorem c_mode {w mean mg mb} (x : Int) (t : Tok) : Gives 2 w mean mg mb 116 [.int x t] (fun t => .int (x % 4096) t) := by
  rw [← band4095 x]
  (w_top off; have hfill : PySem.Challenge.rw_op0010_01 = PySem.Challenge.rw_op0010_01 ∧ Mine.hd.heap_39 = Mine.hd.heap_39 := (by (k_fill; exact ⟨rfl, rfl⟩)); clear hfill)
  k_with_none
  unfold Gives
  intros
  rename_i hret
  refine wpAny_call ?_
  k_dflt ((refine' code_def ?k1 ?k2 ?k3 ?k4 ?k5 ?kA ?kF ?kK ?k6 ?k7 ?k8 ?k9 ?kB ?_ ?c2 ?c3 ?c4 ?c5; (case kA => exact rfl); (case kF => exact rfl); (case kK => first | assumption | exact rfl); (case k1 => k_asm); (case k2 => k_asm); (case k3 => k_asm); (case k4 => k_asm); (case k5 => k_asm); (case k6 => k_is); (case k7 => k_is); (case k8 => ktr_room); (case k9 => first | exact BindsTo.of_eq rfl | exact binds_K (by k_in) rfl (by k_is) rfl rfl rfl); (case c5 => decide); (case kB => exact locs rfl); (case c2 => exact rfl); (case c3 => exact rfl); (case c4 => exact rfl); k_whole; intro gV9 LV9 hV9 FGV9 FV9 NV9 BV9 XV9 TV9; (try dsimp only); (try k_lift BV9); (try k_fold)))
  k_steps
  all_goals exact hret _ _ _ (by k_asm) (by k_asm)
theorem c_fmt {w mean mg mb} (x : Int) (t : Tok) : Gives 2 w mean mg mb 123 [.int x t] (fun t => .int (x / 4096 % 16 * 4096) t) := by
  rw [← band61440 x]
  (w_top off; have hfill : PySem.Challenge.rw_op0010_01 = PySem.Challenge.rw_op0010_01 ∧ Mine.hd.heap_39 = Mine.hd.heap_39 := (by (k_fill; exact ⟨rfl, rfl⟩)); clear hfill)
  k_with_none
  unfold Gives
  intros
  rename_i hret
  refine wpAny_call ?_
  k_dflt ((refine' code_def ?k1 ?k2 ?k3 ?k4 ?k5 ?kA ?kF ?kK ?k6 ?k7 ?k8 ?k9 ?kB ?_ ?c2 ?c3 ?c4 ?c5; (case kA => exact rfl); (case kF => exact rfl); (case kK => first | assumption | exact rfl); (case k1 => k_asm); (case k2 => k_asm); (case k3 => k_asm); (case k4 => k_asm); (case k5 => k_asm); (case k6 => k_is); (case k7 => k_is); (case k8 => ktr_room); (case k9 => first | exact BindsTo.of_eq rfl | exact binds_K (by k_in) rfl (by k_is) rfl rfl rfl); (case c5 => decide); (case kB => exact locs rfl); (case c2 => exact rfl); (case c3 => exact rfl); (case c4 => exact rfl); k_whole; intro gV9 LV9 hV9 FGV9 FV9 NV9 BV9 XV9 TV9; (try dsimp only); (try k_lift BV9); (try k_fold)))
  k_steps
  all_goals exact hret _ _ _ (by k_asm) (by k_asm)

section
variable {prog : Program} {w : World} {A : Around} {E : Value → Shared → Prop} {s : Shared} {env : Env} {h₀ : Heap} {x : Str} {px pos : Pos} {iter : Expr} {body : List Stmt} {Q : Flow → Shared → Prop}

/-- the end of a turn of my loop over a range: the frame is as it was, the ledger is one that J names -/
def TurnEnd (h₀ : Heap) (L : Addr) (m : Str → Option Value) (J : List (Addr × Obj) → Prop) (own : List (Addr × Obj)) (s₁ : Shared) (f : Flow) (s₂ : Shared) : Prop :=
  f = .next ∧ ∃ h' tk nx, s₂ = { s₁ with heap := h', toks := tk } ∧ Fr h₀ L h' m ∧ News h₀ L h' (nx ++ own) ∧ J nx
theorem TurnEnd.intro {h₀ : Heap} {L : Addr} {m : Str → Option Value} {J : List (Addr × Obj) → Prop} {own nw : List (Addr × Obj)} {s₁ : Shared} {h' : Heap} {tk : Nat} (F : Fr h₀ L h' m) (N : News h₀ L h' nw) (nx : List (Addr × Obj)) (hj : J nx) (hn : ∀ p ∈ nx ++ own, p ∈ nw) :
    TurnEnd h₀ L m J own s₁ .next { s₁ with heap := h', toks := tk } := ⟨rfl, h', tk, nx, rfl, F, fun p hp => N p (hn p hp), hj⟩

/-- a for over range(n) whose target is any name -/
inductive LoopR (prog : Program) (w : World) (A : Around) (h₀ : Heap) (env : Env) (x : Str) (body : List Stmt) (Q : Flow → Shared → Prop) (xv : Value) (s₁ : Shared) : Prop
  | mk (r : Addr) (t u v : Tok) (n : Nat) (m : Str → Option Value) (news : List (Addr × Obj)) (J : Nat → List (Addr × Obj) → Prop) (e : xv = .ref r) (hh : A.handled = none) (hr : IsRange s₁.heap r 0 (n : Int) 1 t u v) (hsm : Builtin.Range.small 0 (n : Int) 1 = true) (hn : Builtin.Range.rangeSize 0 (n : Int) 1 = (n : Int))
    (F : Fr h₀ env.locals s₁.heap m) (N : News h₀ env.locals s₁.heap news) (hj : J 0 news) (hadr : ∀ i nx, J i nx → nx.map (·.1) = news.map (·.1))
    (turn : ∀ i t nx h tk own, i < n → J i nx → OwnOff own (news.map (·.1)) → Fr h₀ env.locals h m → News h₀ env.locals h (nx ++ own) →
      wpAny (model prog w) A (storeName env x (.int (i : Int) t)) (fun _ s₂ => wpAny (model prog w) A (execs body env) (TurnEnd h₀ env.locals m (J (i + 1)) own { s₁ with heap := h, toks := tk }) (fun _ _ => False) s₂) (fun _ _ => False) { s₁ with heap := h, toks := tk })
    (done : ∀ h tk nx, J n nx → Fr h₀ env.locals h m → News h₀ env.locals h nx → Q .next { s₁ with heap := h, toks := tk }) : LoopR prog w A h₀ env x body Q xv s₁
/-- what stands between two turns -/
inductive RInv (h₀ : Heap) (L : Addr) (m : Str → Option Value) (J : Nat → List (Addr × Obj) → Prop) (n : Nat) (s₁ : Shared) (k : Nat) (s' : Shared) : Prop
  | mk (h' : Heap) (tk : Nat) (nx : List (Addr × Obj)) (i : Nat) (e : s' = { s₁ with heap := h', toks := tk }) (hst : IsRangeIter h' s₁.heap.objs.size ((0 : Int) + (i : Nat) * 1) ((n : Int) - (i : Nat)) 1) (F : Fr h₀ L h' m) (N : News h₀ L h' nx) (hJ : J i nx) (hi : i ≤ n) (hk : k = n + 1 - i) : RInv h₀ L m J n s₁ k s'

theorem For_R {m : Str → Option Value} (_F : Fr h₀ env.locals s.heap m) (h : wpAny (model prog w) A (eval iter env) (LoopR prog w A h₀ env x body Q) E s)
    (hs : ∀ x, foldedSetIterable iter env x = pure x := by intro _; rfl) : wpAny (model prog w) A (exec (.For (.Name x px) iter body [] pos) env) Q E s := by
  refine wpAny_For (wpAny_mono h (fun xv s₁ h₁ => ?_) fun _ _ e => e) hs
  obtain ⟨r, t, u, v, n, m, news, J, rfl, hh, hr, hsm, hn, F, N, hj, hadr, turn, done⟩ := h₁
  refine wpAny_pyIter_range hr hsm ?_
  have W := LCg.range_walks (prog := prog) (w := w) (I := s₁.heap.objs.size) hh 0 n
  have hLI : env.locals ≠ s₁.heap.objs.size := Nat.ne_of_lt F.ns.lt
  have hI₀ : h₀.get? s₁.heap.objs.size = none := next_is_new F
  have hNI : ∀ p ∈ news, p.1 ≠ s₁.heap.objs.size := fun p hp => Nat.ne_of_lt (Heap.lt_size (N p hp).1)
  have hNI' : ∀ i nx, J i nx → ∀ p ∈ nx, p.1 ≠ s₁.heap.objs.size := fun i nx hJ p hp => by
    have : p.1 ∈ news.map (·.1) := hadr i nx hJ ▸ List.mem_map.mpr ⟨p, hp, rfl⟩
    obtain ⟨q, hq, e⟩ := List.mem_map.mp this
    exact e ▸ hNI q hq
  refine codeAny_forLoop
    (RInv h₀ env.locals m J n s₁) ?_ (n + 1)
    ⟨_, _, news, 0, rfl, (by rw [hn]; simpa using Heap.get?_push_size _ rfl), F.push _, fun p hp => ⟨Heap.get?_push_of_some _ (N p hp).1, (N p hp).2⟩, hj, Nat.zero_le _, rfl⟩
  rintro k s' ⟨h', tk, nx, i, rfl, hst, F', N', hJ, hi, rfl⟩
  have nxt : ∀ h₁ : Heap, (∀ b o, b ∉ [s₁.heap.objs.size] → h'.get? b = some o → h₁.get? b = some o) → Fr h₀ env.locals h₁ m ∧ News h₀ env.locals h₁ nx := fun h₁ hk₁ =>
    ⟨LCg.fr_but F' hk₁ hLI hI₀, LCg.news_but N' hk₁ (hNI' i nx hJ)⟩
  by_cases hlt : i < n
  · refine W.item i _ _ _ hlt hst fun v h₁ tk₁ hP hst₁ hk₁ => ?_
    obtain ⟨F₁, N₁⟩ := nxt h₁ hk₁
    obtain ⟨tv, rfl⟩ := hP
    refine wpAny_assign_Name ?_
    have hst₁' : IsRangeIter h₁ s₁.heap.objs.size ((0 : Int) + ((i + 1 : Nat) : Int) * 1) ((n : Int) - ((i + 1 : Nat) : Int)) 1 := hst₁
    have hown : News h₀ env.locals h₁ (nx ++ [(s₁.heap.objs.size, _)]) := fun p hp => by
      rcases List.mem_append.mp hp with hp | hp
      · exact N₁ p hp
      · rw [List.mem_singleton.mp hp]
        exact ⟨hst₁', Ne.symm hLI, hI₀⟩
    have ht := turn i tv nx h₁ tk₁ [(s₁.heap.objs.size, _)] hlt hJ (by
      intro p hp b hb
      rw [List.mem_singleton.mp hp]
      obtain ⟨q, hq, e⟩ := List.mem_map.mp hb
      exact e ▸ Ne.symm (hNI q hq)) F₁ hown
    have e0 : (0 : Int) + (i : Int) = (i : Int) := by omega
    rw [e0]
    refine wpAny_mono ht (fun _ s₂ h₂ => wpAny_mono h₂ (fun f s₃ h₃ => ?_) fun _ _ e => e.elim) fun _ _ e => e.elim
    obtain ⟨rfl, h₃', tk₃, nx₃, rfl, F₃, N₃, hJ₃⟩ := h₃
    refine ⟨n + 1 - (i + 1), by clear hst hst₁ hst₁' e0 hLI; omega, ?_⟩
    exact ⟨h₃', tk₃, nx₃, i + 1, rfl, (N₃ _ (List.mem_append_right _ (.head _))).1, F₃, fun p hp => N₃ p (List.mem_append_left _ hp), hJ₃, hlt, rfl⟩
  · have hin : i = n := by omega
    subst hin
    refine W.done _ _ _ hst fun h₁ tk₁ hk₁ => wpAny_execs_nil ?_
    obtain ⟨F₁, N₁⟩ := nxt h₁ hk₁
    exact done h₁ tk₁ nx hJ F₁ N₁

theorem updF_adr {d : Addr} {o : Obj} {news : List (Addr × Obj)} {g : Obj → List (Addr × Obj)} (U : UpdF d o news g) (o' : Obj) : (g o').map (·.1) = news.map (·.1) := by
  obtain ⟨pre, post, rfl, hg, _, _⟩ := U.split
  rw [hg]; simp
/-- what the columns' loop keeps -/
def ColJ (g : Nat → Int) (G : Obj → Obj → List (Addr × Obj)) (i : Nat) (nx : List (Addr × Obj)) : Prop :=
  ∃ (vs : List Value) (ln : Nat) (oc : Obj) (v : Option Value), nx = G oc (listOf vs.toArray ln) ∧ IntsAre vs ((List.range i).map g) ∧ oc.data = .cell v
theorem LoopR.cols {L lc cc r : Addr} {ln0 n : Nat} {oc0 : Obj} {v0 : Option Value} {t u v : Tok} {s₁ : Shared} {news : List (Addr × Obj)} {m : Str → Option Value} (g : Nat → Int) {G1 : Obj → List (Addr × Obj)} {G2 : Obj → Obj → List (Addr × Obj)}
    (hL : env.locals = L) (hh : A.handled = none) (hlc : m (Str.ofString "columns") = some (.ref lc)) (hcc : env.cells.lookup x = some cc) (hr : IsRange s₁.heap r 0 (n : Int) 1 t u v) (hsm : Builtin.Range.small 0 (n : Int) 1 = true) (hn : Builtin.Range.rangeSize 0 (n : Int) 1 = (n : Int))
    (F : Fr h₀ L s₁.heap m) (N : News h₀ L s₁.heap news) (U1 : UpdF cc oc0 news G1) (hd : oc0.data = .cell v0) (U2 : ∀ o, UpdF lc (listOf #[] ln0) (G1 o) (G2 o))
    (turn : ∀ i t vs ln oc v h tk own, i < n → IntsAre vs ((List.range i).map g) → oc.data = .cell v → OwnOff own (news.map (·.1)) → Fr h₀ L h m → News h₀ L h (G2 oc (listOf vs.toArray ln) ++ own) →
      wpAny (model prog w) A (storeName env x (.int (i : Int) t)) (fun _ s₂ => wpAny (model prog w) A (execs body env) (TurnEnd h₀ L m (ColJ g G2 (i + 1)) own { s₁ with heap := h, toks := tk }) (fun _ _ => False) s₂) (fun _ _ => False) { s₁ with heap := h, toks := tk })
    (done : ∀ h tk vs ln oc v, IntsAre vs ((List.range n).map g) → oc.data = .cell v → Fr h₀ L h m → News h₀ L h (G2 oc (listOf vs.toArray ln)) → Q .next { s₁ with heap := h, toks := tk }) :
    LoopR prog w A h₀ env x body Q (.ref r) s₁ := by
  subst hL
  have e1 : G2 oc0 (listOf #[] ln0) = news := by
    obtain ⟨pre, post, e, hg, _, _⟩ := U1.split
    obtain ⟨pre', post', e', hg', _, _⟩ := (U2 oc0).split
    rw [hg', ← e', hg, e]
  refine ⟨r, t, u, v, n, m, news, ColJ g G2, rfl, hh, hr, hsm, hn, F, N, ⟨[], ln0, oc0, v0, e1.symm, .nil, hd⟩, ?_, ?_, ?_⟩
  · rintro i nx ⟨vs, ln, oc, v, rfl, _, _⟩
    rw [updF_adr (U2 oc), updF_adr U1]
  · rintro i t nx h tk own hi ⟨vs, ln, oc, v, rfl, hI, hd'⟩ hoff F' N'
    exact turn i t vs ln oc v h tk own hi hI hd' hoff F' N'
  · rintro h tk nx ⟨vs, ln, oc, v, rfl, hI, hd'⟩ F' N'
    exact done h tk vs ln oc v hI hd' F' N'
theorem TurnEnd.cols {L : Addr} {m : Str → Option Value} {g : Nat → Int} {G : Obj → Obj → List (Addr × Obj)} {i : Nat} {own nw : List (Addr × Obj)} {s₁ : Shared} {h' : Heap} {tk : Nat} {its : Array Value} {ln : Nat} {oc : Obj} {v : Option Value}
    (F : Fr h₀ L h' m) (N : News h₀ L h' nw) (hn : ∀ p ∈ G oc (listOf its ln) ++ own, p ∈ nw) (hd : oc.data = .cell v) (hI : IntsAre its.toList ((List.range (i + 1)).map g)) :
    TurnEnd h₀ L m (ColJ g G (i + 1)) own s₁ .next { s₁ with heap := h', toks := tk } := TurnEnd.intro F N _ ⟨its.toList, ln, oc, v, by rw [Array.toArray_toList], hI, hd⟩ hn
theorem cols_push {g : Nat → Int} {i : Nat} {vs : List Value} {t : Tok} (hI : IntsAre vs ((List.range i).map g)) : IntsAre (vs.toArray.push (.int (g i) t)).toList ((List.range (i + 1)).map g) := by
  rw [List.range_succ, List.map_append, Array.toList_push]
  exact IntsAre.append hI (.cons _ _ .nil)
end

def stBody : Stmt → List Stmt
  | .FunctionDef _ _ b _ _ _ _ _ _ _ => b
  | .For _ _ b _ _ => b
  | _ => []
def stScope (S : Scope) : Stmt → Scope
  | .FunctionDef _ _ _ _ _ _ sc _ _ _ => sc
  | _ => S
def stAt (l : List Stmt) (k : Nat) : Stmt := l.getD k (.Pass ⟨0, 0, 0, 0⟩)
def pDef : Stmt := stAt PySem.Challenge.pw_op0010_01.main.body 25
def pScope : Scope := stScope PySem.Challenge.pw_op0010_01.main.scope pDef
def pBody : List Stmt := stBody pDef
def pTurn : List Stmt := stBody (stAt pBody 7)
def pRest : List Stmt := pBody.drop 7
def pTail : List Stmt := pBody.drop 8
def pTurn2 : List Stmt := stBody (stAt pTail 4)
def stTgt (e : Expr) : Stmt → Expr
  | .For t _ _ _ _ => t
  | _ => e
def pTgt : Expr := stTgt (.Name (Str.ofString "x") ⟨0, 0, 0, 0⟩) (stAt pTail 4)

/-- one turn of the comprehension of a column: j is taken or not -/
def colG (f s : List Int) (c : Int) (l : List Int) (j : Int) : List Int :=
  if 0 ≤ c - j ∧ c - j < 12 then l ++ [(f.getD (11 - c + j).toNat 0 - 65) * (s.getD (3 - j).toNat 0 - 65)] else l
def colV (f s : List Int) (c : Int) : Int := ((rangeKs 0 4).foldl (colG f s c) []).sum
abbrev colsK (f s : List Int) : List Int := (List.range 16).map fun (i : Nat) => colV f s (i : Int)
theorem colG_grows (f s : List Int) (c : Int) : KPfGrows (colG f s c) := by
  intro l k
  unfold colG
  split
  · rw [List.length_append, List.length_singleton]; omega
  · omega
theorem colG_yes {f s : List Int} {c j : Int} {l : List Int} (h1 : 0 ≤ c - j) (h2 : c - j < 12) : colG f s c l j = l ++ [(f.getD (11 - c + j).toNat 0 - 65) * (s.getD (3 - j).toNat 0 - 65)] := if_pos ⟨h1, h2⟩
theorem colG_no {f s : List Int} {c j : Int} {l : List Int} (h : ¬ (0 ≤ c - j ∧ c - j < 12)) : colG f s c l j = l := if_neg h
theorem word_len {n s : Nat} (h : n < 16 ^ s) : (wordK n s).length = s := by
  have := apK_len s n h
  unfold wordK
  rw [List.length_append, List.length_replicate]; omega
theorem word_in (n s : Nat) : ∀ k ∈ wordK n s, 65 ≤ k ∧ k ≤ 80 := by
  intro k hk
  rcases List.mem_append.mp hk with hk | hk
  · rw [(List.mem_replicate.mp hk).2]; decide
  · exact apK_in n k hk
theorem word_ints (n s : Nat) : KBw.bInts (byteArr (wordK n s)) = wordK n s := KBa.ints_make fun k hk => by have := word_in n s k hk; omega
theorem word_b64 (n s : Nat) : ∀ k ∈ wordK n s, b64v k < 64 := fun k hk => by
  have := word_in n s k hk
  unfold b64v
  rw [if_pos (by omega)]; omega
theorem useC {w : World} {mean : ExcName → Option Value} {mg mb : Str → Option Value} {ns : List Int} (C : GivesC w mean mg mb ns)
    {l : Addr} {vs : List Value} {en : Nat} {news : List (Addr × Obj)} {dp un : Nat} {gd : Option (List Code)} {cn : Str} {cs : Scope} {a : Addr} {ccd : Value} {cl : List (Str × Addr)} {outer : List Env} {A₀ : Around} {base h₀ : Heap} {L : Addr} {m : Str → Option Value} {s : Shared} {Q E : Value → Shared → Prop}
    (B : Below A₀ base outer h₀) (F : Fr h₀ L s.heap m) (X : (Mine.hd.heap_39 w.params).In h₀) (N : News h₀ L s.heap ((l, listOf vs.toArray en) :: news)) (I : IntsAre vs ns) (T : Top Mine.hd.view_39 Lo mean mg mb h₀) (hk : cs.kind = .function)
    (hd : dp + 4 < recursionLimit) (hu : un + 16 * 4 < cLine)
    (ret : ∀ (D ra : Addr) (rvs : List Value) (dn rn : Nat) (t : Tok) (h' : Heap) (tk' : Nat), Fr h₀ L h' m → News h₀ L h' ((D, ({ cls := .type "tuple", data := .seq #[.bytes (byteArr (cfold ns).1) t, .ref ra] dn } : Obj)) :: (ra, listOf rvs.toArray rn) :: (l, listOf vs.toArray en) :: news) →
      IntsAre rvs (cfold ns).2.1 → (∀ p ∈ (l, listOf vs.toArray en) :: news, p.1 < ra) → ra < D → Q (.ref D) { s with heap := h', toks := tk' }) :
      wpAny (model PySem.Challenge.rw_op0010_01.row.prog w) (ktrTop dp un gd cn cs L a ccd cl outer) (call (.ref 144) [.ref l]) Q E s :=
  C _ _ _ _ _ _ _ _ _ _ _ _ _ _ _ _ _ _ _ _ _ B F X N I T hk hd hu ret
theorem item_last {prog : Program} {w : World} {A : Around} {E : Value → Shared → Prop} {s : Shared} {value slice : PySem.Expr} {l : Addr} {its : Array Value} {x : Value} {n : Nat} {u : Tok} {Q : Value → Shared → Prop} {h₀ : Heap} {L : Addr} {news : List (Addr × Obj)}
    (N : News h₀ L s.heap news) (hm : (l, listOf (its.push x) n) ∈ news) (hsz : its.size ≤ 1000) (h : Q x s)
    (hs : subscripted slice false (.ref l) (.int (-1) u) = operate [.ref l, .int (-1) u] (getItem (.ref l) (.int (-1) u)) := by with_unfolding_all rfl) :
    wpAny (model prog w) A (subscriptTail value slice (.ref l) (.int (-1) u)) Q E s := by
  have hl : s.heap.IsList l (its.push x) := ⟨_, N.get hm, rfl, _, rfl⟩
  refine tail_any hl.typeIs slot_list_getitem.lookup (wpAny_getItem_list_neg hl (by decide) ?_ (by decide) ?_ h) hs
  · rw [Array.size_push]; omega
  · have e : ((-1 : Int) + ((its.push x).size : Int)).toNat = its.size := by rw [Array.size_push]; omega
    rw [e]; simp
theorem num64_lo : ∀ (ks : List Int) (a : Int), (∀ k ∈ ks, b64v k < 64) → 0 ≤ a → 0 ≤ ks.foldl (fun n k => n * 64 + b64v k) a ∧ ks.foldl (fun n k => n * 64 + b64v k) a < (a + 1) * 64 ^ ks.length
  | [], a, _, h => by simp; omega
  | k :: r, a, hin, h => by
    have h1 := hin k (List.mem_cons_self ..)
    have h0 := b64v_lo k
    have h2 := num64_lo r (a * 64 + b64v k) (fun n hn => hin n (List.mem_cons_of_mem _ hn)) (by omega)
    rw [List.foldl_cons, List.length_cons]
    refine ⟨h2.1, Int.lt_of_lt_of_le h2.2 ?_⟩
    rw [Int.pow_succ]
    have hp : (0 : Int) ≤ 64 ^ r.length := Int.le_of_lt (pow_pos_of (by decide) _)
    have h3 : a * 64 + b64v k + 1 ≤ (a + 1) * 64 := by omega
    calc (a * 64 + b64v k + 1) * 64 ^ r.length ≤ ((a + 1) * 64) * 64 ^ r.length := Int.mul_le_mul_of_nonneg_right h3 hp
      _ = (a + 1) * (64 ^ r.length * 64) := by rw [Int.mul_assoc, Int.mul_comm 64]
theorem num64_bd {ks : List Int} (h : ∀ k ∈ ks, b64v k < 64) : 0 ≤ num64 ks ∧ num64 ks < 64 ^ ks.length := by
  have := num64_lo ks 0 h (by decide)
  rw [Int.zero_add, Int.one_mul] at this
  exact this
theorem num64_mul (x : Int) {ks : List Int} (h : ∀ k ∈ ks, b64v k < 64) (hl : ks.length = 4) : IntMulOk x (num64 ks) := by
  have := num64_bd h
  rw [hl] at this
  exact IntMulOk.of_right (intBits_le_64 (by omega) (by have e : (64 : Int) ^ 4 = 16777216 := rfl; omega))
def sgI (c : Int) : Int := sgL.getD c.toNat 0
/-- the octet that stands at place k of twelve -/
def octG (more k : Int) : Int := ((more.fdiv 48).fdiv (256 ^ (11 - k).toNat)).fmod 256
def octs (more : Int) : List Int := (rangeKs 0 12).map (octG more)
theorem sgI_in (R : List Int) : KBa.In (R.map sgI) := by
  intro k hk
  obtain ⟨c, _, rfl⟩ := List.mem_map.mp hk
  exact sg_in _
theorem octs_in (more : Int) : KBa.In (octs more) := by
  intro k hk
  obtain ⟨c, _, rfl⟩ := List.mem_map.mp hk
  exact ⟨fmod_lo _ (by decide), fmod_hi _ (by decide)⟩
theorem octs_len (more : Int) : (octs more).length = 12 := by simp [octs, rangeKs_length]
theorem sgL_b64 : ∀ d : Fin 64, b64v (sgL.getD d.val 0) = (d.val : Int) := by
  intro d
  have h : ∀ d : Fin 64, (if 65 ≤ sgL.getD d.val 0 ∧ sgL.getD d.val 0 ≤ 90 then sgL.getD d.val 0 - 65 else if 97 ≤ sgL.getD d.val 0 ∧ sgL.getD d.val 0 ≤ 122 then sgL.getD d.val 0 - 71 else if 48 ≤ sgL.getD d.val 0 ∧ sgL.getD d.val 0 ≤ 57 then sgL.getD d.val 0 + 4 else if sgL.getD d.val 0 = 43 then 62 else if sgL.getD d.val 0 = 47 then 63 else 64) = (d.val : Int) := by decide
  exact h d
theorem sgI_b64 {c : Int} (h0 : 0 ≤ c) (h1 : c < 64) : b64v (sgI c) = c := by
  obtain ⟨n, rfl⟩ := Int.eq_ofNat_of_zero_le h0
  have := sgL_b64 ⟨n, by omega⟩
  unfold sgI
  rw [Int.toNat_natCast]
  exact this
theorem sgI_v {R : List Int} (h : ∀ k ∈ R, 0 ≤ k ∧ k < 64) : ∀ k ∈ R.map sgI, b64v k < 64 := by
  intro k hk
  obtain ⟨c, hc, rfl⟩ := List.mem_map.mp hk
  rw [sgI_b64 (h c hc).1 (h c hc).2]
  exact (h c hc).2
theorem pow256_ok {n : Nat} (h : n ≤ 11) : (256 : Int) ^ n ≠ 0 ∧ ∀ x, Builtin.divisionGoesByPylong x ((256 : Int) ^ n) = false := by
  have g : ∀ d : Fin 12, ((256 : Int) ^ d.val).natAbs.log2 < 9000 := by decide +kernel
  exact ⟨Int.ne_of_gt (pow_pos_of (by decide) _), fun x => PyProof.noPylong_of_log2 (g ⟨n, Nat.lt_succ_of_le h⟩)⟩
def addG (X Y : List Int) (k : Int) : Int := X.getD (15 - k).toNat 0 + Y.getD (15 - k).toNat 0 - 130
def addK (X Y : List Int) : List Int := (rangeKs 0 16).map (addG X Y)
def sumG (R S T : List Int) (k : Int) : Int := R.getD k.toNat 0 + S.getD k.toNat 0 + T.getD k.toNat 0
def sumK (R S T : List Int) : List Int := (rangeKs 0 16).map (sumG R S T)
/-- a number that stands for what a row of carries is worth -/
structure Fits (n : Int) (R : List Int) : Prop where
  lo : 0 ≤ n
  hi : n < 2 ^ 120
  len : R.length = 16
  row : ∀ k ∈ R, 0 ≤ k ∧ k < 64
  num : n = 48 * num64 (R.map sgI)
  enc : enc (octs n) = R.map sgI
structure IsWord (X : List Int) : Prop where
  len : X.length = 16
  row : ∀ k ∈ X, 65 ≤ k ∧ k ≤ 80
theorem IsWord.b64 {X : List Int} (h : IsWord X) : ∀ k ∈ X, b64v k < 64 := fun k hk => by
  have := h.row k hk
  unfold b64v
  rw [if_pos (by omega)]; omega
theorem IsWord.at {X : List Int} (h : IsWord X) {k : Int} (h0 : 0 ≤ k) (h1 : k < 16) : 65 ≤ X.getD k.toNat 0 ∧ X.getD k.toNat 0 ≤ 80 := by
  have hlt : k.toNat < X.length := by rw [h.len]; omega
  rw [List.getD_eq_getElem?_getD, List.getElem?_eq_getElem hlt]
  exact h.row _ (List.getElem_mem hlt)
theorem add_nn {X Y : List Int} (hX : IsWord X) (hY : IsWord Y) : ∀ n ∈ addK X Y, 0 ≤ n := by
  intro n hn
  obtain ⟨k, hk, rfl⟩ := List.mem_map.mp hn
  have h := mem_rangeKs hk
  have h1 := hX.at (k := 15 - k) (by omega) (by omega)
  have h2 := hY.at (k := 15 - k) (by omega) (by omega)
  unfold addG
  omega
theorem item_ints {prog : Program} {w : World} {A : Around} {E : Value → Shared → Prop} {s : Shared} {value slice : PySem.Expr} {l : Addr} {vs : List Value} {ns : List Int} {n : Nat} {k : Int} {u : Tok} {Q : Value → Shared → Prop} {h₀ : Heap} {L : Addr} {news : List (Addr × Obj)}
    (N : News h₀ L s.heap news) (hm : (l, listOf vs.toArray n) ∈ news) (hI : IntsAre vs ns) (h0 : 0 ≤ k) (h1 : k < ns.length) (hsz : ns.length ≤ 1000) (h : ∀ t, Q (.int (ns.getD k.toNat 0) t) s)
    (hs : subscripted slice false (.ref l) (.int k u) = operate [.ref l, .int k u] (getItem (.ref l) (.int k u)) := by with_unfolding_all rfl) :
    wpAny (model prog w) A (subscriptTail value slice (.ref l) (.int k u)) Q E s := by
  have hl : s.heap.IsList l vs.toArray := ⟨_, N.get hm, rfl, _, rfl⟩
  have hlt : k.toNat < ns.length := by omega
  obtain ⟨t, hx⟩ := hI.get k.toNat (ns.getD k.toNat 0) (by rw [List.getD_eq_getElem?_getD, List.getElem?_eq_getElem hlt]; rfl)
  exact tail_any hl.typeIs slot_list_getitem.lookup (wpAny_getItem_list hl h0 (by omega) (by simpa using hx) (h t)) hs
theorem turn_mem {α : Type} {p a0 a1 a2 c1 c2 c3 b5 b4 b3 b2 b1 : α} {rest : List α} (hp : p ∈ b5 :: b4 :: b3 :: b2 :: b1 :: a1 :: rest) : p ∈ a0 :: a1 :: a2 :: c1 :: c2 :: c3 :: b5 :: b4 :: b3 :: b2 :: b1 :: rest := by
  rcases List.mem_append.mp (show p ∈ [b5, b4, b3, b2, b1] ++ a1 :: rest from hp) with hp | hp
  · exact List.mem_append_right [a0, a1, a2, c1, c2, c3] (List.mem_append_left rest hp)
  rcases List.mem_cons.mp hp with rfl | hp
  · exact .tail _ (.head _)
  · exact List.mem_append_right [a0, a1, a2, c1, c2, c3, b5, b4, b3, b2, b1] hp
theorem turn_news {h₀ h : Heap} {L wl rl ml : Addr} {ws rs ms : List Value} {y1 y2 y3 : Value} {n1 n2 n3 : Nat} {a0 a1 a2 b5 b4 b3 b2 b1 : Addr × Obj} {rest : List (Addr × Obj)}
    (N : News h₀ L h (a0 :: a1 :: a2 :: (wl, listOf (ws.toArray.push y1) n1) :: (rl, listOf (rs.toArray.push y2) n2) :: (ml, listOf (ms.toArray.push y3) n3) :: b5 :: b4 :: b3 :: b2 :: b1 :: rest)) :
    News h₀ L h ((wl, listOf (ws ++ [y1]).toArray n1) :: (rl, listOf (rs ++ [y2]).toArray n2) :: (ml, listOf (ms ++ [y3]).toArray n3) :: b5 :: b4 :: b3 :: b2 :: b1 :: a1 :: rest) := by
  refine fun p hp => N p ?_
  rw [List.push_toArray, List.push_toArray, List.push_toArray]
  rcases List.mem_cons.mp hp with rfl | hp; · exact .tail _ (.tail _ (.tail _ (.head _)))
  rcases List.mem_cons.mp hp with rfl | hp; · exact .tail _ (.tail _ (.tail _ (.tail _ (.head _))))
  rcases List.mem_cons.mp hp with rfl | hp; · exact .tail _ (.tail _ (.tail _ (.tail _ (.tail _ (.head _)))))
  exact turn_mem hp
theorem up_off {L wl rl ml r : Nat} (h1 : L + 1 + 1 + 1 + 1 + 1 < wl) (h2 : wl < rl) (h3 : rl < ml) (h : ml < r) : ∀ b ∈ [wl, rl, ml, L + 1 + 1 + 1 + 1 + 1, L + 1 + 1 + 1 + 1, L + 1 + 1 + 1, L + 1 + 1, L + 1], b < r := by
  intro b hb
  have e7 : rl < r := Nat.lt_trans h3 h
  have e6 : wl < r := Nat.lt_trans h2 e7
  have e5 : L + 1 + 1 + 1 + 1 + 1 < r := Nat.lt_trans h1 e6
  have e4 : L + 1 + 1 + 1 + 1 < r := Nat.lt_of_succ_lt e5
  have e3 : L + 1 + 1 + 1 < r := Nat.lt_of_succ_lt e4
  have e2 : L + 1 + 1 < r := Nat.lt_of_succ_lt e3
  have e1 : L + 1 < r := Nat.lt_of_succ_lt e2
  rcases List.mem_cons.mp hb with rfl | hb; · exact e6
  rcases List.mem_cons.mp hb with rfl | hb; · exact e7
  rcases List.mem_cons.mp hb with rfl | hb; · exact h
  rcases List.mem_cons.mp hb with rfl | hb; · exact e5
  rcases List.mem_cons.mp hb with rfl | hb; · exact e4
  rcases List.mem_cons.mp hb with rfl | hb; · exact e3
  rcases List.mem_cons.mp hb with rfl | hb; · exact e2
  rcases List.mem_cons.mp hb with rfl | hb; · exact e1
  cases hb
/-- what lies above the three lists is none of them, and no cell -/
theorem hi_off {L wl rl ml r : Nat} (h1 : L + 1 + 1 + 1 + 1 + 1 < wl) (h2 : wl < rl) (h3 : rl < ml) (h : ml < r) : ∀ b ∈ [wl, rl, ml, L + 1 + 1 + 1 + 1 + 1, L + 1 + 1 + 1 + 1, L + 1 + 1 + 1, L + 1 + 1, L + 1], r ≠ b :=
  fun b hb => Nat.ne_of_gt (up_off h1 h2 h3 h b hb)

/-- the value of a row of digits, the least first -/
def val (B : Int) : List Int → Int
  | [] => 0
  | d :: r => d + B * val B r
def dgs : Int → List Int → List Int
  | _, [] => []
  | c, k :: r => (k + c) % 16 :: dgs ((k + c) / 16) r
def crs : Int → List Int → List Int
  | _, [] => []
  | c, k :: r => (k + c) / 16 :: crs ((k + c) / 16) r
def fin : Int → List Int → Int
  | c, [] => c
  | c, k :: r => fin ((k + c) / 16) r
theorem dgs_len : ∀ (c : Int) (ks : List Int), (dgs c ks).length = ks.length
  | _, [] => rfl
  | c, k :: r => by simp [dgs, dgs_len _ r]
theorem crs_len : ∀ (c : Int) (ks : List Int), (crs c ks).length = ks.length
  | _, [] => rfl
  | c, k :: r => by simp [crs, crs_len _ r]
theorem carry_val (B : Int) : ∀ (c : Int) (ks : List Int), val B ks + c + B * val B (crs c ks) = val B (dgs c ks) + 16 * val B (crs c ks) + fin c ks * B ^ ks.length
  | c, [] => by simp [val, dgs, crs, fin]
  | c, k :: r => by
    have ih := carry_val B ((k + c) / 16) r
    have h := Int.emod_add_mul_ediv (k + c) 16
    simp only [val, dgs, crs, fin, List.length_cons, Int.pow_succ]
    generalize (k + c) % 16 = d at *
    generalize (k + c) / 16 = q at *
    generalize val B r = v at *
    generalize val B (crs q r) = V at *
    generalize val B (dgs q r) = D at *
    generalize fin q r = f at *
    generalize B ^ r.length = P at *
    grind
theorem dgs_in : ∀ (c : Int) (ks : List Int), ∀ d ∈ dgs c ks, 0 ≤ d ∧ d < 16
  | _, [], d, h => nomatch h
  | c, k :: r, d, h => by
    rcases List.mem_cons.mp h with rfl | h
    · omega
    · exact dgs_in _ r d h
theorem crs_in : ∀ (c : Int) (ks : List Int), 0 ≤ c → c ≤ 60 → (∀ k ∈ ks, 0 ≤ k ∧ k ≤ 900) → ∀ d ∈ crs c ks, 0 ≤ d ∧ d ≤ 60
  | _, [], _, _, _, d, h => nomatch h
  | c, k :: r, h0, h1, hk, d, h => by
    have := hk k (List.mem_cons_self ..)
    rcases List.mem_cons.mp h with rfl | h
    · omega
    · exact crs_in _ r (by omega) (by omega) (fun x hx => hk x (List.mem_cons_of_mem _ hx)) d h
theorem val_bd (B : Int) (hB : 0 < B) : ∀ (ds : List Int), (∀ d ∈ ds, 0 ≤ d ∧ d < B) → 0 ≤ val B ds ∧ val B ds < B ^ ds.length
  | [], _ => by simp [val]
  | d :: r, h => by
    have h1 := h d (List.mem_cons_self ..)
    have h2 := val_bd B hB r (fun x hx => h x (List.mem_cons_of_mem _ hx))
    simp only [val, List.length_cons, Int.pow_succ]
    have h3 : B * val B r ≤ B * (B ^ r.length - 1) := Int.mul_le_mul_of_nonneg_left (by omega) (by omega)
    have h4 : 0 ≤ B * val B r := Int.mul_nonneg (by omega) h2.1
    have h5 : B * (B ^ r.length - 1) = B ^ r.length * B - B := by rw [Int.mul_sub, Int.mul_comm, Int.mul_one]
    omega
def digs : Nat → Int → List Int
  | 0, _ => []
  | s + 1, n => n % 16 :: digs s (n / 16)
theorem digs_len : ∀ (s : Nat) (n : Int), (digs s n).length = s
  | 0, _ => rfl
  | s + 1, n => by simp [digs, digs_len s]
theorem digs_in : ∀ (s : Nat) (n : Int), ∀ d ∈ digs s n, 0 ≤ d ∧ d < 16
  | 0, _, d, h => nomatch h
  | s + 1, n, d, h => by
    rcases List.mem_cons.mp h with rfl | h
    · omega
    · exact digs_in s _ d h
theorem digs_of : ∀ (ds : List Int), (∀ d ∈ ds, 0 ≤ d ∧ d < 16) → digs ds.length (val 16 ds) = ds
  | [], _ => rfl
  | d :: r, h => by
    have h1 := h d (List.mem_cons_self ..)
    have ih := digs_of r (fun x hx => h x (List.mem_cons_of_mem _ hx))
    simp only [val, List.length_cons, digs]
    have e1 : (d + 16 * val 16 r) % 16 = d := by omega
    have e2 : (d + 16 * val 16 r) / 16 = val 16 r := by omega
    rw [e1, e2, ih]
theorem val_digs : ∀ (s : Nat) (n : Int), 0 ≤ n → n < 16 ^ s → val 16 (digs s n) = n
  | 0, n, h0, h1 => by simp at h1; simp [digs, val]; omega
  | s + 1, n, h0, h1 => by
    have := val_digs s (n / 16) (by omega) (by rw [Int.pow_succ] at h1; omega)
    simp only [digs, val, this]
    omega
theorem word_digs : ∀ (s n : Nat), n < 16 ^ s → wordK n s = ((digs s n).map fun d => 65 + d).reverse
  | 0, n, h => by
    have : n = 0 := by simp at h; exact h
    subst this
    simp [wordK, apK_zero, digs]
  | s + 1, n, h => by
    simp only [digs, List.map_cons, List.reverse_cons]
    by_cases hn : n = 0
    · subst hn
      have ih := word_digs s 0 (Nat.pos_of_ne_zero (by simp))
      have e : ((0 : Nat) : Int) / 16 = ((0 : Nat) : Int) := by decide
      rw [e, ← ih]
      simp only [wordK, apK_zero, List.length_nil, Nat.sub_zero, List.append_nil]
      rw [List.replicate_succ']
      rfl
    · have ih := word_digs s (n / 16) (by rw [Nat.pow_succ] at h; omega)
      have e : ((n : Nat) : Int) / 16 = ((n / 16 : Nat) : Int) := by omega
      rw [e, ← ih]
      have hl := apK_len s (n / 16) (by rw [Nat.pow_succ] at h; omega)
      unfold wordK
      rw [apK_pos hn, List.length_append, List.length_singleton]
      have e2 : s + 1 - ((apK (n / 16)).length + 1) = s - (apK (n / 16)).length := by omega
      have e3 : ((n % 16 : Nat) : Int) = (n : Int) % 16 := by omega
      rw [e2, e3, List.append_assoc]
theorem cfold_eq : ∀ (ks l r : List Int) (c : Int), ks.foldl cstep (l, r, c) = (((dgs c ks).map fun d => 65 + d).reverse ++ l, (crs c ks).reverse ++ r, fin c ks)
  | [], l, r, c => by simp [dgs, crs, fin]
  | k :: t, l, r, c => by
    rw [List.foldl_cons]
    have e1 : (k + c).fmod 16 = (k + c) % 16 := Int.fmod_eq_emod_of_nonneg _ (by decide)
    have e2 : (k + c).fdiv 16 = (k + c) / 16 := Int.fdiv_eq_ediv_of_nonneg _ (by decide)
    simp only [cstep, e1, e2]
    rw [cfold_eq t]
    simp [dgs, crs, fin]
theorem cfold_fst (ks : List Int) : (cfold ks).1 = ((dgs 0 ks).map fun d => 65 + d).reverse := by unfold cfold; rw [cfold_eq]; simp
theorem cfold_row (ks : List Int) : (cfold ks).2.1 = (crs 0 ks).reverse := by unfold cfold; rw [cfold_eq]; simp
theorem num64_rev (g : Int → Int) : ∀ (ds : List Int), (∀ d ∈ ds, b64v (g d) = d) → num64 (ds.map g).reverse = val 64 ds := by
  intro ds h
  unfold num64
  rw [List.foldl_reverse]
  induction ds with
  | nil => rfl
  | cons d r ih =>
    rw [List.map_cons, List.foldr_cons, ih (fun x hx => h x (List.mem_cons_of_mem _ hx)), h d (List.mem_cons_self ..)]
    simp only [val]; omega
theorem num64_word {s n : Nat} (h : n < 16 ^ s) : num64 (wordK n s) = val 64 (digs s n) := by
  rw [word_digs s n h]
  refine num64_rev _ _ fun d hd => ?_
  have := digs_in s n d hd
  unfold b64v
  rw [if_pos (by omega)]; omega
theorem dgs_word {ks : List Int} {P : Nat} (hl : ks.length = 16) (hv : val 16 ks = (P : Int)) (hP : P < 16 ^ 16) : dgs 0 ks = digs 16 P ∧ fin 0 ks = 0 := by
  have h1 := carry_val 16 0 ks
  have h2 := val_bd 16 (by decide) (dgs 0 ks) (dgs_in 0 ks)
  rw [dgs_len, hl] at h2
  rw [hl] at h1
  have e : (16 : Int) ^ 16 = 18446744073709551616 := by decide
  have e' : (16 : Nat) ^ 16 = 18446744073709551616 := by decide
  rw [e] at h1 h2
  rw [e'] at hP
  have hf : fin 0 ks = 0 := by omega
  rw [hf] at h1
  have hd : val 16 (dgs 0 ks) = (P : Int) := by omega
  refine ⟨?_, hf⟩
  have := digs_of (dgs 0 ks) (dgs_in 0 ks)
  rw [dgs_len, hl, hd] at this
  exact this.symm

def bytesOf : Nat → Int → List Int
  | 0, _ => []
  | n + 1, v => bytesOf n (v / 256) ++ [v % 256]
theorem sgI_def (c : Int) : sg c = sgI c := rfl
theorem estep0 (L : List Int) (lc x : Int) : estep (L, 0, lc) x = (L ++ [sg ((lc * 256 + x) % 65536 / 4 % 64)], 2, (lc * 256 + x) % 65536) := rfl
theorem estep2 (L : List Int) (lc x : Int) : estep (L, 2, lc) x = (L ++ [sg ((lc * 256 + x) % 65536 / 16 % 64)], 4, (lc * 256 + x) % 65536) := rfl
theorem estep4 (L : List Int) (lc x : Int) : estep (L, 4, lc) x = (L ++ [sg ((lc * 256 + x) % 65536 / 64 % 64), sg ((lc * 256 + x) % 65536 % 64)], 0, (lc * 256 + x) % 65536) := rfl
theorem md (y b : Int) {a : Int} (ha : 0 < a) : y % (a * b) / a = y / a % b := by
  rw [Int.emod_def, Int.emod_def, ← Int.ediv_ediv_of_nonneg (Int.le_of_lt ha), Int.sub_eq_add_neg, Int.mul_assoc, ← Int.mul_neg, Int.add_mul_ediv_left _ _ (Int.ne_of_gt ha)]
  rfl
theorem dd (t : Int) {a : Int} (b : Int) (ha : 0 ≤ a) : t / a / b = t / (a * b) := Int.ediv_ediv_of_nonneg ha
theorem mm (t : Int) {a b : Int} (h : b ∣ a) : t % a % b = t % b := Int.emod_emod_of_dvd t h
theorem ad (s v : Int) {a : Int} (ha : 0 < a) : (s + a * v) / a = s / a + v := Int.add_mul_ediv_left s v (Int.ne_of_gt ha)
theorem am (s v a : Int) : (s + a * v) % a = s % a := Int.add_mul_emod_self_left s a v
theorem sx0 (lc x : Int) (h : 0 ≤ x ∧ x < 256) : (lc * 256 + x) % 65536 / 4 % 64 = x / 4 := by
  rw [show (65536 : Int) = 4 * 16384 from rfl, md _ _ (by decide), mm _ (by decide), show lc * 256 + x = x + 4 * (64 * lc) by omega, ad _ _ (by decide), am]
  exact Int.emod_eq_of_lt (by omega) (by omega)
theorem sx1 (l x y : Int) (h : l % 16 = x) (hy : 0 ≤ y ∧ y < 256) : (l * 256 + y) % 65536 / 16 % 64 = x % 4 * 16 + y / 16 := by
  rw [show (65536 : Int) = 16 * 4096 from rfl, md _ _ (by decide), mm _ (by decide), show l * 256 + y = y + 16 * (16 * l) by omega, ad _ _ (by decide), ← h, mm _ (by decide)]
  have h1 : 0 ≤ y / 16 ∧ y / 16 < 16 := ⟨by omega, by omega⟩
  generalize y / 16 = z at *
  omega
theorem sx2 (l x y : Int) (h : l % 16 = x) (hy : 0 ≤ y ∧ y < 256) : (l * 256 + y) % 65536 / 64 % 64 = x * 4 + y / 64 := by
  rw [show (65536 : Int) = 64 * 1024 from rfl, md _ _ (by decide), mm _ (by decide), show l * 256 + y = y + 64 * (4 * l) by omega, ad _ _ (by decide), ← h]
  have h1 : 0 ≤ y / 64 ∧ y / 64 < 4 := ⟨by omega, by omega⟩
  generalize y / 64 = z at *
  omega
theorem sx3 (l y : Int) : (l * 256 + y) % 65536 % 64 = y % 64 := by
  rw [mm _ (by decide), show l * 256 + y = y + 64 * (4 * l) by omega, am]
theorem sx4 (l x : Int) : (l * 256 + x) % 65536 % 16 = x % 16 := by
  rw [mm _ (by decide), show l * 256 + x = x + 16 * (16 * l) by omega, am]
theorem dv (a b : Int) (h : 0 ≤ a ∧ a < 64) : (a + 64 * b) / 64 = b ∧ (a + 64 * b) % 64 = a := by
  rw [ad _ _ (by decide), am, Int.ediv_eq_zero_of_lt h.1 h.2, Int.emod_eq_of_lt h.1 h.2, Int.zero_add]
  exact ⟨rfl, rfl⟩
theorem dv4 (t : Int) : t / 65536 / 4 = t / 64 / 64 / 64 ∧ t / 65536 % 4 * 16 + t / 256 % 256 / 16 = t / 64 / 64 % 64 := by
  refine ⟨by rw [dd _ _ (by decide), dd _ _ (by decide), dd _ _ (by decide)]; rfl, ?_⟩
  rw [show t / 65536 = t / 256 / 16 / 16 by rw [dd _ _ (by decide), dd _ _ (by decide)]; rfl, show t / 64 / 64 = t / 256 / 16 by rw [dd _ _ (by decide), dd _ _ (by decide)]; rfl, show t / 256 % 256 / 16 = t / 256 / 16 % 16 from md (a := 16) _ 16 (by decide)]
  generalize t / 256 / 16 = u
  omega
theorem dv5 (t : Int) : t / 256 % 256 % 16 * 4 + t % 256 / 64 = t / 64 % 64 ∧ t % 256 % 64 = t % 64 := by
  refine ⟨?_, mm _ (by decide)⟩
  rw [mm _ (by decide), show t / 256 = t / 64 / 4 from (dd (a := 64) _ 4 (by decide)).symm, show t % 256 / 64 = t / 64 % 4 from md (a := 64) _ 4 (by decide)]
  generalize t / 64 = u
  omega
theorem dv6 (t : Int) (h : 0 ≤ t ∧ t < 16777216) : (0 ≤ t / 65536 ∧ t / 65536 < 256) ∧ (0 ≤ t / 256 % 256 ∧ t / 256 % 256 < 256) ∧ (0 ≤ t % 256 ∧ t % 256 < 256) :=
  ⟨⟨by omega, by omega⟩, ⟨Int.emod_nonneg _ (by decide), Int.emod_lt_of_pos _ (by decide)⟩, ⟨Int.emod_nonneg _ (by decide), Int.emod_lt_of_pos _ (by decide)⟩⟩
theorem four_bd {c0 c1 c2 c3 : Int} (h0 : 0 ≤ c0 ∧ c0 < 64) (h1 : 0 ≤ c1 ∧ c1 < 64) (h2 : 0 ≤ c2 ∧ c2 < 64) (h3 : 0 ≤ c3 ∧ c3 < 64) : 0 ≤ c0 + 64 * (c1 + 64 * (c2 + 64 * c3)) ∧ c0 + 64 * (c1 + 64 * (c2 + 64 * c3)) < 16777216 := ⟨by omega, by omega⟩
theorem enc_block (L : List Int) (lc c0 c1 c2 c3 t : Int) (h0 : 0 ≤ c0 ∧ c0 < 64) (h1 : 0 ≤ c1 ∧ c1 < 64) (h2 : 0 ≤ c2 ∧ c2 < 64) (h3 : 0 ≤ c3 ∧ c3 < 64) (ht : t = c0 + 64 * (c1 + 64 * (c2 + 64 * c3))) :
    ∃ lc', [t / 65536, t / 256 % 256, t % 256].foldl estep (L, 0, lc) = (L ++ [sgI c3, sgI c2, sgI c1, sgI c0], 0, lc') := by
  simp only [List.foldl_cons, List.foldl_nil, estep0, estep2, estep4]
  have q0 := dv c0 (c1 + 64 * (c2 + 64 * c3)) h0
  have q1 := dv c1 (c2 + 64 * c3) h1
  have q2 := dv c2 c3 h2
  rw [← ht] at q0
  obtain ⟨hx, hy, hz⟩ := dv6 t (ht ▸ four_bd h0 h1 h2 h3)
  have w := dv4 t
  have v := dv5 t
  rw [q0.1, q1.1, q2.1, q2.2] at w
  rw [q0.1, q1.2, q0.2] at v
  have m : t / 65536 % 16 % 4 = t / 65536 % 4 := Int.emod_emod_of_dvd _ (by decide)
  rw [sx0 _ _ hx, sx1 _ _ _ (sx4 _ _) hy, sx2 _ _ _ (sx4 _ _) hz, sx3, m, w.1, w.2, v.1, v.2]
  refine ⟨_, by simp only [sgI_def, List.append_assoc, List.cons_append, List.nil_append]; rfl⟩
theorem spl (s v : Int) (h : 0 ≤ s ∧ s < 16777216) : (s + 16777216 * v) / 256 / 256 / 256 = v ∧ (s + 16777216 * v) / 256 / 256 % 256 = s / 65536 := by
  refine ⟨?_, ?_⟩
  · rw [dd _ _ (by decide), dd _ _ (by decide)]
    show (s + 16777216 * v) / 16777216 = v
    rw [ad _ _ (by decide), Int.ediv_eq_zero_of_lt h.1 h.2, Int.zero_add]
  · rw [dd _ _ (by decide), show (16777216 : Int) = 256 * 256 * 256 from rfl, Int.mul_assoc, ad _ _ (by decide), am]
    exact Int.emod_eq_of_lt (by omega) (by omega)
theorem spl' (s v : Int) : (s + 16777216 * v) / 256 % 256 = s / 256 % 256 ∧ (s + 16777216 * v) % 256 = s % 256 := by
  rw [show (16777216 : Int) = 256 * (256 * 256) from rfl, Int.mul_assoc, ad _ _ (by decide), am, Int.mul_assoc, am]
  exact ⟨rfl, rfl⟩
theorem spl4 (c0 c1 c2 c3 v : Int) : c0 + 64 * (c1 + 64 * (c2 + 64 * (c3 + 64 * v))) = c0 + 64 * (c1 + 64 * (c2 + 64 * c3)) + 16777216 * v := by omega
theorem bytes_three (n : Nat) (v s : Int) (h : 0 ≤ s ∧ s < 16777216) : bytesOf (n + 1 + 1 + 1) (s + 16777216 * v) = bytesOf n v ++ [s / 65536, s / 256 % 256, s % 256] := by
  simp only [bytesOf]
  rw [(spl s v h).1, (spl s v h).2, (spl' s v).1, (spl' s v).2, List.append_assoc, List.append_assoc]
  rfl
theorem enc_bytes : ∀ (m : Nat) (ds : List Int), ds.length = 4 * m → (∀ d ∈ ds, 0 ≤ d ∧ d < 64) → ∃ lc, (bytesOf (3 * m) (val 64 ds)).foldl estep ([], 0, 0) = ((ds.map sgI).reverse, 0, lc)
  | 0, ds, h, _ => by
    have : ds = [] := List.length_eq_zero_iff.mp h
    subst this
    exact ⟨0, rfl⟩
  | m + 1, ds, h, hd => by
    match ds, h with
    | c0 :: c1 :: c2 :: c3 :: r, h =>
      have h0 := hd c0 (.head _); have h1 := hd c1 (.tail _ (.head _)); have h2 := hd c2 (.tail _ (.tail _ (.head _))); have h3 := hd c3 (.tail _ (.tail _ (.tail _ (.head _))))
      obtain ⟨lc, ih⟩ := enc_bytes m r (Nat.add_right_cancel (m := 4) h) (fun k hk => hd k (.tail _ (.tail _ (.tail _ (.tail _ hk)))))
      have e : bytesOf (3 * (m + 1)) (val 64 (c0 :: c1 :: c2 :: c3 :: r)) = bytesOf (3 * m) (val 64 r) ++ [(c0 + 64 * (c1 + 64 * (c2 + 64 * c3))) / 65536, (c0 + 64 * (c1 + 64 * (c2 + 64 * c3))) / 256 % 256, (c0 + 64 * (c1 + 64 * (c2 + 64 * c3))) % 256] := by
        rw [show 3 * (m + 1) = 3 * m + 1 + 1 + 1 from rfl, ← bytes_three _ _ _ (four_bd h0 h1 h2 h3), ← spl4]
        rfl
      rw [e, List.foldl_append, ih]
      obtain ⟨lc', hb⟩ := enc_block ((r.map sgI).reverse) lc c0 c1 c2 c3 _ h0 h1 h2 h3 rfl
      exact ⟨lc', by rw [hb]; simp only [List.map_cons, List.reverse_cons, List.append_assoc, List.cons_append, List.nil_append]⟩
theorem bytes_at : ∀ (n : Nat) (v : Int), bytesOf n v = (List.range n).reverse.map fun k => v / 256 ^ k % 256
  | 0, _ => rfl
  | n + 1, v => by
    rw [bytesOf, bytes_at n (v / 256), List.range_succ_eq_map, List.reverse_cons, List.map_append, ← List.map_reverse, List.map_map]
    refine congr (congrArg _ (List.map_congr_left fun k _ => ?_)) ?_
    · show v / 256 / 256 ^ k % 256 = v / 256 ^ (k + 1) % 256
      rw [Int.pow_succ, Int.mul_comm, Int.ediv_ediv_of_nonneg (by decide)]
    · show [v % 256] = [v / 1 % 256]
      rw [Int.ediv_one]
theorem octs_bytes (V : Int) : octs (48 * V) = bytesOf 12 V := by
  have h48 : (48 * V).fdiv 48 = V := by rw [Int.fdiv_eq_ediv_of_nonneg _ (by decide)]; exact Int.mul_ediv_cancel_left _ (by decide)
  have hg : ∀ k : Int, octG (48 * V) k = V / 256 ^ (11 - k).toNat % 256 := fun k => by
    unfold octG
    rw [h48, Int.fdiv_eq_ediv_of_nonneg _ (Int.le_of_lt (pow_pos_of (by decide) _)), Int.fmod_eq_emod_of_nonneg _ (by decide)]
  have e : rangeKs 0 12 = [0, 1, 2, 3, 4, 5, 6, 7, 8, 9, 10, 11] := by decide
  unfold octs
  rw [bytes_at, List.map_congr_left (fun k _ => hg k), e]
  rfl
/-- a row of carries, and what it is worth -/
theorem fits_of {ks : List Int} (hl : ks.length = 16) (hk : ∀ k ∈ ks, 0 ≤ k ∧ k ≤ 900) {P : Nat} (hv : val 16 ks = (P : Int)) (hP : P < 16 ^ 16) : Fits (val 64 (digs 16 P) - val 64 ks) (cfold ks).2.1 := by
  obtain ⟨hd, hf⟩ := dgs_word hl hv hP
  have hc := carry_val 64 0 ks
  have hin := crs_in 0 ks (by decide) (by decide) hk
  have hlen : (crs 0 ks).length = 16 := by rw [crs_len, hl]
  have hb := val_bd 64 (by decide) (crs 0 ks) (fun d hd => by have := hin d hd; omega)
  rw [hlen] at hb
  rw [hf, Int.zero_mul, Int.add_zero, Int.add_zero, hd] at hc
  have e : val 64 (digs 16 P) - val 64 ks = 48 * val 64 (crs 0 ks) := by omega
  have p64 : (64 : Int) ^ 16 = 79228162514264337593543950336 := by decide
  have p2 : (2 : Int) ^ 120 = 1329227995784915872903807060280344576 := by decide
  rw [e, cfold_row]
  have hmap : ((crs 0 ks).reverse).map sgI = ((crs 0 ks).map sgI).reverse := by rw [List.map_reverse]
  refine ⟨by omega, by rw [p2]; omega, by rw [List.length_reverse, hlen], fun k h => by have := hin k (List.mem_reverse.mp h); omega, ?_, ?_⟩
  · rw [hmap, num64_rev sgI (crs 0 ks) (fun d h => sgI_b64 (hin d h).1 (by have := hin d h; omega))]
  · rw [hmap, octs_bytes]
    obtain ⟨lc, h⟩ := enc_bytes 4 (crs 0 ks) hlen (fun d h => by have := hin d h; omega)
    unfold enc
    rw [show 12 = 3 * 4 from rfl, h]

/-- the columns of long multiplication -/
noncomputable def colT (a0 a1 a2 a3 a4 a5 a6 a7 a8 a9 a10 a11 b0 b1 b2 b3 : Int) : List Int := [a0 * b0 + 0, a1 * b0 + (a0 * b1 + 0), a2 * b0 + (a1 * b1 + (a0 * b2 + 0)), a3 * b0 + (a2 * b1 + (a1 * b2 + (a0 * b3 + 0))), a4 * b0 + (a3 * b1 + (a2 * b2 + (a1 * b3 + 0))), a5 * b0 + (a4 * b1 + (a3 * b2 + (a2 * b3 + 0))), a6 * b0 + (a5 * b1 + (a4 * b2 + (a3 * b3 + 0))), a7 * b0 + (a6 * b1 + (a5 * b2 + (a4 * b3 + 0))), a8 * b0 + (a7 * b1 + (a6 * b2 + (a5 * b3 + 0))), a9 * b0 + (a8 * b1 + (a7 * b2 + (a6 * b3 + 0))), a10 * b0 + (a9 * b1 + (a8 * b2 + (a7 * b3 + 0))), a11 * b0 + (a10 * b1 + (a9 * b2 + (a8 * b3 + 0))), a11 * b1 + (a10 * b2 + (a9 * b3 + 0)), a11 * b2 + (a10 * b3 + 0), a11 * b3 + 0, 0]
theorem cols_is (a0 a1 a2 a3 a4 a5 a6 a7 a8 a9 a10 a11 b0 b1 b2 b3 : Int) : colsK [65 + a11, 65 + a10, 65 + a9, 65 + a8, 65 + a7, 65 + a6, 65 + a5, 65 + a4, 65 + a3, 65 + a2, 65 + a1, 65 + a0] [65 + b3, 65 + b2, 65 + b1, 65 + b0] = colT a0 a1 a2 a3 a4 a5 a6 a7 a8 a9 a10 a11 b0 b1 b2 b3 := by
  have h : colsK [65 + a11, 65 + a10, 65 + a9, 65 + a8, 65 + a7, 65 + a6, 65 + a5, 65 + a4, 65 + a3, 65 + a2, 65 + a1, 65 + a0] [65 + b3, 65 + b2, 65 + b1, 65 + b0] = colT (65 + a0 - 65) (65 + a1 - 65) (65 + a2 - 65) (65 + a3 - 65) (65 + a4 - 65) (65 + a5 - 65) (65 + a6 - 65) (65 + a7 - 65) (65 + a8 - 65) (65 + a9 - 65) (65 + a10 - 65) (65 + a11 - 65) (65 + b0 - 65) (65 + b1 - 65) (65 + b2 - 65) (65 + b3 - 65) := rfl
  have g : ∀ x : Int, 65 + x - 65 = x := fun x => by omega
  simpa only [g] using h
theorem cols_val (B a0 a1 a2 a3 a4 a5 a6 a7 a8 a9 a10 a11 b0 b1 b2 b3 : Int) : val B (colT a0 a1 a2 a3 a4 a5 a6 a7 a8 a9 a10 a11 b0 b1 b2 b3) = val B [a0, a1, a2, a3, a4, a5, a6, a7, a8, a9, a10, a11] * val B [b0, b1, b2, b3] := by
  simp only [val, colT]
  grind

theorem mul_bd {a b : Int} (ha : 0 ≤ a ∧ a < 16) (hb : 0 ≤ b ∧ b < 16) : 0 ≤ a * b ∧ a * b ≤ 225 := by
  refine ⟨Int.mul_nonneg ha.1 hb.1, ?_⟩
  have h1 : a * b ≤ 15 * b := Int.mul_le_mul_of_nonneg_right (by omega) hb.1
  omega
theorem sm1 {p : Int} (hp : 0 ≤ p ∧ p ≤ 225) : 0 ≤ p + 0 ∧ p + 0 ≤ 225 := by rw [Int.add_zero]; exact hp
theorem sm2 {p s c d : Int} (hp : 0 ≤ p ∧ p ≤ 225) (hs : 0 ≤ s ∧ s ≤ c) (h : 225 + c ≤ d) : 0 ≤ p + s ∧ p + s ≤ d := ⟨Int.add_nonneg hp.1 hs.1, Int.le_trans (Int.add_le_add hp.2 hs.2) h⟩
theorem upto {x c : Int} (h : 0 ≤ x ∧ x ≤ c) (hc : c ≤ 900) : 0 ≤ x ∧ x ≤ 900 := ⟨h.1, Int.le_trans h.2 hc⟩
theorem cols_bd (a0 a1 a2 a3 a4 a5 a6 a7 a8 a9 a10 a11 b0 b1 b2 b3 : Int) (hA : ∀ d ∈ [a0, a1, a2, a3, a4, a5, a6, a7, a8, a9, a10, a11], 0 ≤ d ∧ d < 16) (hB : ∀ d ∈ [b0, b1, b2, b3], 0 ≤ d ∧ d < 16) : ∀ k ∈ colT a0 a1 a2 a3 a4 a5 a6 a7 a8 a9 a10 a11 b0 b1 b2 b3, 0 ≤ k ∧ k ≤ 900 := by
  have h0 := hA a0 (.head _)
  have h1 := hA a1 (.tail _ (.head _))
  have h2 := hA a2 (.tail _ (.tail _ (.head _)))
  have h3 := hA a3 (.tail _ (.tail _ (.tail _ (.head _))))
  have h4 := hA a4 (.tail _ (.tail _ (.tail _ (.tail _ (.head _)))))
  have h5 := hA a5 (.tail _ (.tail _ (.tail _ (.tail _ (.tail _ (.head _))))))
  have h6 := hA a6 (.tail _ (.tail _ (.tail _ (.tail _ (.tail _ (.tail _ (.head _)))))))
  have h7 := hA a7 (.tail _ (.tail _ (.tail _ (.tail _ (.tail _ (.tail _ (.tail _ (.head _))))))))
  have h8 := hA a8 (.tail _ (.tail _ (.tail _ (.tail _ (.tail _ (.tail _ (.tail _ (.tail _ (.head _)))))))))
  have h9 := hA a9 (.tail _ (.tail _ (.tail _ (.tail _ (.tail _ (.tail _ (.tail _ (.tail _ (.tail _ (.head _))))))))))
  have h10 := hA a10 (.tail _ (.tail _ (.tail _ (.tail _ (.tail _ (.tail _ (.tail _ (.tail _ (.tail _ (.tail _ (.head _)))))))))))
  have h11 := hA a11 (.tail _ (.tail _ (.tail _ (.tail _ (.tail _ (.tail _ (.tail _ (.tail _ (.tail _ (.tail _ (.tail _ (.head _))))))))))))
  have g0 := hB b0 (.head _)
  have g1 := hB b1 (.tail _ (.head _))
  have g2 := hB b2 (.tail _ (.tail _ (.head _)))
  have g3 := hB b3 (.tail _ (.tail _ (.tail _ (.head _))))
  exact List.forall_mem_cons.mpr ⟨upto (sm1 (mul_bd h0 g0)) (by decide), List.forall_mem_cons.mpr ⟨upto (sm2 (d := 450) (mul_bd h1 g0) (sm1 (mul_bd h0 g1)) (by decide)) (by decide), List.forall_mem_cons.mpr ⟨upto (sm2 (d := 675) (mul_bd h2 g0) (sm2 (d := 450) (mul_bd h1 g1) (sm1 (mul_bd h0 g2)) (by decide)) (by decide)) (by decide), List.forall_mem_cons.mpr ⟨upto (sm2 (d := 900) (mul_bd h3 g0) (sm2 (d := 675) (mul_bd h2 g1) (sm2 (d := 450) (mul_bd h1 g2) (sm1 (mul_bd h0 g3)) (by decide)) (by decide)) (by decide)) (by decide), List.forall_mem_cons.mpr ⟨upto (sm2 (d := 900) (mul_bd h4 g0) (sm2 (d := 675) (mul_bd h3 g1) (sm2 (d := 450) (mul_bd h2 g2) (sm1 (mul_bd h1 g3)) (by decide)) (by decide)) (by decide)) (by decide), List.forall_mem_cons.mpr ⟨upto (sm2 (d := 900) (mul_bd h5 g0) (sm2 (d := 675) (mul_bd h4 g1) (sm2 (d := 450) (mul_bd h3 g2) (sm1 (mul_bd h2 g3)) (by decide)) (by decide)) (by decide)) (by decide), List.forall_mem_cons.mpr ⟨upto (sm2 (d := 900) (mul_bd h6 g0) (sm2 (d := 675) (mul_bd h5 g1) (sm2 (d := 450) (mul_bd h4 g2) (sm1 (mul_bd h3 g3)) (by decide)) (by decide)) (by decide)) (by decide), List.forall_mem_cons.mpr ⟨upto (sm2 (d := 900) (mul_bd h7 g0) (sm2 (d := 675) (mul_bd h6 g1) (sm2 (d := 450) (mul_bd h5 g2) (sm1 (mul_bd h4 g3)) (by decide)) (by decide)) (by decide)) (by decide), List.forall_mem_cons.mpr ⟨upto (sm2 (d := 900) (mul_bd h8 g0) (sm2 (d := 675) (mul_bd h7 g1) (sm2 (d := 450) (mul_bd h6 g2) (sm1 (mul_bd h5 g3)) (by decide)) (by decide)) (by decide)) (by decide), List.forall_mem_cons.mpr ⟨upto (sm2 (d := 900) (mul_bd h9 g0) (sm2 (d := 675) (mul_bd h8 g1) (sm2 (d := 450) (mul_bd h7 g2) (sm1 (mul_bd h6 g3)) (by decide)) (by decide)) (by decide)) (by decide), List.forall_mem_cons.mpr ⟨upto (sm2 (d := 900) (mul_bd h10 g0) (sm2 (d := 675) (mul_bd h9 g1) (sm2 (d := 450) (mul_bd h8 g2) (sm1 (mul_bd h7 g3)) (by decide)) (by decide)) (by decide)) (by decide), List.forall_mem_cons.mpr ⟨upto (sm2 (d := 900) (mul_bd h11 g0) (sm2 (d := 675) (mul_bd h10 g1) (sm2 (d := 450) (mul_bd h9 g2) (sm1 (mul_bd h8 g3)) (by decide)) (by decide)) (by decide)) (by decide), List.forall_mem_cons.mpr ⟨upto (sm2 (d := 675) (mul_bd h11 g1) (sm2 (d := 450) (mul_bd h10 g2) (sm1 (mul_bd h9 g3)) (by decide)) (by decide)) (by decide), List.forall_mem_cons.mpr ⟨upto (sm2 (d := 450) (mul_bd h11 g2) (sm1 (mul_bd h10 g3)) (by decide)) (by decide), List.forall_mem_cons.mpr ⟨upto (sm1 (mul_bd h11 g3)) (by decide), List.forall_mem_cons.mpr ⟨⟨by decide, by decide⟩, List.forall_mem_nil _⟩⟩⟩⟩⟩⟩⟩⟩⟩⟩⟩⟩⟩⟩⟩⟩
theorem pk {P : List Int → Prop} {n : Nat} (H : ∀ a r, r.length = n → P (a :: r)) : ∀ l : List Int, l.length = n + 1 → P l
  | a :: r, h => H a r (Nat.succ.inj h)
theorem pz {P : List Int → Prop} (H : P []) : ∀ l : List Int, l.length = 0 → P l
  | [], _ => H
theorem l4 {P : List Int → Prop} (H : ∀ x0 x1 x2 x3 : Int, P [x0, x1, x2, x3]) (l : List Int) (h : l.length = 4) : P l :=
  pk (P := fun r => P (r)) (fun x0 r0 h0 => pk (P := fun r => P (x0 :: r)) (fun x1 r1 h1 => pk (P := fun r => P (x0 :: x1 :: r)) (fun x2 r2 h2 => pk (P := fun r => P (x0 :: x1 :: x2 :: r)) (fun x3 r3 h3 => pz (P := fun r => P (x0 :: x1 :: x2 :: x3 :: r)) (H x0 x1 x2 x3) r3 h3) r2 h2) r1 h1) r0 h0) l h
theorem l12 {P : List Int → Prop} (H : ∀ x0 x1 x2 x3 x4 x5 x6 x7 x8 x9 x10 x11 : Int, P [x0, x1, x2, x3, x4, x5, x6, x7, x8, x9, x10, x11]) (l : List Int) (h : l.length = 12) : P l :=
  pk (P := fun r => P (r)) (fun x0 r0 h0 => pk (P := fun r => P (x0 :: r)) (fun x1 r1 h1 => pk (P := fun r => P (x0 :: x1 :: r)) (fun x2 r2 h2 => pk (P := fun r => P (x0 :: x1 :: x2 :: r)) (fun x3 r3 h3 => pk (P := fun r => P (x0 :: x1 :: x2 :: x3 :: r)) (fun x4 r4 h4 => pk (P := fun r => P (x0 :: x1 :: x2 :: x3 :: x4 :: r)) (fun x5 r5 h5 => pk (P := fun r => P (x0 :: x1 :: x2 :: x3 :: x4 :: x5 :: r)) (fun x6 r6 h6 => pk (P := fun r => P (x0 :: x1 :: x2 :: x3 :: x4 :: x5 :: x6 :: r)) (fun x7 r7 h7 => pk (P := fun r => P (x0 :: x1 :: x2 :: x3 :: x4 :: x5 :: x6 :: x7 :: r)) (fun x8 r8 h8 => pk (P := fun r => P (x0 :: x1 :: x2 :: x3 :: x4 :: x5 :: x6 :: x7 :: x8 :: r)) (fun x9 r9 h9 => pk (P := fun r => P (x0 :: x1 :: x2 :: x3 :: x4 :: x5 :: x6 :: x7 :: x8 :: x9 :: r)) (fun x10 r10 h10 => pk (P := fun r => P (x0 :: x1 :: x2 :: x3 :: x4 :: x5 :: x6 :: x7 :: x8 :: x9 :: x10 :: r)) (fun x11 r11 h11 => pz (P := fun r => P (x0 :: x1 :: x2 :: x3 :: x4 :: x5 :: x6 :: x7 :: x8 :: x9 :: x10 :: x11 :: r)) (H x0 x1 x2 x3 x4 x5 x6 x7 x8 x9 x10 x11) r11 h11) r10 h10) r9 h9) r8 h8) r7 h7) r6 h6) r5 h5) r4 h4) r3 h3) r2 h2) r1 h1) r0 h0) l h
theorem l16 {P : List Int → Prop} (H : ∀ x0 x1 x2 x3 x4 x5 x6 x7 x8 x9 x10 x11 x12 x13 x14 x15 : Int, P [x0, x1, x2, x3, x4, x5, x6, x7, x8, x9, x10, x11, x12, x13, x14, x15]) (l : List Int) (h : l.length = 16) : P l :=
  pk (P := fun r => P (r)) (fun x0 r0 h0 => pk (P := fun r => P (x0 :: r)) (fun x1 r1 h1 => pk (P := fun r => P (x0 :: x1 :: r)) (fun x2 r2 h2 => pk (P := fun r => P (x0 :: x1 :: x2 :: r)) (fun x3 r3 h3 => pk (P := fun r => P (x0 :: x1 :: x2 :: x3 :: r)) (fun x4 r4 h4 => pk (P := fun r => P (x0 :: x1 :: x2 :: x3 :: x4 :: r)) (fun x5 r5 h5 => pk (P := fun r => P (x0 :: x1 :: x2 :: x3 :: x4 :: x5 :: r)) (fun x6 r6 h6 => pk (P := fun r => P (x0 :: x1 :: x2 :: x3 :: x4 :: x5 :: x6 :: r)) (fun x7 r7 h7 => pk (P := fun r => P (x0 :: x1 :: x2 :: x3 :: x4 :: x5 :: x6 :: x7 :: r)) (fun x8 r8 h8 => pk (P := fun r => P (x0 :: x1 :: x2 :: x3 :: x4 :: x5 :: x6 :: x7 :: x8 :: r)) (fun x9 r9 h9 => pk (P := fun r => P (x0 :: x1 :: x2 :: x3 :: x4 :: x5 :: x6 :: x7 :: x8 :: x9 :: r)) (fun x10 r10 h10 => pk (P := fun r => P (x0 :: x1 :: x2 :: x3 :: x4 :: x5 :: x6 :: x7 :: x8 :: x9 :: x10 :: r)) (fun x11 r11 h11 => pk (P := fun r => P (x0 :: x1 :: x2 :: x3 :: x4 :: x5 :: x6 :: x7 :: x8 :: x9 :: x10 :: x11 :: r)) (fun x12 r12 h12 => pk (P := fun r => P (x0 :: x1 :: x2 :: x3 :: x4 :: x5 :: x6 :: x7 :: x8 :: x9 :: x10 :: x11 :: x12 :: r)) (fun x13 r13 h13 => pk (P := fun r => P (x0 :: x1 :: x2 :: x3 :: x4 :: x5 :: x6 :: x7 :: x8 :: x9 :: x10 :: x11 :: x12 :: x13 :: r)) (fun x14 r14 h14 => pk (P := fun r => P (x0 :: x1 :: x2 :: x3 :: x4 :: x5 :: x6 :: x7 :: x8 :: x9 :: x10 :: x11 :: x12 :: x13 :: x14 :: r)) (fun x15 r15 h15 => pz (P := fun r => P (x0 :: x1 :: x2 :: x3 :: x4 :: x5 :: x6 :: x7 :: x8 :: x9 :: x10 :: x11 :: x12 :: x13 :: x14 :: x15 :: r)) (H x0 x1 x2 x3 x4 x5 x6 x7 x8 x9 x10 x11 x12 x13 x14 x15) r15 h15) r14 h14) r13 h13) r12 h12) r11 h11) r10 h10) r9 h9) r8 h8) r7 h7) r6 h6) r5 h5) r4 h4) r3 h3) r2 h2) r1 h1) r0 h0) l h
theorem cols_of {x y : Nat} (hx : x < 16 ^ 12) (hy : y < 16 ^ 4) : (colsK (wordK x 12) (wordK y 4)).length = 16 ∧ (∀ k ∈ colsK (wordK x 12) (wordK y 4), 0 ≤ k ∧ k ≤ 900) ∧
    ∀ B, val B (colsK (wordK x 12) (wordK y 4)) = val B (digs 12 x) * val B (digs 4 y) := by
  rw [word_digs 12 x hx, word_digs 4 y hy]
  have hA := digs_in 12 x
  have hB := digs_in 4 y
  have lA := digs_len 12 x
  have lB := digs_len 4 y
  generalize digs 12 (x : Int) = X at *
  generalize digs 4 (y : Int) = Y at *
  refine l12 (P := fun X => (∀ d ∈ X, 0 ≤ d ∧ d < 16) → (colsK ((X.map fun d => 65 + d).reverse) ((Y.map fun d => 65 + d).reverse)).length = 16 ∧ (∀ k ∈ colsK ((X.map fun d => 65 + d).reverse) ((Y.map fun d => 65 + d).reverse), 0 ≤ k ∧ k ≤ 900) ∧ ∀ B, val B (colsK ((X.map fun d => 65 + d).reverse) ((Y.map fun d => 65 + d).reverse)) = val B X * val B Y) ?_ X lA hA
  intro a0 a1 a2 a3 a4 a5 a6 a7 a8 a9 a10 a11 hA
  refine l4 (P := fun Y => (∀ d ∈ Y, 0 ≤ d ∧ d < 16) → (colsK [65 + a11, 65 + a10, 65 + a9, 65 + a8, 65 + a7, 65 + a6, 65 + a5, 65 + a4, 65 + a3, 65 + a2, 65 + a1, 65 + a0] ((Y.map fun d => 65 + d).reverse)).length = 16 ∧ (∀ k ∈ colsK [65 + a11, 65 + a10, 65 + a9, 65 + a8, 65 + a7, 65 + a6, 65 + a5, 65 + a4, 65 + a3, 65 + a2, 65 + a1, 65 + a0] ((Y.map fun d => 65 + d).reverse), 0 ≤ k ∧ k ≤ 900) ∧ ∀ B, val B (colsK [65 + a11, 65 + a10, 65 + a9, 65 + a8, 65 + a7, 65 + a6, 65 + a5, 65 + a4, 65 + a3, 65 + a2, 65 + a1, 65 + a0] ((Y.map fun d => 65 + d).reverse)) = val B [a0, a1, a2, a3, a4, a5, a6, a7, a8, a9, a10, a11] * val B Y) ?_ Y lB hB
  intro b0 b1 b2 b3 hB
  have e : colsK [65 + a11, 65 + a10, 65 + a9, 65 + a8, 65 + a7, 65 + a6, 65 + a5, 65 + a4, 65 + a3, 65 + a2, 65 + a1, 65 + a0] (([b0, b1, b2, b3].map fun d => 65 + d).reverse) = colT a0 a1 a2 a3 a4 a5 a6 a7 a8 a9 a10 a11 b0 b1 b2 b3 := cols_is a0 a1 a2 a3 a4 a5 a6 a7 a8 a9 a10 a11 b0 b1 b2 b3
  rw [e]
  exact ⟨rfl, cols_bd a0 a1 a2 a3 a4 a5 a6 a7 a8 a9 a10 a11 b0 b1 b2 b3 hA hB, fun B => cols_val B a0 a1 a2 a3 a4 a5 a6 a7 a8 a9 a10 a11 b0 b1 b2 b3⟩
theorem cols_nn {x y : Nat} (hx : x < 16 ^ 12) (hy : y < 16 ^ 4) : ∀ n ∈ colsK (wordK x 12) (wordK y 4), 0 ≤ n := fun n hn => ((cols_of hx hy).2.1 n hn).1
theorem prod_small {a oth : Int} (ha : 0 ≤ a) (ha' : a < 281474976710656) (h0 : 0 ≤ oth) (h1 : oth < 65536) : (a * oth).natAbs < 16 ^ 16 := by
  have h2 : a * oth ≤ 281474976710655 * 65535 := Int.le_trans (Int.mul_le_mul_of_nonneg_right (show a ≤ 281474976710655 by omega) h0) (Int.mul_le_mul_of_nonneg_left (by omega) (by decide))
  have h3 : 0 ≤ a * oth := Int.mul_nonneg ha h0
  have e : (16 : Nat) ^ 16 = 18446744073709551616 := by decide
  rw [e]
  omega
theorem a_small {a : Int} (ha : 0 ≤ a) (ha' : a < 281474976710656) : a.natAbs < 16 ^ 12 := by
  have e : (16 : Nat) ^ 12 = 281474976710656 := by decide
  rw [e]; omega
theorem o_small {o : Int} (ha : 0 ≤ o) (ha' : o < 65536) : o.natAbs < 16 ^ 4 := by
  have e : (16 : Nat) ^ 4 = 65536 := by decide
  rw [e]; omega
theorem cols_sixteen {a oth : Int} (ha : 0 ≤ a) (ha' : a < 281474976710656) (h0 : 0 ≤ oth) (h1 : oth < 65536) : val 16 (colsK (wordK a.natAbs 12) (wordK oth.natAbs 4)) = ((a * oth).natAbs : Int) := by
  have hx := a_small ha ha'
  have hy := o_small h0 h1
  rw [(cols_of hx hy).2.2 16, val_digs 12 _ (Int.natCast_nonneg _) (Int.ofNat_lt.mpr hx), val_digs 4 _ (Int.natCast_nonneg _) (Int.ofNat_lt.mpr hy), Int.natAbs_of_nonneg ha, Int.natAbs_of_nonneg h0, Int.natAbs_of_nonneg (Int.mul_nonneg ha h0)]
theorem cols_word {a oth : Int} (ha : 0 ≤ a) (ha' : a < 281474976710656) (h0 : 0 ≤ oth) (h1 : oth < 65536) : (cfold (colsK (wordK a.natAbs 12) (wordK oth.natAbs 4))).1 = wordK (a * oth).natAbs 16 := by
  have hP := prod_small ha ha' h0 h1
  rw [cfold_fst, word_digs 16 _ hP, (dgs_word (cols_of (a_small ha ha') (o_small h0 h1)).1 (cols_sixteen ha ha' h0 h1) hP).1]
theorem fits_prod {a oth : Int} (ha : 0 ≤ a) (ha' : a < 281474976710656) (h0 : 0 ≤ oth) (h1 : oth < 65536) :
    Fits (num64 (wordK (a * oth).natAbs 16) - num64 (wordK a.natAbs 12) * num64 (wordK oth.natAbs 4)) (cfold (colsK (wordK a.natAbs 12) (wordK oth.natAbs 4))).2.1 := by
  have hP := prod_small ha ha' h0 h1
  have hc := cols_of (a_small ha ha') (o_small h0 h1)
  rw [num64_word hP, num64_word (a_small ha ha'), num64_word (o_small h0 h1), ← hc.2.2 64]
  exact fits_of hc.1 hc.2.1 (cols_sixteen ha ha' h0 h1) hP

theorem sum_is {R S T : List Int} (hR : R.length = 16) (hS : S.length = 16) (hT : T.length = 16) : sumK R S T = List.zipWith (· + ·) (List.zipWith (· + ·) R S) T := by
  refine l16 (P := fun R => sumK R S T = List.zipWith (· + ·) (List.zipWith (· + ·) R S) T) (fun r0 r1 r2 r3 r4 r5 r6 r7 r8 r9 r10 r11 r12 r13 r14 r15 => ?_) R hR
  refine l16 (P := fun S => sumK [r0, r1, r2, r3, r4, r5, r6, r7, r8, r9, r10, r11, r12, r13, r14, r15] S T = List.zipWith (· + ·) (List.zipWith (· + ·) [r0, r1, r2, r3, r4, r5, r6, r7, r8, r9, r10, r11, r12, r13, r14, r15] S) T) (fun s0 s1 s2 s3 s4 s5 s6 s7 s8 s9 s10 s11 s12 s13 s14 s15 => ?_) S hS
  exact l16 (P := fun T => sumK [r0, r1, r2, r3, r4, r5, r6, r7, r8, r9, r10, r11, r12, r13, r14, r15] [s0, s1, s2, s3, s4, s5, s6, s7, s8, s9, s10, s11, s12, s13, s14, s15] T = List.zipWith (· + ·) (List.zipWith (· + ·) [r0, r1, r2, r3, r4, r5, r6, r7, r8, r9, r10, r11, r12, r13, r14, r15] [s0, s1, s2, s3, s4, s5, s6, s7, s8, s9, s10, s11, s12, s13, s14, s15]) T) (fun _ _ _ _ _ _ _ _ _ _ _ _ _ _ _ _ => rfl) T hT
theorem add_is {R S : List Int} (hR : R.length = 16) (hS : S.length = 16) : addK ((R.map fun d => 65 + d).reverse) ((S.map fun d => 65 + d).reverse) = List.zipWith (· + ·) R S := by
  have h : (fun x y : Int => 65 + x + (65 + y) - 130) = fun x y => x + y := by funext x y; omega
  show _ = List.zipWith (fun x y => x + y) R S
  rw [← h]
  refine l16 (P := fun R => addK ((R.map fun d => 65 + d).reverse) ((S.map fun d => 65 + d).reverse) = List.zipWith (fun x y => 65 + x + (65 + y) - 130) R S) (fun r0 r1 r2 r3 r4 r5 r6 r7 r8 r9 r10 r11 r12 r13 r14 r15 => ?_) R hR
  exact l16 (P := fun S => addK (([r0, r1, r2, r3, r4, r5, r6, r7, r8, r9, r10, r11, r12, r13, r14, r15].map fun d => 65 + d).reverse) ((S.map fun d => 65 + d).reverse) = List.zipWith (fun x y => 65 + x + (65 + y) - 130) [r0, r1, r2, r3, r4, r5, r6, r7, r8, r9, r10, r11, r12, r13, r14, r15] S) (fun _ _ _ _ _ _ _ _ _ _ _ _ _ _ _ _ => rfl) S hS
theorem q0 : (0 : Int) = 0 + 0 := rfl
theorem q1 (a b e : Int) : a * (b + e) + 0 = (a * b + 0) + (a * e + 0) := by rw [Int.mul_add]; omega
theorem qs (a b e s u v : Int) (h : s = u + v) : a * (b + e) + s = (a * b + u) + (a * e + v) := by rw [Int.mul_add, h]; omega
theorem cc {x y : Int} {l m : List Int} (h : x = y) (g : l = m) : x :: l = y :: m := by rw [h, g]
theorem cols_add (a0 a1 a2 a3 a4 a5 a6 a7 a8 a9 a10 a11 b0 b1 b2 b3 e0 e1 e2 e3 : Int) : colT a0 a1 a2 a3 a4 a5 a6 a7 a8 a9 a10 a11 (b0 + e0) (b1 + e1) (b2 + e2) (b3 + e3) = List.zipWith (· + ·) (colT a0 a1 a2 a3 a4 a5 a6 a7 a8 a9 a10 a11 b0 b1 b2 b3) (colT a0 a1 a2 a3 a4 a5 a6 a7 a8 a9 a10 a11 e0 e1 e2 e3) :=
  cc (q1 _ _ _) (cc (qs _ _ _ _ _ _ (q1 _ _ _)) (cc (qs _ _ _ _ _ _ (qs _ _ _ _ _ _ (q1 _ _ _))) (cc (qs _ _ _ _ _ _ (qs _ _ _ _ _ _ (qs _ _ _ _ _ _ (q1 _ _ _)))) (cc (qs _ _ _ _ _ _ (qs _ _ _ _ _ _ (qs _ _ _ _ _ _ (q1 _ _ _)))) (cc (qs _ _ _ _ _ _ (qs _ _ _ _ _ _ (qs _ _ _ _ _ _ (q1 _ _ _)))) (cc (qs _ _ _ _ _ _ (qs _ _ _ _ _ _ (qs _ _ _ _ _ _ (q1 _ _ _)))) (cc (qs _ _ _ _ _ _ (qs _ _ _ _ _ _ (qs _ _ _ _ _ _ (q1 _ _ _)))) (cc (qs _ _ _ _ _ _ (qs _ _ _ _ _ _ (qs _ _ _ _ _ _ (q1 _ _ _)))) (cc (qs _ _ _ _ _ _ (qs _ _ _ _ _ _ (qs _ _ _ _ _ _ (q1 _ _ _)))) (cc (qs _ _ _ _ _ _ (qs _ _ _ _ _ _ (qs _ _ _ _ _ _ (q1 _ _ _)))) (cc (qs _ _ _ _ _ _ (qs _ _ _ _ _ _ (qs _ _ _ _ _ _ (q1 _ _ _)))) (cc (qs _ _ _ _ _ _ (qs _ _ _ _ _ _ (q1 _ _ _))) (cc (qs _ _ _ _ _ _ (q1 _ _ _)) (cc (q1 _ _ _) (cc q0 (rfl))))))))))))))))
theorem crs_one (u v e : Int) : (u + v + e) / 16 = u / 16 + v / 16 + (u % 16 + v % 16 + e) / 16 := by
  have hu := Int.emod_add_mul_ediv u 16
  have hv := Int.emod_add_mul_ediv v 16
  have h : u + v + e = (u % 16 + v % 16 + e) + 16 * (u / 16 + v / 16) := by
    generalize u % 16 = a at *
    generalize u / 16 = b at *
    generalize v % 16 = c at *
    generalize v / 16 = d at *
    omega
  rw [h, ad _ _ (by decide), Int.add_comm]
theorem crs_add : ∀ (k0 k1 : List Int) (c0 c1 e : Int), k0.length = k1.length →
    crs (c0 + c1 + e) (List.zipWith (· + ·) k0 k1) = List.zipWith (· + ·) (List.zipWith (· + ·) (crs c0 k0) (crs c1 k1)) (crs e (List.zipWith (· + ·) (dgs c0 k0) (dgs c1 k1)))
  | [], [], _, _, _, _ => rfl
  | x :: r, y :: q, c0, c1, e, h => by
    simp only [List.zipWith_cons_cons, crs, dgs]
    have e1 : (x + y + (c0 + c1 + e)) / 16 = (x + c0) / 16 + (y + c1) / 16 + ((x + c0) % 16 + (y + c1) % 16 + e) / 16 := by rw [← crs_one]; exact congrArg (· / 16) (by omega)
    rw [e1, crs_add r q _ _ _ (by simpa using h)]
theorem val_zip (B : Int) : ∀ (k0 k1 : List Int), k0.length = k1.length → val B (List.zipWith (· + ·) k0 k1) = val B k0 + val B k1
  | [], [], _ => by simp [val]
  | x :: r, y :: q, h => by
    simp only [List.zipWith_cons_cons, val]
    rw [val_zip B r q (by simpa using h), Int.mul_add]
    omega
theorem sixt (x q : Int) : (x + 16 * q) % 16 = x % 16 + 16 * q % 16 ∧ (x + 16 * q) / 16 = x / 16 + 16 * q / 16 := by
  rw [am, ad _ _ (by decide), Int.mul_emod_right, Int.mul_ediv_cancel_left _ (by decide), Int.add_zero]
  exact ⟨rfl, rfl⟩
theorem digs_add {rt kd : Int} (h0 : 0 ≤ rt) (h1 : rt < 4096) (k0 : 0 ≤ kd) (k1 : rt + kd < 65536) (hk : kd % 4096 = 0) : digs 4 (rt + kd) = List.zipWith (· + ·) (digs 4 rt) (digs 4 kd) := by
  obtain ⟨q, rfl⟩ := Int.dvd_of_emod_eq_zero hk
  rw [show (4096 : Int) * q = 16 * (16 * (16 * q)) by omega]
  simp only [digs, List.zipWith_cons_cons, List.zipWith_nil_left]
  have e0 : rt / 16 / 16 / 16 = 0 := by rw [dd _ _ (by decide), dd _ _ (by decide)]; exact Int.ediv_eq_zero_of_lt h0 h1
  rw [(sixt _ _).1, (sixt _ _).2, Int.mul_ediv_cancel_left _ (by decide), (sixt _ _).1, (sixt _ _).2, Int.mul_ediv_cancel_left _ (by decide), (sixt _ _).1, (sixt _ _).2, Int.mul_ediv_cancel_left _ (by decide), e0, Int.zero_add, Int.zero_emod, Int.zero_add]
theorem natAbs_id {x : Int} (h : 0 ≤ x) : ((x.natAbs : Nat) : Int) = x := by omega
theorem cols_sum {a rt kd : Int} (ha : 0 ≤ a) (ha' : a < 281474976710656) (h0 : 0 ≤ rt) (h1 : rt < 4096) (k0 : 0 ≤ kd) (k1 : rt + kd < 65536) (hk : kd % 4096 = 0) :
    colsK (wordK a.natAbs 12) (wordK (rt + kd).natAbs 4) = List.zipWith (· + ·) (colsK (wordK a.natAbs 12) (wordK rt.natAbs 4)) (colsK (wordK a.natAbs 12) (wordK kd.natAbs 4)) := by
  rw [word_digs 12 _ (a_small ha ha'), word_digs 4 _ (o_small (show 0 ≤ rt + kd by omega) k1), word_digs 4 _ (o_small h0 (by omega)), word_digs 4 _ (o_small k0 (by omega)), natAbs_id (show 0 ≤ rt + kd by omega), natAbs_id h0, natAbs_id k0,
    digs_add h0 h1 k0 k1 hk]
  have lA := digs_len 12 a.natAbs
  have lB := digs_len 4 rt
  have lE := digs_len 4 kd
  generalize digs 12 (a.natAbs : Int) = X at *
  generalize digs 4 rt = Y at *
  generalize digs 4 kd = Z at *
  refine l12 (P := fun X => colsK ((X.map fun d => 65 + d).reverse) (((List.zipWith (· + ·) Y Z).map fun d => 65 + d).reverse) = (List.zipWith (· + ·) (colsK ((X.map fun d => 65 + d).reverse) ((Y.map fun d => 65 + d).reverse)) (colsK ((X.map fun d => 65 + d).reverse) ((Z.map fun d => 65 + d).reverse)))) (fun a0 a1 a2 a3 a4 a5 a6 a7 a8 a9 a10 a11 => ?_) X lA
  refine l4 (P := fun Y => colsK [65 + a11, 65 + a10, 65 + a9, 65 + a8, 65 + a7, 65 + a6, 65 + a5, 65 + a4, 65 + a3, 65 + a2, 65 + a1, 65 + a0] (((List.zipWith (· + ·) Y Z).map fun d => 65 + d).reverse) = (List.zipWith (· + ·) (colsK [65 + a11, 65 + a10, 65 + a9, 65 + a8, 65 + a7, 65 + a6, 65 + a5, 65 + a4, 65 + a3, 65 + a2, 65 + a1, 65 + a0] ((Y.map fun d => 65 + d).reverse)) (colsK [65 + a11, 65 + a10, 65 + a9, 65 + a8, 65 + a7, 65 + a6, 65 + a5, 65 + a4, 65 + a3, 65 + a2, 65 + a1, 65 + a0] ((Z.map fun d => 65 + d).reverse)))) (fun b0 b1 b2 b3 => ?_) Y lB
  refine l4 (P := fun Z => colsK [65 + a11, 65 + a10, 65 + a9, 65 + a8, 65 + a7, 65 + a6, 65 + a5, 65 + a4, 65 + a3, 65 + a2, 65 + a1, 65 + a0] (((List.zipWith (· + ·) [b0, b1, b2, b3] Z).map fun d => 65 + d).reverse) = (List.zipWith (· + ·) (colsK [65 + a11, 65 + a10, 65 + a9, 65 + a8, 65 + a7, 65 + a6, 65 + a5, 65 + a4, 65 + a3, 65 + a2, 65 + a1, 65 + a0] [65 + b3, 65 + b2, 65 + b1, 65 + b0]) (colsK [65 + a11, 65 + a10, 65 + a9, 65 + a8, 65 + a7, 65 + a6, 65 + a5, 65 + a4, 65 + a3, 65 + a2, 65 + a1, 65 + a0] ((Z.map fun d => 65 + d).reverse)))) (fun e0 e1 e2 e3 => ?_) Z lE
  have c1 := cols_is a0 a1 a2 a3 a4 a5 a6 a7 a8 a9 a10 a11 b0 b1 b2 b3
  have c2 := cols_is a0 a1 a2 a3 a4 a5 a6 a7 a8 a9 a10 a11 e0 e1 e2 e3
  have c3 := cols_is a0 a1 a2 a3 a4 a5 a6 a7 a8 a9 a10 a11 (b0 + e0) (b1 + e1) (b2 + e2) (b3 + e3)
  exact (c3.trans (cols_add a0 a1 a2 a3 a4 a5 a6 a7 a8 a9 a10 a11 b0 b1 b2 b3 e0 e1 e2 e3)).trans (congr (congrArg _ c1.symm) c2.symm)
/-- the carries of the product by the whole mode -/
theorem rows_sum {a rt kd : Int} (ha : 0 ≤ a) (ha' : a < 281474976710656) (h0 : 0 ≤ rt) (h1 : rt < 4096) (k0 : 0 ≤ kd) (k1 : rt + kd < 65536) (hk : kd % 4096 = 0) :
    sumK (cfold (colsK (wordK a.natAbs 12) (wordK rt.natAbs 4))).2.1 (cfold (colsK (wordK a.natAbs 12) (wordK kd.natAbs 4))).2.1 (cfold (addK (wordK (a * rt).natAbs 16) (wordK (a * kd).natAbs 16))).2.1 =
      (cfold (colsK (wordK a.natAbs 12) (wordK (rt + kd).natAbs 4))).2.1 := by
  have hP0 := prod_small ha ha' h0 (show rt < 65536 by omega)
  have hP1 := prod_small ha ha' k0 (show kd < 65536 by omega)
  have hc0 := cols_of (a_small ha ha') (o_small h0 (show rt < 65536 by omega))
  have hc1 := cols_of (a_small ha ha') (o_small k0 (show kd < 65536 by omega))
  have g0 := (dgs_word hc0.1 (cols_sixteen ha ha' h0 (by omega)) hP0).1
  have g1 := (dgs_word hc1.1 (cols_sixteen ha ha' k0 (by omega)) hP1).1
  rw [cols_sum ha ha' h0 h1 k0 k1 hk, word_digs 16 _ hP0, word_digs 16 _ hP1, add_is (digs_len 16 _) (digs_len 16 _), ← g0, ← g1]
  have l0 := hc0.1
  have l1 := hc1.1
  generalize colsK (wordK a.natAbs 12) (wordK rt.natAbs 4) = x at *
  generalize colsK (wordK a.natAbs 12) (wordK kd.natAbs 4) = y at *
  rw [cfold_row, cfold_row, cfold_row, cfold_row]
  have z : List.length (List.zipWith (· + ·) (dgs 0 x) (dgs 0 y)) = 16 := by rw [List.length_zipWith, dgs_len, dgs_len, l0, l1]; rfl
  rw [sum_is (by rw [List.length_reverse, crs_len, l0]) (by rw [List.length_reverse, crs_len, l1]) (by rw [List.length_reverse, crs_len, z])]
  have hx : (crs 0 x).length = 16 := by rw [crs_len, l0]
  have hy : (crs 0 y).length = 16 := by rw [crs_len, l1]
  rw [← List.reverse_zipWith (by rw [hx, hy]), ← List.reverse_zipWith (by rw [List.length_zipWith, hx, hy, crs_len, z]; rfl)]
  exact congrArg List.reverse (crs_add x y 0 0 0 (by rw [l0, l1])).symm
theorem zip_mem : ∀ {l m : List Int} {k : Int}, k ∈ List.zipWith (· + ·) l m → ∃ x, x ∈ l ∧ ∃ y, y ∈ m ∧ k = x + y
  | [], _, _, h => by simp at h
  | _ :: _, [], _, h => by simp at h
  | x :: r, y :: q, k, h => by
    rw [List.zipWith_cons_cons] at h
    rcases List.mem_cons.mp h with rfl | h
    · exact ⟨x, List.mem_cons_self .., y, List.mem_cons_self .., rfl⟩
    · obtain ⟨x', hx, y', hy, e⟩ := zip_mem h
      exact ⟨x', List.mem_cons_of_mem _ hx, y', List.mem_cons_of_mem _ hy, e⟩
theorem two_in {x y : Int} (hx : 0 ≤ x ∧ x < 16) (hy : 0 ≤ y ∧ y < 16) : 0 ≤ x + y ∧ x + y ≤ 900 := ⟨by omega, by omega⟩
theorem nat_two {p q : Int} (hp : 0 ≤ p) (hq : 0 ≤ q) : (p.natAbs : Int) + (q.natAbs : Int) = ((p + q).natAbs : Int) := by rw [Int.natAbs_of_nonneg hp, Int.natAbs_of_nonneg hq, Int.natAbs_of_nonneg (Int.add_nonneg hp hq)]
theorem nat_sm {p : Int} (h : p.natAbs < 16 ^ 16) : 0 ≤ (p.natAbs : Int) ∧ (p.natAbs : Int) < 16 ^ 16 := ⟨Int.natCast_nonneg _, Int.ofNat_lt.mpr h⟩
theorem fits_add {a rt kd : Int} (ha : 0 ≤ a) (ha' : a < 281474976710656) (h0 : 0 ≤ rt) (k0 : 0 ≤ kd) (k1 : rt + kd < 65536) :
    Fits (num64 (wordK (a * (rt + kd)).natAbs 16) - num64 (wordK (a * rt).natAbs 16) - num64 (wordK (a * kd).natAbs 16)) (cfold (addK (wordK (a * rt).natAbs 16) (wordK (a * kd).natAbs 16))).2.1 := by
  have hP0 := prod_small ha ha' h0 (show rt < 65536 by omega)
  have hP1 := prod_small ha ha' k0 (show kd < 65536 by omega)
  have hP2 := prod_small ha ha' (show 0 ≤ rt + kd by omega) k1
  rw [num64_word hP0, num64_word hP1, num64_word hP2, word_digs 16 _ hP0, word_digs 16 _ hP1, add_is (digs_len 16 _) (digs_len 16 _)]
  have ll : (digs 16 ((a * rt).natAbs : Int)).length = (digs 16 ((a * kd).natAbs : Int)).length := by rw [digs_len, digs_len]
  have ez := val_zip 64 _ _ ll
  have e16 := val_zip 16 _ _ ll
  have q0 : 0 ≤ a * rt := Int.mul_nonneg ha h0
  have q1 : 0 ≤ a * kd := Int.mul_nonneg ha k0
  have q2 : a * (rt + kd) = a * rt + a * kd := Int.mul_add a rt kd
  rw [val_digs 16 _ (nat_sm hP0).1 (nat_sm hP0).2, val_digs 16 _ (nat_sm hP1).1 (nat_sm hP1).2] at e16
  have hv : val 16 (List.zipWith (· + ·) (digs 16 ((a * rt).natAbs : Int)) (digs 16 ((a * kd).natAbs : Int))) = ((a * (rt + kd)).natAbs : Int) := by rw [e16, q2]; exact nat_two q0 q1
  have hb : ∀ k ∈ List.zipWith (· + ·) (digs 16 ((a * rt).natAbs : Int)) (digs 16 ((a * kd).natAbs : Int)), 0 ≤ k ∧ k ≤ 900 := by
    intro k hk
    obtain ⟨x, hx, y, hy, rfl⟩ := zip_mem hk
    exact two_in (digs_in 16 _ x hx) (digs_in 16 _ y hy)
  have := fits_of (by rw [List.length_zipWith, digs_len, digs_len]; rfl) hb hv hP2
  rw [ez] at this
  have e : ∀ p q r : Int, p - (q + r) = p - q - r := fun p q r => by omega
  rw [e] at this
  exact this
theorem isWord_of {n : Nat} (h : n < 16 ^ 16) : IsWord (wordK n 16) := ⟨word_len h, word_in n 16⟩

theorem c_turn2 {w mean mg mb} (S : Scope) (BB : List Stmt) (hS : pScope = S) (hB : pTurn2 = BB) (more : Int) (R : List Int) (hm0 : 0 ≤ more) (hmc : more = 48 * num64 (R.map sgI)) (hme : enc (octs more) = R.map sgI) (hm9 : more < 2 ^ 120) (hR : R.length = 16) (hR' : ∀ k ∈ R, 0 ≤ k ∧ k < 64)
    {dp un : Nat} {gd : Option (List Code)} {an : Addr} {ccd : Value} {outer : List Env} {A₀ : Around} {base h₀ : Heap} {L : Addr} {m₁ : Str → Option Value} {s : Shared} {Q : Flow → Shared → Prop} {E : Value → Shared → Prop}
    {r : Addr} {rvs : List Value} {rn : Nat} {o7 o8 : Obj} {tm ts : Tok} {sb : Array UInt8} {rest : List (Addr × Obj)}
    (B : Below A₀ base outer h₀)
    (F : Fr h₀ L s.heap (fun y => if y = Str.ofString "row" then some (.ref r) else m₁ y))
    (X : (Mine.hd.heap_39 w.params).In h₀) (T : Top Mine.hd.view_39 Lo mean mg mb h₀)
    (N : News h₀ L s.heap ((L + 1 + 1 + 1 + 1 + 1 + 1 + 1 + 1, o8) :: (L + 1 + 1 + 1 + 1 + 1 + 1 + 1, o7) :: (r, listOf rvs.toArray rn) :: rest))
    (d8 : o8.data = .cell (some (.int more tm))) (d7 : o7.data = .cell (some (.bytes sb ts)))
    (hI : IntsAre rvs R) (hsb : KBw.bInts sb = sgL)
    (hd : dp + 18 < recursionLimit) (hu : un + 16 * 18 < cLine)
    (kk : ∀ (h' : Heap) (tk' : Nat) (vc vo : Value), Fr h₀ L h' (fun y => if y = Str.ofString "octets" then some vo else if y = Str.ofString "carries" then some vc else if y = Str.ofString "row" then some (.ref r) else m₁ y) →
      News h₀ L h' ((L + 1 + 1 + 1 + 1 + 1 + 1 + 1 + 1, o8) :: (L + 1 + 1 + 1 + 1 + 1 + 1 + 1, o7) :: (r, listOf rvs.toArray rn) :: rest) → Q .next { s with heap := h', toks := tk' }) :
    wpAny (model PySem.Challenge.rw_op0010_01.row.prog w) (ktrTop dp un gd (Str.ofString "_law_product") S L an ccd (cellsFrom (L + 1) S.names []) outer) (execs BB (envOfC (Str.ofString "_law_product") S L an ccd)) Q E s := by
  (w_top off; have hfill : PySem.Challenge.rw_op0010_01 = PySem.Challenge.rw_op0010_01 ∧ Mine.hd.heap_39 = Mine.hd.heap_39 := (by (k_fill; exact ⟨rfl, rfl⟩)); clear hfill)
  conv at hS => lhs; whnf
  conv at hB => lhs; whnf
  subst hS hB
  k_with_none
  have hrl := IntsAre.length hI
  have hin1 : KBa.In (R.map sgI) := sgI_in R
  have hin2 : KBa.In (octs more) := octs_in more
  have hb1 : KBw.bInts (byteArr (R.map sgI)) = R.map sgI := KBa.ints_make hin1
  have hb2 : KBw.bInts (byteArr (octs more)) = octs more := KBa.ints_make hin2
  have hl1 : (R.map sgI).length = 16 := by rw [List.length_map]; exact hR
  have hl2 : (octs more).length = 12 := octs_len more
  have hv1 : ∀ k ∈ R.map sgI, b64v k < 64 := sgI_v hR'
  k_with "eval ListComp" => (k_dflt (refine LCg.ListComp_U (F₀ := by k_asm) (by with_unfolding_all rfl) (by decide) (by rfl) (by decide) (by rfl) ?_); k_dflt lcg_toSrc)
  k_with "CompSrc" => (k_dflt (refine LCg.CompSrc.ledger (by rfl) (by k_asm) (by k_asm) (by k_mem) (by kcf_size) ?_); intro g'; k_dflt (refine' kcf_list sgI (by assumption) (fun k' t' I' oI' C' oC' D' m' ys' h' tk' E' hk' hC' hx' F' N' off' ne' hMark' => ?_) ?_); (all_goals (try (have hk8 := hR' _ hk'))))
  k_with "CompSrc" => (k_dflt (refine LCg.CompSrc.range (by rfl) (by k_asm) (by k_asm) (by assumption) (by decide) (by rfl) (by exact Nat.le_of_ble_eq_true rfl) ?_); intro g'; k_dflt (refine' kcf_range (n := 12) (octG more) (fun k' t' I' oI' C' oC' D' m' ys' h' tk' E' hlo' hhi' hC' hx' F' N' off' ne' hMark' => ?_) ?_))
  k_with "CompEnd" => k_dflt (refine LCg.CompEnd.intro (by assumption) (by assumption) _ (fun p hp => hp) (by assumption) (by first | trivial | lcg_src | assumption) ?_)
  k_with "KCfEl" => k_dflt (first | exact kcf_el rfl rfl rfl)
  k_with "subscriptTail" => ((with_reducible show wpAny _ _ (subscriptTail _ _ (Value.bytes _ _) (Value.int _ _)) _ _ _); k_dflt (refine KBw.item_K hsb (by decide) (by omega) (by (have e9 : (sgL.length : Int) = 64 := by decide); omega) ?_); intro t9 k9 hlo9 hhi9)
  k_with "binaryOp FloorDiv int int" => k_dflt (refine floordiv_int (pow256_ok (n := (11 - k').toNat) (by omega)).1 ?_ (Or.inl ((pow256_ok (n := (11 - k').toNat) (by omega)).2 _)))
  k_with "ite" => (refine ite_neg (by rw [hme]; simp) ?_)
  k_with "call ref" => k_dflt (first
    | (refine' use (c_count _ (R.map sgI) hb1 hv1 (by omega) (by omega) _) ?k1 ?k2 ?k3 ?k4 ?k5 ?kK ?kd ?ku ?_; ((case k1 => k_asm); (case k2 => k_asm); (case k3 => k_asm); (case k4 => k_asm); (case k5 => k_asm); (case kK => first | exact rfl | assumption); (case kd => ktr_room); (case ku => ktr_units); intro tU9 hU9 tkU9 FU9 NU9; (try dsimp only); (try k_fold)))
    | (refine' use (c_enc _ (octs more) hb2 (by omega) (by omega) _) ?k1 ?k2 ?k3 ?k4 ?k5 ?kK ?kd ?ku ?_; ((case k1 => k_asm); (case k2 => k_asm); (case k3 => k_asm); (case k4 => k_asm); (case k5 => k_asm); (case kK => first | exact rfl | assumption); (case kd => ktr_room); (case ku => ktr_units); intro tU9 hU9 tkU9 FU9 NU9; (try dsimp only); (try k_fold)))
    | fail "no contract")
  k_steps
  all_goals exact kk _ _ _ _ (by k_asm) (by (first | k_asm | (refine' cb_drop ?cbN ?cbS; (case cbN => assumption); (case cbS => (intro p hp; repeat (first | exact hp | apply List.Mem.tail))))))

theorem c_step2 {w mean mg mb} (S : Scope) (BB : List Stmt) (tgt : Expr) (hS : pScope = S) (hB : pTurn2 = BB) (hG : pTgt = tgt) (more : Int) (R : List Int) (hf : Fits more R)
    {dp un : Nat} {gd : Option (List Code)} {an : Addr} {ccd : Value} {outer : List Env} {A₀ : Around} {base h₀ : Heap} {L : Addr} {m₁ : Str → Option Value} {s : Shared} {Q : Flow → Shared → Prop} {E : Value → Shared → Prop}
    {r T : Addr} {rvs : List Value} {rn : Nat} {o7 o8 : Obj} {u8 : Option Value} {tm ts : Tok} {sb : Array UInt8} {rest : List (Addr × Obj)}
    (B : Below A₀ base outer h₀) (F : Fr h₀ L s.heap m₁)
    (X : (Mine.hd.heap_39 w.params).In h₀) (T₀ : Top Mine.hd.view_39 Lo mean mg mb h₀)
    (N : News h₀ L s.heap ((L + 1 + 1 + 1 + 1 + 1 + 1 + 1 + 1, o8) :: (L + 1 + 1 + 1 + 1 + 1 + 1 + 1, o7) :: (r, listOf rvs.toArray rn) :: rest))
    (d8 : o8.data = .cell u8) (d7 : o7.data = .cell (some (.bytes sb ts))) (hT : IsTup s.heap T #[.int more tm, .ref r])
    (hI : IntsAre rvs R) (hsb : KBw.bInts sb = sgL) (hr : @Ne Nat r (L + 1 + 1 + 1 + 1 + 1 + 1 + 1 + 1)) (hoff : OwnOff rest [L + 1 + 1 + 1 + 1 + 1 + 1 + 1 + 1])
    (hd : dp + 18 < recursionLimit) (hu : un + 16 * 18 < cLine)
    (kk : ∀ (h' : Heap) (tk' : Nat) (m' : Str → Option Value) (o8' : Obj), Fr h₀ L h' m' → News h₀ L h' ((L + 1 + 1 + 1 + 1 + 1 + 1 + 1 + 1, o8') :: (L + 1 + 1 + 1 + 1 + 1 + 1 + 1, o7) :: (r, listOf rvs.toArray rn) :: rest) → o8'.data = .cell (some (.int more tm)) →
      Q .next { s with heap := h', toks := tk' }) :
    wpAny (model PySem.Challenge.rw_op0010_01.row.prog w) (ktrTop dp un gd (Str.ofString "_law_product") S L an ccd (cellsFrom (L + 1) S.names []) outer) (assign tgt (envOfC (Str.ofString "_law_product") S L an ccd) (.ref T))
      (fun _ s₂ => wpAny (model PySem.Challenge.rw_op0010_01.row.prog w) (ktrTop dp un gd (Str.ofString "_law_product") S L an ccd (cellsFrom (L + 1) S.names []) outer) (execs BB (envOfC (Str.ofString "_law_product") S L an ccd)) Q E s₂) E s := by
  (w_top off; have hfill : PySem.Challenge.rw_op0010_01 = PySem.Challenge.rw_op0010_01 ∧ Mine.hd.heap_39 = Mine.hd.heap_39 := (by (k_fill; exact ⟨rfl, rfl⟩)); clear hfill)
  conv at hS => lhs; whnf
  conv at hG => lhs; whnf
  subst hS hG
  k_with_none
  k_steps
  refine' c_turn2 _ BB rfl hB more R hf.lo hf.num hf.enc hf.hi hf.len hf.row B ?kF X T₀ ?kN ?k8 d7 hI hsb hd hu ?_
  case kF => k_asm
  case kN => k_asm
  case k8 => assumption
  intro h9 tk9 vc9 vo9 F9 N9
  exact kk _ _ _ _ F9 N9 (by assumption)

/-- the turns of a loop over pairs: J holds between them -/
theorem zip_rest {prog : Program} {w : World} {A : Around} {E : Value → Shared → Prop} {s : Shared} {env : Env} {h₀ : Heap} {target : Expr} {body : List Stmt} {Q : Flow → Shared → Prop} {ws : List (Addr × String)} {keep : List (Addr × Obj)}
    (J : List (Addr × Obj) → Prop) (hkeep : ∀ n, J n → SubL keep n) (done : ∀ m n h tk, J n → Fr h₀ env.locals h m → News h₀ env.locals h n → Q .next { s with heap := h, toks := tk }) :
    ∀ (xs : List Itm), (∀ a ∈ xs, ∀ v h tk m n its, J n → a.Is v h → Objs ws its → Fr h₀ env.locals h m → News h₀ env.locals h (its ++ n) →
      wpAny (model prog w) A (assign target env v) (fun _ s₂ => wpAny (model prog w) A (execs body env) (fun f s₃ => f = .next ∧ ∃ h' tk' m' n', s₃ = { s with heap := h', toks := tk' } ∧ Fr h₀ env.locals h' m' ∧ News h₀ env.locals h' (its ++ n') ∧ (∀ p ∈ n', ∀ q ∈ its, p.1 ≠ q.1) ∧ J n') E s₂) E { s with heap := h, toks := tk }) →
    ∀ m n, J n → ItemsRest prog w A E h₀ env target body Q s ws keep xs m n
  | [], _, m, n, hJ => ItemsRest.zero fun h tk F N => done m n h tk hJ F N
  | a :: r, hs, m, n, hJ => by
    intro v h tk ha F
    have key : ∀ (ws' : List (Addr × String)) (k : List (Addr × Obj) → Prop), (∀ its, Objs ws' its → k its) → AllObj ws' k := by
      intro ws'
      induction ws' with
      | nil => intro k hk; exact hk [] trivial
      | cons p q ih => intro k hk o ho; exact ih _ fun its hi => hk _ ⟨⟨rfl, ho⟩, hi⟩
    refine key ws _ fun its hits N => ?_
    refine wpAny_mono (hs a (List.mem_cons_self ..) v h tk m n its hJ ha hits F N) (fun _ s₂ h₂ => wpAny_mono h₂ (fun f s₃ h₃ => ?_) fun _ _ e => e) fun _ _ e => e
    obtain ⟨rfl, h', tk', m', n', rfl, F', N', off, hJ'⟩ := h₃
    exact ⟨h', tk', m', n', rfl, F', N', off, hkeep _ hJ', zip_rest J hkeep done r (fun b hb => hs b (List.mem_cons_of_mem _ hb)) m' n' hJ'⟩

/-- the ledger of the last loop: o is the cell of the number at hand -/
abbrev zLed (L ml rl r0 r1 r2 r3 : Addr) (nm nr q0 q1 q2 q3 : Nat) (n0 n1 n2 n3 : Int) (k0 k1 k2 k3 : Tok) (v0 v1 v2 v3 : List Value) (o7 o3 : Obj) (rest : List (Addr × Obj)) (o : Obj) : List (Addr × Obj) :=
  (ml, listOf [Value.int n0 k0, .int n1 k1, .int n2 k2, .int n3 k3].toArray nm) :: (rl, listOf [Value.ref r0, .ref r1, .ref r2, .ref r3].toArray nr) :: (L + 1 + 1 + 1 + 1 + 1 + 1 + 1 + 1, o) :: (L + 1 + 1 + 1 + 1 + 1 + 1 + 1, o7) :: (L + 1 + 1 + 1, o3) ::
    (r0, listOf v0.toArray q0) :: (r1, listOf v1.toArray q1) :: (r2, listOf v2.toArray q2) :: (r3, listOf v3.toArray q3) :: rest
theorem zled_to {L ml rl r0 r1 r2 r3 : Addr} {nm nr q0 q1 q2 q3 : Nat} {n0 n1 n2 n3 : Int} {k0 k1 k2 k3 : Tok} {v0 v1 v2 v3 : List Value} {o7 o3 : Obj} {rest : List (Addr × Obj)} {o o' : Obj} {p : Addr × Obj}
    (h : p ∈ zLed L ml rl r0 r1 r2 r3 nm nr q0 q1 q2 q3 n0 n1 n2 n3 k0 k1 k2 k3 v0 v1 v2 v3 o7 o3 rest o) (hne : p.1 ≠ L + 1 + 1 + 1 + 1 + 1 + 1 + 1 + 1) : p ∈ zLed L ml rl r0 r1 r2 r3 nm nr q0 q1 q2 q3 n0 n1 n2 n3 k0 k1 k2 k3 v0 v1 v2 v3 o7 o3 rest o' := by
  rcases List.mem_cons.mp h with rfl | h; · exact .head _
  rcases List.mem_cons.mp h with rfl | h; · exact .tail _ (.head _)
  rcases List.mem_cons.mp h with rfl | h; · exact absurd rfl hne
  exact .tail _ (.tail _ (.tail _ h))
theorem zled_at {L ml rl r0 r1 r2 r3 : Addr} {nm nr q0 q1 q2 q3 : Nat} {n0 n1 n2 n3 : Int} {k0 k1 k2 k3 : Tok} {v0 v1 v2 v3 : List Value} {o7 o3 : Obj} {rest : List (Addr × Obj)} {o : Obj} {p : Addr × Obj}
    (hl : @Ne Nat ml (L + 1 + 1 + 1 + 1 + 1 + 1 + 1 + 1) ∧ @Ne Nat rl (L + 1 + 1 + 1 + 1 + 1 + 1 + 1 + 1) ∧ @Ne Nat r0 (L + 1 + 1 + 1 + 1 + 1 + 1 + 1 + 1) ∧ @Ne Nat r1 (L + 1 + 1 + 1 + 1 + 1 + 1 + 1 + 1) ∧ @Ne Nat r2 (L + 1 + 1 + 1 + 1 + 1 + 1 + 1 + 1) ∧ @Ne Nat r3 (L + 1 + 1 + 1 + 1 + 1 + 1 + 1 + 1))
    (hoff : OwnOff rest [L + 1 + 1 + 1 + 1 + 1 + 1 + 1 + 1])
    (h : p ∈ zLed L ml rl r0 r1 r2 r3 nm nr q0 q1 q2 q3 n0 n1 n2 n3 k0 k1 k2 k3 v0 v1 v2 v3 o7 o3 rest o) (he : p.1 = L + 1 + 1 + 1 + 1 + 1 + 1 + 1 + 1) : p = (L + 1 + 1 + 1 + 1 + 1 + 1 + 1 + 1, o) := by
  obtain ⟨h1, h2, h3, h4, h5, h6⟩ := hl
  rcases List.mem_cons.mp h with rfl | h; · exact absurd he h1
  rcases List.mem_cons.mp h with rfl | h; · exact absurd he h2
  rcases List.mem_cons.mp h with rfl | h; · rfl
  rcases List.mem_cons.mp h with rfl | h
  · have he' : @Eq Nat (L + 1 + 1 + 1 + 1 + 1 + 1 + 1) (L + 1 + 1 + 1 + 1 + 1 + 1 + 1 + 1) := he
    omega
  rcases List.mem_cons.mp h with rfl | h
  · have he' : @Eq Nat (L + 1 + 1 + 1) (L + 1 + 1 + 1 + 1 + 1 + 1 + 1 + 1) := he
    omega
  rcases List.mem_cons.mp h with rfl | h; · exact absurd he h3
  rcases List.mem_cons.mp h with rfl | h; · exact absurd he h4
  rcases List.mem_cons.mp h with rfl | h; · exact absurd he h5
  rcases List.mem_cons.mp h with rfl | h; · exact absurd he h6
  exact absurd he (hoff p h _ (.head _))
theorem zip_news {L ml rl r0 r1 r2 r3 : Addr} {nm nr q0 q1 q2 q3 : Nat} {n0 n1 n2 n3 : Int} {k0 k1 k2 k3 : Tok} {v0 v1 v2 v3 : List Value} {o7 o3 o8 : Obj} {led : List (Addr × Obj)} {h₀ h : Heap}
    (N : News h₀ L h led) (h1 : (ml, listOf [Value.int n0 k0, .int n1 k1, .int n2 k2, .int n3 k3].toArray nm) ∈ led) (h2 : (rl, listOf [Value.ref r0, .ref r1, .ref r2, .ref r3].toArray nr) ∈ led)
    (h3 : (L + 1 + 1 + 1 + 1 + 1 + 1 + 1 + 1, o8) ∈ led) (h4 : (L + 1 + 1 + 1 + 1 + 1 + 1 + 1, o7) ∈ led) (h5 : (L + 1 + 1 + 1, o3) ∈ led)
    (g0 : (r0, listOf v0.toArray q0) ∈ led) (g1 : (r1, listOf v1.toArray q1) ∈ led) (g2 : (r2, listOf v2.toArray q2) ∈ led) (g3 : (r3, listOf v3.toArray q3) ∈ led) :
    News h₀ L h (zLed L ml rl r0 r1 r2 r3 nm nr q0 q1 q2 q3 n0 n1 n2 n3 k0 k1 k2 k3 v0 v1 v2 v3 o7 o3 (led.filter fun p => p.1 != L + 1 + 1 + 1 + 1 + 1 + 1 + 1 + 1) o8) := by
  refine fun p hp => N p ?_
  rcases List.mem_cons.mp hp with rfl | hp; · exact h1
  rcases List.mem_cons.mp hp with rfl | hp; · exact h2
  rcases List.mem_cons.mp hp with rfl | hp; · exact h3
  rcases List.mem_cons.mp hp with rfl | hp; · exact h4
  rcases List.mem_cons.mp hp with rfl | hp; · exact h5
  rcases List.mem_cons.mp hp with rfl | hp; · exact g0
  rcases List.mem_cons.mp hp with rfl | hp; · exact g1
  rcases List.mem_cons.mp hp with rfl | hp; · exact g2
  rcases List.mem_cons.mp hp with rfl | hp; · exact g3
  exact (List.mem_filter.mp hp).1
theorem zip_off {led : List (Addr × Obj)} {a : Addr} : OwnOff (led.filter fun p => p.1 != a) [a] := by
  intro p hp b hb
  rw [List.mem_singleton.mp hb]
  simpa using (List.mem_filter.mp hp).2
theorem zip_back {L ml rl r0 r1 r2 r3 : Addr} {nm nr q0 q1 q2 q3 : Nat} {n0 n1 n2 n3 : Int} {k0 k1 k2 k3 : Tok} {v0 v1 v2 v3 : List Value} {o7 o3 o8 : Obj} {led rest : List (Addr × Obj)} {h₀ h : Heap}
    (N : News h₀ L h (zLed L ml rl r0 r1 r2 r3 nm nr q0 q1 q2 q3 n0 n1 n2 n3 k0 k1 k2 k3 v0 v1 v2 v3 o7 o3 (led.filter fun p => p.1 != L + 1 + 1 + 1 + 1 + 1 + 1 + 1 + 1) o8)) (hs : ∀ p ∈ rest, p ∈ led) (ho : ∀ p ∈ rest, p.1 ≠ L + 1 + 1 + 1 + 1 + 1 + 1 + 1 + 1) : News h₀ L h rest :=
  fun p hp => N p (.tail _ (.tail _ (.tail _ (.tail _ (.tail _ (.tail _ (.tail _ (.tail _ (.tail _ (List.mem_filter.mpr ⟨hs p hp, by simpa using ho p hp⟩))))))))))
theorem c_zip {w mean mg mb} (S : Scope) (FS : Stmt) (hS : pScope = S) (hF : stAt pTail 4 = FS) (n0 n1 n2 n3 : Int) (R0 R1 R2 R3 : List Int) (hf0 : Fits n0 R0) (hf1 : Fits n1 R1) (hf2 : Fits n2 R2) (hf3 : Fits n3 R3)
    {dp un : Nat} {gd : Option (List Code)} {an : Addr} {ccd : Value} {outer : List Env} {A₀ : Around} {base h₀ : Heap} {L : Addr} {m₁ : Str → Option Value} {s : Shared} {Q : Flow → Shared → Prop} {E : Value → Shared → Prop}
    {ml rl r0 r1 r2 r3 : Addr} {nm nr q0 q1 q2 q3 : Nat} {k0 k1 k2 k3 ts : Tok} {v0 v1 v2 v3 : List Value} {o7 o3 o8 : Obj} {u8 : Option Value} {sb : Array UInt8} {rest : List (Addr × Obj)}
    (B : Below A₀ base outer h₀) (F : Fr h₀ L s.heap (fun y => if y = Str.ofString "mores" then some (.ref ml) else m₁ y))
    (X : (Mine.hd.heap_39 w.params).In h₀) (T₀ : Top Mine.hd.view_39 Lo mean mg mb h₀)
    (N : News h₀ L s.heap (zLed L ml rl r0 r1 r2 r3 nm nr q0 q1 q2 q3 n0 n1 n2 n3 k0 k1 k2 k3 v0 v1 v2 v3 o7 o3 rest o8))
    (d8 : o8.data = .cell u8) (d7 : o7.data = .cell (some (.bytes sb ts))) (d3 : o3.data = .cell (some (.ref rl))) (hsb : KBw.bInts sb = sgL)
    (hI0 : IntsAre v0 R0) (hI1 : IntsAre v1 R1) (hI2 : IntsAre v2 R2) (hI3 : IntsAre v3 R3)
    (hl : @Ne Nat ml (L + 1 + 1 + 1 + 1 + 1 + 1 + 1 + 1) ∧ @Ne Nat rl (L + 1 + 1 + 1 + 1 + 1 + 1 + 1 + 1) ∧ @Ne Nat r0 (L + 1 + 1 + 1 + 1 + 1 + 1 + 1 + 1) ∧ @Ne Nat r1 (L + 1 + 1 + 1 + 1 + 1 + 1 + 1 + 1) ∧ @Ne Nat r2 (L + 1 + 1 + 1 + 1 + 1 + 1 + 1 + 1) ∧ @Ne Nat r3 (L + 1 + 1 + 1 + 1 + 1 + 1 + 1 + 1))
    (hoff : OwnOff rest [L + 1 + 1 + 1 + 1 + 1 + 1 + 1 + 1])
    (hd : dp + 18 < recursionLimit) (hu : un + 16 * 18 < cLine)
    (kk : ∀ (h' : Heap) (tk' : Nat) (m' : Str → Option Value) (o8' : Obj), Fr h₀ L h' m' → News h₀ L h' (zLed L ml rl r0 r1 r2 r3 nm nr q0 q1 q2 q3 n0 n1 n2 n3 k0 k1 k2 k3 v0 v1 v2 v3 o7 o3 rest o8') → Q .next { s with heap := h', toks := tk' }) :
    wpAny (model PySem.Challenge.rw_op0010_01.row.prog w) (ktrTop dp un gd (Str.ofString "_law_product") S L an ccd (cellsFrom (L + 1) S.names []) outer) (exec FS (envOfC (Str.ofString "_law_product") S L an ccd)) Q E s := by
  (w_top off; have hfill : PySem.Challenge.rw_op0010_01 = PySem.Challenge.rw_op0010_01 ∧ Mine.hd.heap_39 = Mine.hd.heap_39 := (by (k_fill; exact ⟨rfl, rfl⟩)); clear hfill)
  have step : ∀ (n : Int) (R : List Int) (k : Tok) (r : Addr) (v : List Value) (q : Nat), Fits n R → IntsAre v R → @Ne Nat r (L + 1 + 1 + 1 + 1 + 1 + 1 + 1 + 1) →
      (∀ o, (r, listOf v.toArray q) ∈ zLed L ml rl r0 r1 r2 r3 nm nr q0 q1 q2 q3 n0 n1 n2 n3 k0 k1 k2 k3 v0 v1 v2 v3 o7 o3 rest o) →
      ∀ (I : Addr) (s₀ : Shared) (E : Value → Shared → Prop), (∀ p ∈ zLed L ml rl r0 r1 r2 r3 nm nr q0 q1 q2 q3 n0 n1 n2 n3 k0 k1 k2 k3 v0 v1 v2 v3 o7 o3 rest o8, p.1 < I) →
      ∀ (vv : Value) (h : Heap) (tk : Nat) (m : Str → Option Value) (nn its : List (Addr × Obj)), (∃ o u, nn = zLed L ml rl r0 r1 r2 r3 nm nr q0 q1 q2 q3 n0 n1 n2 n3 k0 k1 k2 k3 v0 v1 v2 v3 o7 o3 rest o ∧ o.data = .cell u) →
      (Itm.pair (fun _ => Value.int n k) (.ref r)).Is vv h → Objs [(I + 4, "zip"), (I + 2, "tuple"), (I + 3, "tuple"), (I, "list_iterator"), (I + 1, "list_iterator")] its → Fr h₀ L h m → News h₀ L h (its ++ nn) →
      wpAny (model PySem.Challenge.rw_op0010_01.row.prog w) (ktrTop dp un gd (Str.ofString "_law_product") S L an ccd (cellsFrom (L + 1) S.names []) outer) (assign pTgt (envOfC (Str.ofString "_law_product") S L an ccd) vv)
        (fun _ s₂ => wpAny (model PySem.Challenge.rw_op0010_01.row.prog w) (ktrTop dp un gd (Str.ofString "_law_product") S L an ccd (cellsFrom (L + 1) S.names []) outer) (execs pTurn2 (envOfC (Str.ofString "_law_product") S L an ccd))
          (fun f s₃ => f = .next ∧ ∃ h' tk' m' n', s₃ = { s₀ with heap := h', toks := tk' } ∧ Fr h₀ L h' m' ∧ News h₀ L h' (its ++ n') ∧ (∀ p ∈ n', ∀ q ∈ its, p.1 ≠ q.1) ∧
            (∃ o u, n' = zLed L ml rl r0 r1 r2 r3 nm nr q0 q1 q2 q3 n0 n1 n2 n3 k0 k1 k2 k3 v0 v1 v2 v3 o7 o3 rest o ∧ o.data = .cell u)) E s₂) E { s₀ with heap := h, toks := tk } := by
    rintro n R k r v q hf hI hr hin I s₀ E l1 vv h tk m nn its ⟨o, u, rfl, hdo⟩ hv hits F₁ N₁
    obtain ⟨T, t, rfl, hT⟩ := hv
    have hmap := hits.map
    have hIt : ∀ p ∈ its, I ≤ p.1 := fun p hp => by
      have h1 : p.1 ∈ its.map (·.1) := List.mem_map.mpr ⟨p, hp, rfl⟩
      rw [hmap] at h1
      simp only [List.map_cons, List.map_nil, List.mem_cons, List.not_mem_nil, or_false] at h1
      rcases h1 with e | e | e | e | e <;> (rw [e]; first | exact Nat.le_refl _ | exact Nat.le_add_right _ _)
    have h8 : @LT.lt Nat _ (L + 1 + 1 + 1 + 1 + 1 + 1 + 1 + 1) I := l1 _ (.tail _ (.tail _ (.head _)))
    have hItn : ∀ p ∈ its, p.1 ≠ L + 1 + 1 + 1 + 1 + 1 + 1 + 1 + 1 := fun p hp => Nat.ne_of_gt (Nat.lt_of_lt_of_le h8 (hIt p hp))
    have hfil : ∀ p : Addr × Obj, p.1 ≠ L + 1 + 1 + 1 + 1 + 1 + 1 + 1 + 1 → (p.1 != L + 1 + 1 + 1 + 1 + 1 + 1 + 1 + 1) = true := fun p hp => by simpa using hp
    refine c_step2 (rn := q) S pTurn2 pTgt hS rfl rfl n R hf (rest := (its ++ zLed L ml rl r0 r1 r2 r3 nm nr q0 q1 q2 q3 n0 n1 n2 n3 k0 k1 k2 k3 v0 v1 v2 v3 o7 o3 rest o7).filter fun p => p.1 != L + 1 + 1 + 1 + 1 + 1 + 1 + 1 + 1) B F₁ X T₀ ?_ hdo d7 hT hI hsb hr ?_ hd hu ?_
    · refine fun p hp => N₁ p ?_
      rcases List.mem_cons.mp hp with rfl | hp; · exact List.mem_append_right _ (.tail _ (.tail _ (.head _)))
      rcases List.mem_cons.mp hp with rfl | hp; · exact List.mem_append_right _ (.tail _ (.tail _ (.tail _ (.head _))))
      rcases List.mem_cons.mp hp with rfl | hp; · exact List.mem_append_right _ (hin o)
      obtain ⟨hp, hne⟩ := List.mem_filter.mp hp
      have hne' : p.1 ≠ L + 1 + 1 + 1 + 1 + 1 + 1 + 1 + 1 := by simpa using hne
      rcases List.mem_append.mp hp with hp | hp
      · exact List.mem_append_left _ hp
      · exact List.mem_append_right _ (zled_to hp hne')
    · intro p hp b hb
      obtain ⟨hp, hne⟩ := List.mem_filter.mp hp
      rw [List.mem_singleton.mp hb]
      simpa using hne
    · intro h' tk' m' o8' F' N' d'
      refine ⟨rfl, h', tk', m', _, rfl, F', ?_, ?_, ⟨o8', _, rfl, d'⟩⟩
      · refine fun p hp => N' p ?_
        rcases List.mem_append.mp hp with hp | hp
        · exact .tail _ (.tail _ (.tail _ (List.mem_filter.mpr ⟨List.mem_append_left _ hp, hfil p (hItn p hp)⟩)))
        · by_cases he : p.1 = L + 1 + 1 + 1 + 1 + 1 + 1 + 1 + 1
          · rw [zled_at hl hoff hp he]; exact .head _
          · exact .tail _ (.tail _ (.tail _ (List.mem_filter.mpr ⟨List.mem_append_right _ (zled_to hp he), hfil p he⟩)))
      · intro p hp q hq
        refine Nat.ne_of_lt (Nat.lt_of_lt_of_le ?_ (hIt q hq))
        by_cases he : p.1 = L + 1 + 1 + 1 + 1 + 1 + 1 + 1 + 1
        · rw [he]; exact h8
        · exact l1 p (zled_to hp he)
  conv at hF => lhs; whnf
  conv at hS => lhs; whnf
  subst hF hS
  refine wpAny_noRaise ?_
  refine For_turns F ?_ (by intro _; rfl) PassesOwn.never
  k_with_none
  k_with "call type:zip" => ((k_dflt (refine ktu_zip (xs := [Value.int n0 k0, .int n1 k1, .int n2 k2, .int n3 k3]) (ys := [Value.ref r0, .ref r1, .ref r2, .ref r3]) (news := zLed L ml rl r0 r1 r2 r3 nm nr q0 q1 q2 q3 n0 n1 n2 n3 k0 k1 k2 k3 v0 v1 v2 v3 o7 o3 rest o8) rfl (by k_asm) (by k_asm) (.head _) rfl rfl (.tail _ (.head _)) rfl rfl ?_)); intro I9 l9; (k_dflt (refine zip_rest (fun n => ∃ o u, n = zLed L ml rl r0 r1 r2 r3 nm nr q0 q1 q2 q3 n0 n1 n2 n3 k0 k1 k2 k3 v0 v1 v2 v3 o7 o3 rest o ∧ o.data = .cell u) ?hk ?hd _ ?hs _ _ ⟨o8, _, rfl, d8⟩)); (case hk => k_dflt (rintro n ⟨o, u, rfl, _⟩; exact And.intro (.head _) (And.intro (.tail _ (.head _)) trivial))); (case hd => k_dflt (rintro m n h tk ⟨o, u, rfl, _⟩ F' N'; exact kk h tk m o F' N')); (case hs => k_dflt (intro a ha; rcases List.mem_cons.mp ha with rfl | ha; (exact fun vv h tk m nn its hj hv ho hF hN => step n0 R0 k0 r0 v0 q0 hf0 hI0 hl.2.2.1 (fun o => .tail _ (.tail _ (.tail _ (.tail _ (.tail _ (.head _)))))) I9 _ _ l9 vv h tk m nn its hj hv ho hF hN); rcases List.mem_cons.mp ha with rfl | ha; (exact fun vv h tk m nn its hj hv ho hF hN => step n1 R1 k1 r1 v1 q1 hf1 hI1 hl.2.2.2.1 (fun o => .tail _ (.tail _ (.tail _ (.tail _ (.tail _ (.tail _ (.head _))))))) I9 _ _ l9 vv h tk m nn its hj hv ho hF hN); rcases List.mem_cons.mp ha with rfl | ha; (exact fun vv h tk m nn its hj hv ho hF hN => step n2 R2 k2 r2 v2 q2 hf2 hI2 hl.2.2.2.2.1 (fun o => .tail _ (.tail _ (.tail _ (.tail _ (.tail _ (.tail _ (.tail _ (.head _)))))))) I9 _ _ l9 vv h tk m nn its hj hv ho hF hN); rcases List.mem_cons.mp ha with rfl | ha; (exact fun vv h tk m nn its hj hv ho hF hN => step n3 R3 k3 r3 v3 q3 hf3 hI3 hl.2.2.2.2.2 (fun o => .tail _ (.tail _ (.tail _ (.tail _ (.tail _ (.tail _ (.tail _ (.tail _ (.head _))))))))) I9 _ _ l9 vv h tk m nn its hj hv ho hF hN); cases ha)))
  k_steps

local macro_rules | `(tactic| k_lt $h:ident) => `(tactic| ((replace $h := allLt_of $h); (simp only [AllLt, and_true] at $h:ident); (repeat (obtain ⟨_, $h⟩ := $h))))
local macro_rules | `(tactic| k_ne) => `(tactic| (refine neN ?_; (try dsimp only); first | (refine Nat.ne_of_lt ?_; (repeat (first | exact Nat.lt_succ_self _ | apply Nat.lt_succ_of_lt)); done) | (refine Nat.ne_of_gt ?_; (repeat (first | exact Nat.lt_succ_self _ | apply Nat.lt_succ_of_lt)); done)))
local macro_rules | `(tactic| k_ne) => `(tactic| (refine neN ?_; (try dsimp only); first | with_reducible assumption | exact Ne.symm (by with_reducible assumption) | exact Nat.ne_of_lt (by with_reducible assumption) | exact Nat.ne_of_gt (by with_reducible assumption)))
local macro_rules | `(tactic| walk_at "FinE") => `(tactic| ((unfold LCg.FinE); intro D' h' tk' F' N' o1'; (try simp only [LCg.Off1, and_true] at o1'); (repeat (obtain ⟨_, o1'⟩ := o1')); (try simp only [List.nil_append, List.cons_append] at N'); (try dsimp only)))

theorem c_turn {w mean mg mb} (S : Scope) (BB : List Stmt) (hS : pScope = S) (hB : pTurn = BB) (a oth : Int) (ha : 0 ≤ a) (ha' : a < 281474976710656) (h0 : 0 ≤ oth) (h1 : oth < 65536) 
    {dp un : Nat} {gd : Option (List Code)} {an : Addr} {ccd : Value} {outer : List Env} {A₀ : Around} {base h₀ : Heap} {L : Addr} {m₁ : Str → Option Value} {s : Shared} {Q : Flow → Shared → Prop} {E : Value → Shared → Prop}
    {wl rl ml : Addr} {ws rs ms : List Value} {nw nr nm : Nat} {o1 o2 o3 o4 o5 : Obj} {v4 v5 : Option Value} {ta to tf : Tok} {rest : List (Addr × Obj)}
    (B : Below A₀ base outer h₀)
    (F : Fr h₀ L s.heap (fun y => if y = Str.ofString "other" then some (.int oth to) else if y = Str.ofString "mores" then some (.ref ml) else if y = Str.ofString "a" then some (.int a ta) else m₁ y))
    (X : (Mine.hd.heap_39 w.params).In h₀) (T : Top Mine.hd.view_39 Lo mean mg mb h₀)
    (N : News h₀ L s.heap ((wl, listOf ws.toArray nw) :: (rl, listOf rs.toArray nr) :: (ml, listOf ms.toArray nm) :: (L + 1 + 1 + 1 + 1 + 1, o5) :: (L + 1 + 1 + 1 + 1, o4) :: (L + 1 + 1 + 1, o3) :: (L + 1 + 1, o2) :: (L + 1, o1) :: rest))
    (d1 : o1.data = .cell (some (.bytes (byteArr (wordK a.natAbs 12)) tf))) (d2 : o2.data = .cell (some (.ref wl))) (d3 : o3.data = .cell (some (.ref rl))) (d4 : o4.data = .cell v4) (d5 : o5.data = .cell v5)
    (l1 : @LT.lt Nat _ (L + 1 + 1 + 1 + 1 + 1) wl ∧ @LT.lt Nat _ wl rl ∧ @LT.lt Nat _ rl ml)
    (hoff : OwnOff rest [wl, rl, ml, L + 1 + 1 + 1 + 1 + 1, L + 1 + 1 + 1 + 1, L + 1 + 1 + 1, L + 1 + 1, L + 1])
    (hws : ws.length ≤ 3) (hrs : rs.length ≤ 3) (hms : ms.length ≤ 3) (hd : dp + 18 < recursionLimit) (hu : un + 16 * 18 < cLine)
    (kk : ∀ (h' : Heap) (tk' : Nat) (ra : Addr) (rvs : List Value) (rn : Nat) (o4' o5' : Obj) (v4' v5' : Option Value) (vw vc : Value) (t1 t2 : Tok),
      Fr h₀ L h' (fun y => if y = Str.ofString "row" then some (.ref ra) else if y = Str.ofString "word" then some vw else if y = Str.ofString "columns" then some vc else if y = Str.ofString "other" then some (.int oth to) else if y = Str.ofString "mores" then some (.ref ml) else if y = Str.ofString "a" then some (.int a ta) else m₁ y) →
      News h₀ L h' ((wl, listOf (ws ++ [Value.bytes (byteArr (wordK (a * oth).natAbs 16)) t1]).toArray (nw + 1)) :: (rl, listOf (rs ++ [Value.ref ra]).toArray (nr + 1)) :: (ml, listOf (ms ++ [Value.int (num64 (wordK (a * oth).natAbs 16) - num64 (wordK a.natAbs 12) * num64 (wordK oth.natAbs 4)) t2]).toArray (nm + 1)) :: (L + 1 + 1 + 1 + 1 + 1, o5') :: (L + 1 + 1 + 1 + 1, o4') :: (L + 1 + 1 + 1, o3) :: (L + 1 + 1, o2) :: (L + 1, o1) :: (ra, listOf rvs.toArray rn) :: rest) →
      IntsAre rvs (cfold (colsK (wordK a.natAbs 12) (wordK oth.natAbs 4))).2.1 → o4'.data = .cell v4' → o5'.data = .cell v5' → AllLt ra rest → @LT.lt Nat _ ml ra → Q .next { s with heap := h', toks := tk' }) :
    wpAny (model PySem.Challenge.rw_op0010_01.row.prog w) (ktrTop dp un gd (Str.ofString "_law_product") S L an ccd (cellsFrom (L + 1) S.names []) outer) (execs BB (envOfC (Str.ofString "_law_product") S L an ccd)) Q E s := by
  have hx3 : (a * oth).natAbs < 16 ^ 16 := prod_small ha ha' h0 h1
  (w_top off; have hfill : PySem.Challenge.rw_op0010_01 = PySem.Challenge.rw_op0010_01 ∧ Mine.hd.heap_39 = Mine.hd.heap_39 := (by (k_fill; exact ⟨rfl, rfl⟩)); clear hfill)
  conv at hS => lhs; whnf
  conv at hB => lhs; whnf
  subst hS hB
  k_with_none
  k_with "call ref" => k_dflt (first
    | refine' use (c_word _ _ 4 rfl (by decide) (by (show _ < (65536 : Nat)); omega) _ _) ?k1 ?k2 ?k3 ?k4 ?k5 ?kK ?kd ?ku ?_; ((case k1 => k_asm); (case k2 => k_asm); (case k3 => k_asm); (case k4 => k_asm); (case k5 => k_asm); (case kK => first | exact rfl | assumption); (case kd => ktr_room); (case ku => ktr_units); intro tU9 hU9 tkU9 FU9 NU9; (try dsimp only); (try k_fold))
    | (refine' use (c_word _ _ 16 rfl (by decide) hx3 _ _) ?k1 ?k2 ?k3 ?k4 ?k5 ?kK ?kd ?ku ?_; ((case k1 => k_asm); (case k2 => k_asm); (case k3 => k_asm); (case k4 => k_asm); (case k5 => k_asm); (case kK => first | exact rfl | assumption); (case kd => ktr_room); (case ku => ktr_units); intro tU9 hU9 tkU9 FU9 NU9; (try dsimp only); (try k_fold)))
    | (refine' use (c_count _ W1 hi1 hv1 (by omega) (by omega) _) ?k1 ?k2 ?k3 ?k4 ?k5 ?kK ?kd ?ku ?_; ((case k1 => k_asm); (case k2 => k_asm); (case k3 => k_asm); (case k4 => k_asm); (case k5 => k_asm); (case kK => first | exact rfl | assumption); (case kd => ktr_room); (case ku => ktr_units); intro tU9 hU9 tkU9 FU9 NU9; (try dsimp only); (try k_fold)))
    | (refine' use (c_count _ (wordK oth.natAbs 4) hi2 hv2 (by omega) (by omega) _) ?k1 ?k2 ?k3 ?k4 ?k5 ?kK ?kd ?ku ?_; ((case k1 => k_asm); (case k2 => k_asm); (case k3 => k_asm); (case k4 => k_asm); (case k5 => k_asm); (case kK => first | exact rfl | assumption); (case kd => ktr_room); (case ku => ktr_units); intro tU9 hU9 tkU9 FU9 NU9; (try dsimp only); (try k_fold)))
    | (refine' use (c_count _ (wordK (a * oth).natAbs 16) hi3 hv3 (by omega) (by omega) _) ?k1 ?k2 ?k3 ?k4 ?k5 ?kK ?kd ?ku ?_; ((case k1 => k_asm); (case k2 => k_asm); (case k3 => k_asm); (case k4 => k_asm); (case k5 => k_asm); (case kK => first | exact rfl | assumption); (case kd => ktr_room); (case ku => ktr_units); intro tU9 hU9 tkU9 FU9 NU9; (try dsimp only); (try k_fold)))
    | (refine' useC (c_carried _ hcl hcn) ?k1 ?k2 ?k3 ?k4 ?kI ?k5 ?kK ?kd ?ku ?_; (case k1 => k_asm); (case k2 => k_asm); (case k3 => k_asm); (case k4 => k_asm); (case kI => assumption); (case k5 => k_asm); (case kK => first | exact rfl | assumption); (case kd => ktr_room); (case ku => ktr_units); intro D9 ra9 rvs9 dn9 rn9 t9 h9 tk9 F9 N9 hJ9 hlt9 hlt8; (replace hlt8 := ltN hlt8); (replace hlt9 := allLt_of hlt9); (simp only [AllLt, and_true] at hlt9); (try dsimp only); (try k_fold))
    | fail "no contract")
  generalize hW1 : wordK a.natAbs 12 = W1 at *
  have hl1 : W1.length = 12 := by subst hW1; exact word_len (by (show _ < (281474976710656 : Nat)); omega)
  have hi1 : KBw.bInts (byteArr W1) = W1 := by subst hW1; exact word_ints _ _
  have hl2 : (wordK oth.natAbs 4).length = 4 := word_len (by (show _ < (65536 : Nat)); omega)
  have hi2 : KBw.bInts (byteArr (wordK oth.natAbs 4)) = wordK oth.natAbs 4 := word_ints _ _
  have hv1 : ∀ k ∈ W1, b64v k < 64 := by subst hW1; exact word_b64 _ _
  have hv2 : ∀ k ∈ wordK oth.natAbs 4, b64v k < 64 := word_b64 _ _
  have hl3 : (wordK (a * oth).natAbs 16).length = 16 := word_len hx3
  have hi3 : KBw.bInts (byteArr (wordK (a * oth).natAbs 16)) = wordK (a * oth).natAbs 16 := word_ints _ _
  have hv3 : ∀ k ∈ wordK (a * oth).natAbs 16, b64v k < 64 := word_b64 _ _
  have hmul : IntMulOk (num64 W1) (num64 (wordK oth.natAbs 4)) := num64_mul _ hv2 hl2
  have hEqW : byteArr (cfold (colsK W1 (wordK oth.natAbs 4))).1 = byteArr (wordK (a * oth).natAbs 16) := by subst hW1; rw [cols_word ha ha' h0 h1]
  have hcl : (colsK W1 (wordK oth.natAbs 4)).length ≤ 16 := by simp [colsK]
  have hcn : ∀ n ∈ colsK W1 (wordK oth.natAbs 4), 0 ≤ n := by subst hW1; exact cols_nn (a_small ha ha') (o_small h0 h1)
  k_with "eval ListComp" => ((with_reducible show wpAny _ _ (eval (Expr.ListComp _ [⟨_, _, [_], _⟩] _ _) _) _ _ _); k_dflt (refine LCt.ListComp_T (F₀ := by k_asm) (by with_unfolding_all rfl) (by decide) (by rfl) (by decide) (by rfl) ?_); k_dflt lct_toSrc)
  k_with "CompSrcT" => k_dflt (refine LCt.CompSrcT.range (by rfl) (by k_asm) (by k_asm) (by assumption) (by decide) (by rfl) (by exact Nat.le_of_ble_eq_true rfl) ?_; intro g'; refine' kci_range (n := 4) (colG W1 (wordK oth.natAbs 4) (i9 : Int)) (fun k' t' I' oI' C' oC' D' m' ys' l' h' tk' E' hlo' hhi' hI' hC' hx' F' N' off' ne' hMark' => ?_) ?_ (colG_grows _ _ _))
  k_with "TurnEnd" => (k_dflt (refine' TurnEnd.cols ?F ?N ?hn ?hd ?hI); (case F => k_asm); (case N => k_asm); (case hn => ((try dsimp only [List.cons_append]); (repeat (first | exact List.forall_mem_cons.mpr ⟨by k_memK, by (intro p hp; repeat (first | exact hp | apply List.Mem.tail))⟩ | refine List.forall_mem_cons.mpr ⟨by k_memK, ?_⟩)))); (case hd => assumption); (case hI => exact cols_push hI9))
  k_with "subscriptTail" => ((with_reducible show wpAny _ _ (subscriptTail _ (Expr.UnaryOp _ _ _) (Value.ref _) _) _ _ _); k_dflt (refine' item_last ?k1 ?k2 ?k3 ?_ ?k4; (case k1 => k_asm); (case k2 => k_mem); (case k3 => (simp only [List.size_toArray]; omega)); (case k4 => with_unfolding_all rfl); k_whole))
  k_with "ite" => (refine ite_neg (by rw [hEqW]; simp) ?_)
  k_with "CompEnd" => k_dflt (refine LCg.CompEnd.intro (by assumption) (by assumption) _ (fun p hp => hp) (by assumption) trivial ?_)
  k_with "KCiEl" => k_dflt (first | exact kci_el (colG_yes (by omega) (by omega)) rfl rfl)
  k_with "KCiNo" => k_dflt (first | exact kci_no (colG_no (by omega)) rfl)
  k_with "exec For Name Call cons nil" => k_dflt (refine For_R (by k_asm) ?_)
  k_with "LoopR" => (skip; k_dflt (refine' LoopR.cols (n := 16) (fun i => colV W1 (wordK oth.natAbs 4) (i : Int)) ?hL ?hh ?hlc ?hcc ?hr ?hsm ?hn ?lF ?lN ?U1 ?hd ?U2 ?turn ?done); (case hL => rfl); (case lF => k_asm); (case lN => k_asm); (case hlc => with_unfolding_all rfl); (case hcc => with_unfolding_all rfl); (case hh => rfl); (case hr => assumption); (case hsm => decide); (case hn => rfl); (case U1 => k_updF); (case hd => assumption); (case U2 => (intro o9; (try dsimp only); k_updF)); (intro i9 t9 vs9 ln9 oc9 v9 h9 tk9 own9 hi9 hI9 hd9 hof9 F9 N9; (have hL9 : vs9.length = i9 := by rw [IntsAre.length hI9, List.length_map, List.length_range]); (try dsimp only [List.map, List.cons_append] at hof9 N9 F9); (try k_fold)); rotate_left; (intro h9 tk9 vs9 ln9 oc9 v9 hI9 hd9 F9 N9; (try dsimp only at N9 F9); (try k_fold)); rotate_left)
  k_steps
  all_goals (obtain ⟨hq1, hq2, hq3, hq4, hq5⟩ := hlt9)
  refine' kk _ _ ra9 rvs9 _ _ _ _ _ _ _ _ _ ?hF (turn_news ?hN) hJ9 ?h4 hd9 ?hA hq4
  case hF => k_asm
  case hN => k_asm
  case h4 => assumption
  case hA => ((repeat (cases ‹_ ∧ _›)); assumption)

theorem c_tail {w mean mg mb} (S : Scope) (BB : List Stmt) (hS : pScope = S) (hB : pTail = BB) (X0 X1 X2 R0 R1 : List Int) (n0 n1 n2 : Int) (hX0 : IsWord X0) (hX1 : IsWord X1) (hX2 : IsWord X2) (hR0 : R0.length = 16) (hR1 : R1.length = 16)
    (hf0 : Fits n0 R0) (hf1 : Fits n1 R1) (hf2 : Fits n2 (sumK R0 R1 (cfold (addK X0 X1)).2.1)) (hf3 : Fits (num64 X2 - num64 X0 - num64 X1) (cfold (addK X0 X1)).2.1)
    {dp un : Nat} {gd : Option (List Code)} {an : Addr} {ccd : Value} {outer : List Env} {A₀ : Around} {base h₀ : Heap} {L : Addr} {m₁ : Str → Option Value} {s : Shared} {Q : Flow → Shared → Prop} {E : Value → Shared → Prop}
    {wl rl ml r0 r1 r2 : Addr} {b0 b1 b2 : Array UInt8} {v0 v1 v2 : List Value} {m0 m1 m2 nw nr nm : Nat} {o1 o2 o3 o4 o5 o6 o7 o8 : Obj} {u4 u5 u6 u7 u8 : Option Value} {t0 t1 t2 k0 k1 k2 tf : Tok} {W1 : Array UInt8} {rest : List (Addr × Obj)}
    (B : Below A₀ base outer h₀)
    (F : Fr h₀ L s.heap (fun y => if y = Str.ofString "mores" then some (.ref ml) else m₁ y))
    (X : (Mine.hd.heap_39 w.params).In h₀) (T : Top Mine.hd.view_39 Lo mean mg mb h₀)
    (N : News h₀ L s.heap ((wl, listOf #[.bytes b0 t0, .bytes b1 t1, .bytes b2 t2] nw) :: (rl, listOf #[.ref r0, .ref r1, .ref r2] nr) :: (ml, listOf #[.int n0 k0, .int n1 k1, .int n2 k2] nm) ::
      (L + 1 + 1 + 1 + 1 + 1 + 1 + 1 + 1, o8) :: (L + 1 + 1 + 1 + 1 + 1 + 1 + 1, o7) :: (L + 1 + 1 + 1 + 1 + 1 + 1, o6) :: (L + 1 + 1 + 1 + 1 + 1, o5) :: (L + 1 + 1 + 1 + 1, o4) :: (L + 1 + 1 + 1, o3) :: (L + 1 + 1, o2) :: (L + 1, o1) ::
      (r0, listOf v0.toArray m0) :: (r1, listOf v1.toArray m1) :: (r2, listOf v2.toArray m2) :: rest))
    (d1 : o1.data = .cell (some (.bytes W1 tf))) (d2 : o2.data = .cell (some (.ref wl))) (d3 : o3.data = .cell (some (.ref rl))) (d4 : o4.data = .cell u4) (d5 : o5.data = .cell u5) (d6 : o6.data = .cell u6) (d7 : o7.data = .cell u7) (d8 : o8.data = .cell u8)
    (hb0 : KBw.bInts b0 = X0) (hb1 : KBw.bInts b1 = X1) (hb2 : KBw.bInts b2 = X2) (hI0 : IntsAre v0 R0) (hI1 : IntsAre v1 R1)
    (l1 : @LT.lt Nat _ (L + 1 + 1 + 1 + 1 + 1 + 1 + 1 + 1) wl ∧ @LT.lt Nat _ wl rl ∧ @LT.lt Nat _ rl ml ∧ @LT.lt Nat _ ml r0 ∧ @LT.lt Nat _ r0 r1 ∧ @LT.lt Nat _ r1 r2)
    (hoff : OwnOff rest [wl, rl, ml, L + 1 + 1 + 1 + 1 + 1 + 1 + 1 + 1, L + 1 + 1 + 1 + 1 + 1 + 1 + 1, L + 1 + 1 + 1 + 1 + 1 + 1, L + 1 + 1 + 1 + 1 + 1, L + 1 + 1 + 1 + 1, L + 1 + 1 + 1, L + 1 + 1, L + 1, r0, r1, r2])
    (hd : dp + 18 < recursionLimit) (hu : un + 16 * 18 < cLine)
    (kk : ∀ (h' : Heap) (tk' : Nat) (m' : Str → Option Value), Fr h₀ L h' m' → News h₀ L h' rest → Q (.ret (.bool true)) { s with heap := h', toks := tk' }) :
    wpAny (model PySem.Challenge.rw_op0010_01.row.prog w) (ktrTop dp un gd (Str.ofString "_law_product") S L an ccd (cellsFrom (L + 1) S.names []) outer) (execs BB (envOfC (Str.ofString "_law_product") S L an ccd)) Q E s := by
  (w_top off; have hfill : PySem.Challenge.rw_op0010_01 = PySem.Challenge.rw_op0010_01 ∧ Mine.hd.heap_39 = Mine.hd.heap_39 := (by (k_fill; exact ⟨rfl, rfl⟩)); clear hfill)
  conv at hS => lhs; whnf
  conv at hB => lhs; whnf
  subst hS hB
  k_with_none
  have hx0 := hX0.len
  have hx1 := hX1.len
  have hx2 := hX2.len
  have hv0 := hX0.b64
  have hv1 := hX1.b64
  have hv2 := hX2.b64
  have hAl : (addK X0 X1).length ≤ 16 := by simp [addK, rangeKs_length]
  have hAn : ∀ n ∈ addK X0 X1, 0 ≤ n := add_nn hX0 hX1
  have hCl := hf3.len
  k_with "eval ListComp" => (k_dflt (refine LCg.ListComp_U (F₀ := by k_asm) (by with_unfolding_all rfl) (by decide) (by rfl) (by decide) (by rfl) ?_); k_dflt lcg_toSrc)
  k_with "CompSrc" => (k_dflt (refine LCg.CompSrc.range (by rfl) (by k_asm) (by k_asm) (by assumption) (by decide) (by rfl) (by exact Nat.le_of_ble_eq_true rfl) ?_); intro g'; k_dflt (refine' kcf_range (n := 16) (addG X0 X1) (fun k' t' I' oI' C' oC' D' m' ys' h' tk' E' hlo' hhi' hC' hx' F' N' off' ne' hMark' => ?_) ?_))
  k_with "CompSrc" => ((have hJz := hJ9); k_dflt (refine LCg.CompSrc.range (by rfl) (by k_asm) (by k_asm) (by assumption) (by decide) (by rfl) (by exact Nat.le_of_ble_eq_true rfl) ?_); intro g'; k_dflt (refine' kcf_range (n := 16) (sumG R0 R1 (cfold (addK X0 X1)).2.1) (fun k' t' I' oI' C' oC' D' m' ys' h' tk' E' hlo' hhi' hC' hx' F' N' off' ne' hMark' => ?_) ?_))
  k_with "KCfEl" => k_dflt (first | exact kcf_el rfl rfl rfl)
  k_with "subscriptTail" => ((with_reducible show wpAny _ _ (subscriptTail _ _ (Value.bytes _ _) (Value.int _ _)) _ _ _); k_dflt (first | refine KBw.item_K hb0 (by omega) (by omega) (by omega) ?_ | refine KBw.item_K hb1 (by omega) (by omega) (by omega) ?_); intro t9 k9 hlo9 hhi9)
  k_with "subscriptTail" => ((with_reducible show wpAny _ _ (subscriptTail _ (Expr.Name _ _) (Value.ref _) (Value.int _ _)) _ _ _); k_dflt (refine' item_ints ?k1 ?k2 ?k3 ?k4 ?k5 ?k6 ?_ ?k7; (case k1 => k_asm); (case k2 => k_mem); (case k3 => assumption); (case k4 => omega); (case k5 => omega); (case k6 => omega); (case k7 => with_unfolding_all rfl); intro t9))
  k_with "call ref" => k_dflt (first
    | (refine' use (c_count _ X0 hb0 hv0 (by omega) (by omega) _) ?k1 ?k2 ?k3 ?k4 ?k5 ?kK ?kd ?ku ?_; ((case k1 => k_asm); (case k2 => k_asm); (case k3 => k_asm); (case k4 => k_asm); (case k5 => k_asm); (case kK => first | exact rfl | assumption); (case kd => ktr_room); (case ku => ktr_units); intro tU9 hU9 tkU9 FU9 NU9; (try dsimp only); (try k_fold)))
    | (refine' use (c_count _ X1 hb1 hv1 (by omega) (by omega) _) ?k1 ?k2 ?k3 ?k4 ?k5 ?kK ?kd ?ku ?_; ((case k1 => k_asm); (case k2 => k_asm); (case k3 => k_asm); (case k4 => k_asm); (case k5 => k_asm); (case kK => first | exact rfl | assumption); (case kd => ktr_room); (case ku => ktr_units); intro tU9 hU9 tkU9 FU9 NU9; (try dsimp only); (try k_fold)))
    | (refine' use (c_count _ X2 hb2 hv2 (by omega) (by omega) _) ?k1 ?k2 ?k3 ?k4 ?k5 ?kK ?kd ?ku ?_; ((case k1 => k_asm); (case k2 => k_asm); (case k3 => k_asm); (case k4 => k_asm); (case k5 => k_asm); (case kK => first | exact rfl | assumption); (case kd => ktr_room); (case ku => ktr_units); intro tU9 hU9 tkU9 FU9 NU9; (try dsimp only); (try k_fold)))
    | (refine' useC (c_carried _ hAl hAn) ?k1 ?k2 ?k3 ?k4 ?kI ?k5 ?kK ?kd ?ku ?_; (case k1 => k_asm); (case k2 => k_asm); (case k3 => k_asm); (case k4 => k_asm); (case kI => assumption); (case k5 => k_asm); (case kK => first | exact rfl | assumption); (case kd => ktr_room); (case ku => ktr_units); intro D9 ra9 rvs9 dn9 rn9 t9 h9 tk9 F9 N9 hJ9 hlt9 hlt8; (replace hlt8 := ltN hlt8); (replace hlt9 := allLt_of hlt9); (simp only [AllLt, and_true] at hlt9); (try dsimp only); (try k_fold))
    | fail "no contract")
  k_with "CompEnd" => k_dflt (refine LCg.CompEnd.intro (by assumption) (by assumption) _ (fun p hp => hp) (by assumption) (by first | trivial | lcg_src | assumption) ?_)
  k_with "exec For Tuple Call cons nil" => ((k_dflt (refine' c_zip _ _ rfl rfl n0 n1 n2 (num64 X2 - num64 X0 - num64 X1) R0 R1 (sumK R0 R1 (cfold (addK X0 X1)).2.1) (cfold (addK X0 X1)).2.1 hf0 hf1 hf2 hf3 B ?F X T (zip_news ?N ?h1 ?h2 ?h3 ?h4 ?h5 ?g0 ?g1 ?g2 ?g3) ?d8 ?d7 ?d3 ?hsb hI0 hI1 ?hI2 ?hI3 ?hl zip_off hd hu ?kk)); (case F => k_asm); (case N => k_asm); (case h1 => k_dflt k_memK); (case h2 => k_dflt k_memK); (case h3 => k_dflt k_memK); (case h4 => k_dflt k_memK); (case h5 => k_dflt k_memK); (case g0 => k_dflt k_memK); (case g1 => k_dflt k_memK); (case g2 => k_dflt k_memK); (case g3 => k_dflt k_memK); (case d8 => assumption); (case d7 => assumption); (case d3 => assumption); (case hsb => k_dflt rfl); (case hI2 => k_dflt assumption); (case hI3 => assumption); (case hl => (refine ⟨?_, ?_, ?_, ?_, ?_, ?_⟩ <;> first | with_reducible assumption | exact Ne.symm (by with_reducible assumption) | omega)); (intro h9 tk9 m9 o9 F9 N9; have N8 := zip_back (rest := rest) N9 (by (intro p hp; repeat (first | exact hp | apply List.Mem.tail))) (fun p hp => hoff p hp _ (.tail _ (.tail _ (.tail _ (.head _))))); clear N9; (try k_fold)))
  k_steps
  all_goals exact kk _ _ _ (by k_asm) N8

abbrev lpLed (L wl rl ml : Addr) (ws rs ms : List Value) (nw nr nm : Nat) (o5 o4 o3 o2 o1 : Obj) (rest : List (Addr × Obj)) : List (Addr × Obj) :=
  (wl, listOf ws.toArray nw) :: (rl, listOf rs.toArray nr) :: (ml, listOf ms.toArray nm) :: (L + 1 + 1 + 1 + 1 + 1, o5) :: (L + 1 + 1 + 1 + 1, o4) :: (L + 1 + 1 + 1, o3) :: (L + 1 + 1, o2) :: (L + 1, o1) :: rest
theorem mem_mid {α : Type} {p i : α} {xs ys : List α} (h : p ∈ xs ++ i :: ys) : p ∈ i :: (xs ++ ys) := by
  rcases List.mem_append.mp h with h | h
  · exact .tail _ (List.mem_append_left _ h)
  rcases List.mem_cons.mp h with rfl | h
  · exact .head _
  · exact .tail _ (List.mem_append_right _ h)
theorem mem_dim {α : Type} {p i : α} {xs ys : List α} (h : p ∈ i :: (xs ++ ys)) : p ∈ xs ++ i :: ys := by
  rcases List.mem_cons.mp h with rfl | h
  · exact List.mem_append_right _ (.head _)
  rcases List.mem_append.mp h with h | h
  · exact List.mem_append_left _ h
  · exact List.mem_append_right _ (.tail _ h)
theorem mem_i {α : Type} {p i w r m c5 c4 c3 c2 c1 : α} {rest : List α} (h : p ∈ w :: r :: m :: c5 :: c4 :: c3 :: c2 :: c1 :: i :: rest) : p ∈ i :: w :: r :: m :: c5 :: c4 :: c3 :: c2 :: c1 :: rest := mem_mid (xs := [w, r, m, c5, c4, c3, c2, c1]) h
theorem mem_j {α : Type} {p i a w r m c5 c4 c3 c2 c1 : α} {rest : List α} (h : p ∈ i :: w :: r :: m :: c5 :: c4 :: c3 :: c2 :: c1 :: a :: rest) : p ∈ w :: r :: m :: c5 :: c4 :: c3 :: c2 :: c1 :: a :: i :: rest := mem_dim (xs := [w, r, m, c5, c4, c3, c2, c1, a]) h
theorem lp_step {w mean mg mb} (S : Scope) (BB : List Stmt) (hS : pScope = S) (hB : pTurn = BB) (a oth : Int) (ha : 0 ≤ a) (ha' : a < 281474976710656) (h0 : 0 ≤ oth) (h1 : oth < 65536)
    {dp un : Nat} {gd : Option (List Code)} {an : Addr} {ccd : Value} {outer : List Env} {A₀ : Around} {base h₀ : Heap} {L : Addr} {m : Str → Option Value} {s : Shared} {Q : Flow → Shared → Prop} {E : Value → Shared → Prop}
    {wl rl ml I D : Addr} {lo : Obj} {ws rs ms : List Value} {nw nr nm : Nat} {o1 o2 o3 o4 o5 : Obj} {v4 v5 : Option Value} {ta to tf : Tok} {rest : List (Addr × Obj)} {px : Pos} {r : List Itm}
    (B : Below A₀ base outer h₀) (X : (Mine.hd.heap_39 w.params).In h₀) (T : Top Mine.hd.view_39 Lo mean mg mb h₀)
    (hm1 : m (Str.ofString "mores") = some (.ref ml)) (hm2 : m (Str.ofString "a") = some (.int a ta))
    (d1 : o1.data = .cell (some (.bytes (byteArr (wordK a.natAbs 12)) tf))) (d2 : o2.data = .cell (some (.ref wl))) (d3 : o3.data = .cell (some (.ref rl))) (d4 : o4.data = .cell v4) (d5 : o5.data = .cell v5)
    (l1 : @LT.lt Nat _ (L + 1 + 1 + 1 + 1 + 1) wl ∧ @LT.lt Nat _ wl rl ∧ @LT.lt Nat _ rl ml) (hI : @LT.lt Nat _ ml I)
    (hoff : OwnOff rest [wl, rl, ml, L + 1 + 1 + 1 + 1 + 1, L + 1 + 1 + 1 + 1, L + 1 + 1 + 1, L + 1 + 1, L + 1]) (hrI : ∀ p ∈ rest, p.1 ≠ I) (hkeep : (D, lo) ∈ rest)
    (hws : ws.length ≤ 3) (hrs : rs.length ≤ 3) (hms : ms.length ≤ 3) (hd : dp + 18 < recursionLimit) (hu : un + 16 * 18 < cLine)
    (next : ∀ (m' : Str → Option Value) (ra : Addr) (rvs : List Value) (rn : Nat) (o4' o5' : Obj) (v4' v5' : Option Value) (t1 t2 : Tok), m' (Str.ofString "mores") = some (.ref ml) → m' (Str.ofString "a") = some (.int a ta) →
      IntsAre rvs (cfold (colsK (wordK a.natAbs 12) (wordK oth.natAbs 4))).2.1 → o4'.data = .cell v4' → o5'.data = .cell v5' → (∀ p ∈ rest, p.1 < ra) → @LT.lt Nat _ I ra → @LT.lt Nat _ ml ra →
      ItemsRest PySem.Challenge.rw_op0010_01.row.prog w (ktrTop dp un gd (Str.ofString "_law_product") S L an ccd (cellsFrom (L + 1) S.names []) outer) E h₀ (envOfC (Str.ofString "_law_product") S L an ccd) (.Name (Str.ofString "other") px) BB Q s [(I, "tuple_iterator")] [(D, lo)] r m'
        (lpLed L wl rl ml (ws ++ [Value.bytes (byteArr (wordK (a * oth).natAbs 16)) t1]) (rs ++ [Value.ref ra]) (ms ++ [Value.int (num64 (wordK (a * oth).natAbs 16) - num64 (wordK a.natAbs 12) * num64 (wordK oth.natAbs 4)) t2]) (nw + 1) (nr + 1) (nm + 1) o5' o4' o3 o2 o1 ((ra, listOf rvs.toArray rn) :: rest))) :
    ItemsRest PySem.Challenge.rw_op0010_01.row.prog w (ktrTop dp un gd (Str.ofString "_law_product") S L an ccd (cellsFrom (L + 1) S.names []) outer) E h₀ (envOfC (Str.ofString "_law_product") S L an ccd) (.Name (Str.ofString "other") px) BB Q s [(I, "tuple_iterator")] [(D, lo)] (.val (.int oth to) :: r) m
        (lpLed L wl rl ml ws rs ms nw nr nm o5 o4 o3 o2 o1 rest) := by
  refine ItemsRest.val ?_
  intro h tk F
  refine AllObj.cons (fun oI hcI => AllObj.nil (fun N => ?_))
  have N₁ : News h₀ L h (lpLed L wl rl ml ws rs ms nw nr nm o5 o4 o3 o2 o1 ((I, oI) :: rest)) := fun p hp => N p (mem_i hp)
  have F₁ : Fr h₀ L h m := F
  refine wpAny_assign_Name ?_
  refine storeX_L F₁ N₁ ?_ (by subst hS; rfl) (by subst hS; rfl)
  intro h' F' N'
  have n1 : Str.ofString "mores" ≠ Str.ofString "other" := by decide
  have n2 : Str.ofString "a" ≠ Str.ofString "other" := by decide
  have n3 : Str.ofString "a" ≠ Str.ofString "mores" := by decide
  have e : (fun y => if y = Str.ofString "other" then some (Value.int oth to) else m y) = (fun y => if y = Str.ofString "other" then some (.int oth to) else if y = Str.ofString "mores" then some (.ref ml) else if y = Str.ofString "a" then some (.int a ta) else m y) := by
    funext y
    by_cases g1 : y = Str.ofString "other"
    · rw [g1, if_pos rfl, if_pos rfl]
    · by_cases g2 : y = Str.ofString "mores"
      · rw [g2, if_neg n1, if_neg n1, if_pos rfl, hm1]
      · by_cases g3 : y = Str.ofString "a"
        · rw [g3, if_neg n2, if_neg n2, if_neg n3, if_pos rfl, hm2]
        · rw [if_neg g1, if_neg g1, if_neg g2, if_neg g3]
  rw [e] at F'
  refine c_turn S BB hS hB a oth ha ha' h0 h1 B F' X T N' d1 d2 d3 d4 d5 l1 ?_ hws hrs hms hd hu ?_
  · intro p hp b hb
    rcases List.mem_cons.mp hp with rfl | hp
    · exact hi_off l1.1 l1.2.1 l1.2.2 hI b hb
    · exact hoff p hp b hb
  · intro h' tk' ra rvs rn o4' o5' v4' v5' vw vc t1 t2 F'' N'' hI' d4' d5' hA hml
    refine ⟨h', tk', _, lpLed L wl rl ml (ws ++ [Value.bytes (byteArr (wordK (a * oth).natAbs 16)) t1]) (rs ++ [Value.ref ra]) (ms ++ [Value.int (num64 (wordK (a * oth).natAbs 16) - num64 (wordK a.natAbs 12) * num64 (wordK oth.natAbs 4)) t2]) (nw + 1) (nr + 1) (nm + 1) o5' o4' o3 o2 o1 ((ra, listOf rvs.toArray rn) :: rest), rfl, F'', ?_, ?_, ⟨?_, trivial⟩, ?_⟩
    · exact fun p hp => N'' p (mem_j hp)
    · intro p hp q hq
      rw [List.mem_singleton.mp hq]
      have hup := up_off l1.1 l1.2.1 l1.2.2 hI
      simp only [List.forall_mem_cons] at hup
      obtain ⟨u1, u2, u3, u5, u4, u3', u2', u1', _⟩ := hup
      simp only [lpLed, List.mem_cons] at hp
      rcases hp with rfl | rfl | rfl | rfl | rfl | rfl | rfl | rfl | rfl | hp
      · exact Nat.ne_of_lt u1
      · exact Nat.ne_of_lt u2
      · exact Nat.ne_of_lt u3
      · exact Nat.ne_of_lt u5
      · exact Nat.ne_of_lt u4
      · exact Nat.ne_of_lt u3'
      · exact Nat.ne_of_lt u2'
      · exact Nat.ne_of_lt u1'
      · exact Nat.ne_of_gt hA.1
      · exact hrI p hp
    · exact .tail _ (.tail _ (.tail _ (.tail _ (.tail _ (.tail _ (.tail _ (.tail _ (.tail _ hkeep))))))))
    · refine next _ ra rvs rn o4' o5' v4' v5' t1 t2 ?_ ?_ hI' d4' d5' (fun p hp => allLt_mem hA.2 p hp) hA.1 hml
      · rfl
      · rfl

theorem allObj_mono : ∀ {ws : List (Addr × String)} {k k' : List (Addr × Obj) → Prop}, (∀ its, k its → k' its) → AllObj ws k → AllObj ws k'
  | [], _, _, h, x => h _ x
  | _ :: _, _, _, h, x => fun o ho => allObj_mono (fun its => h _) (x o ho)
theorem items_sub {prog : Program} {w : World} {A : Around} {E : Value → Shared → Prop} {s : Shared} {env : Env} {h₀ : Heap} {target : Expr} {body : List Stmt} {Q : Flow → Shared → Prop} {ws : List (Addr × String)} {keep : List (Addr × Obj)}
    {xs : List Itm} {m : Str → Option Value} {n n' : List (Addr × Obj)} (hs : ∀ p ∈ n', p ∈ n) (h : ItemsRest prog w A E h₀ env target body Q s ws keep xs m n') : ItemsRest prog w A E h₀ env target body Q s ws keep xs m n := by
  cases xs with
  | nil => exact fun h' tk F N => h h' tk F fun p hp => N p (hs p hp)
  | cons x r =>
    intro v h' tk a F
    refine allObj_mono (fun its k N => k ?_) (h v h' tk a F)
    intro p hp
    rcases List.mem_append.mp hp with hp | hp
    · exact N p (List.mem_append_left _ hp)
    · exact N p (List.mem_append_right _ (hs p hp))
theorem mid_off {L wl rl ml k : Nat} (hk : 1 ≤ k) (hk' : k ≤ 3) (h1 : L + 1 + 1 + 1 + 1 + 1 + 1 + 1 + 1 < wl) (h2 : wl < rl) (h3 : rl < ml) : ∀ b ∈ [wl, rl, ml, L + 1 + 1 + 1 + 1 + 1, L + 1 + 1 + 1 + 1, L + 1 + 1 + 1, L + 1 + 1, L + 1], L + 1 + 1 + 1 + 1 + 1 + k ≠ b := by
  have g1 : L + 1 + 1 + 1 + 1 + 1 + k < wl := Nat.lt_of_le_of_lt (Nat.add_le_add_left hk' _) h1
  have g2 : L + 1 + 1 + 1 + 1 + 1 < L + 1 + 1 + 1 + 1 + 1 + k := Nat.lt_add_of_pos_right hk
  intro b hb
  rcases List.mem_cons.mp hb with rfl | hb; · exact Nat.ne_of_lt g1
  rcases List.mem_cons.mp hb with rfl | hb; · exact Nat.ne_of_lt (Nat.lt_trans g1 h2)
  rcases List.mem_cons.mp hb with rfl | hb; · exact Nat.ne_of_lt (Nat.lt_trans g1 (Nat.lt_trans h2 h3))
  rcases List.mem_cons.mp hb with rfl | hb; · exact Nat.ne_of_gt g2
  replace g2 := Nat.lt_of_succ_lt g2
  rcases List.mem_cons.mp hb with rfl | hb; · exact Nat.ne_of_gt g2
  replace g2 := Nat.lt_of_succ_lt g2
  rcases List.mem_cons.mp hb with rfl | hb; · exact Nat.ne_of_gt g2
  replace g2 := Nat.lt_of_succ_lt g2
  rcases List.mem_cons.mp hb with rfl | hb; · exact Nat.ne_of_gt g2
  replace g2 := Nat.lt_of_succ_lt g2
  rw [List.mem_singleton.mp hb]
  exact Nat.ne_of_gt g2
theorem mem_a {α : Type} {p w r m c1 c2 c3 c4 c5 c6 c7 c8 d : α} {rest : List α} (h : p ∈ w :: r :: m :: c5 :: c4 :: c3 :: c2 :: c1 :: d :: c8 :: c7 :: c6 :: rest) : p ∈ d :: m :: r :: w :: c8 :: c7 :: c6 :: c5 :: c4 :: c3 :: c2 :: c1 :: rest := by
  rcases List.mem_cons.mp h with rfl | h; · exact .tail _ (.tail _ (.tail _ (.head _)))
  rcases List.mem_cons.mp h with rfl | h; · exact .tail _ (.tail _ (.head _))
  rcases List.mem_cons.mp h with rfl | h; · exact .tail _ (.head _)
  rcases List.mem_append.mp (show p ∈ [c5, c4, c3, c2, c1] ++ (d :: c8 :: c7 :: c6 :: rest) from h) with h | h
  · exact List.mem_append_right [d, m, r, w, c8, c7, c6] (List.mem_append_left rest h)
  rcases List.mem_cons.mp h with rfl | h; · exact .head _
  rcases List.mem_append.mp (show p ∈ [c8, c7, c6] ++ rest from h) with h | h
  · exact List.mem_append_right [d, m, r, w] (List.mem_append_left (c5 :: c4 :: c3 :: c2 :: c1 :: rest) h)
  · exact List.mem_append_right [d, m, r, w, c8, c7, c6, c5, c4, c3, c2, c1] h
theorem mem_b {α : Type} {p w r m c1 c2 c3 c4 c5 c6 c7 c8 r0 r1 r2 d : α} {rest : List α} (h : p ∈ w :: r :: m :: c8 :: c7 :: c6 :: c5 :: c4 :: c3 :: c2 :: c1 :: r0 :: r1 :: r2 :: rest) : p ∈ w :: r :: m :: c5 :: c4 :: c3 :: c2 :: c1 :: r2 :: r1 :: r0 :: d :: c8 :: c7 :: c6 :: rest := by
  rcases List.mem_append.mp (show p ∈ [w, r, m] ++ (c8 :: c7 :: c6 :: c5 :: c4 :: c3 :: c2 :: c1 :: r0 :: r1 :: r2 :: rest) from h) with h | h
  · exact List.mem_append_left (c5 :: c4 :: c3 :: c2 :: c1 :: r2 :: r1 :: r0 :: d :: c8 :: c7 :: c6 :: rest) h
  rcases List.mem_append.mp (show p ∈ [c8, c7, c6] ++ (c5 :: c4 :: c3 :: c2 :: c1 :: r0 :: r1 :: r2 :: rest) from h) with h | h
  · exact List.mem_append_right [w, r, m, c5, c4, c3, c2, c1, r2, r1, r0, d] (List.mem_append_left rest h)
  rcases List.mem_append.mp (show p ∈ [c5, c4, c3, c2, c1] ++ (r0 :: r1 :: r2 :: rest) from h) with h | h
  · exact List.mem_append_right [w, r, m] (List.mem_append_left (r2 :: r1 :: r0 :: d :: c8 :: c7 :: c6 :: rest) h)
  refine List.mem_append_right [w, r, m, c5, c4, c3, c2, c1] ?_
  rcases List.mem_cons.mp h with rfl | h; · exact .tail _ (.tail _ (.head _))
  rcases List.mem_cons.mp h with rfl | h; · exact .tail _ (.head _)
  rcases List.mem_cons.mp h with rfl | h; · exact .head _
  exact List.mem_append_right [r2, r1, r0, d, c8, c7, c6] h
theorem mem_c {α : Type} {p w r m c1 c2 c3 c4 c5 c6 c7 c8 : α} (h : p ∈ [w, r, m, c5, c4, c3, c2, c1]) : p ∈ [w, r, m, c8, c7, c6, c5, c4, c3, c2, c1] := by
  rcases List.mem_append.mp (show p ∈ [w, r, m] ++ [c5, c4, c3, c2, c1] from h) with h | h
  · exact List.mem_append_left [c8, c7, c6, c5, c4, c3, c2, c1] h
  · exact List.mem_append_right [w, r, m, c8, c7, c6] h
theorem off_three {rest : List (Addr × Obj)} {w r m c1 c2 c3 c4 c5 c6 c7 c8 r0 r1 r2 : Nat} (h : OwnOff rest [w, r, m, c8, c7, c6, c5, c4, c3, c2, c1]) (h0 : ∀ p ∈ rest, p.1 < r0) (h1 : ∀ p ∈ rest, p.1 < r1) (h2 : ∀ p ∈ rest, p.1 < r2) :
    OwnOff rest [w, r, m, c8, c7, c6, c5, c4, c3, c2, c1, r0, r1, r2] := by
  intro p hp b hb
  rcases List.mem_append.mp (show b ∈ [w, r, m, c8, c7, c6, c5, c4, c3, c2, c1] ++ [r0, r1, r2] from hb) with hb | hb
  · exact h p hp b hb
  rcases List.mem_cons.mp hb with rfl | hb; · exact Nat.ne_of_lt (h0 p hp)
  rcases List.mem_cons.mp hb with rfl | hb; · exact Nat.ne_of_lt (h1 p hp)
  rw [List.mem_singleton.mp hb]
  exact Nat.ne_of_lt (h2 p hp)
theorem loop3 {w mean mg mb} (S : Scope) (BB : List Stmt) (hS : pScope = S) (hB : pTurn = BB) (a rt kd : Int) (ha : 0 ≤ a) (ha' : a < 281474976710656) (hr0 : 0 ≤ rt) (hr1 : rt < 4096) (hk0 : 0 ≤ kd) (hk1 : rt + kd < 65536)
    {dp un : Nat} {gd : Option (List Code)} {an : Addr} {ccd : Value} {outer : List Env} {A₀ : Around} {base h₀ : Heap} {L : Addr} {m : Str → Option Value} {s : Shared} {Q : Flow → Shared → Prop} {E : Value → Shared → Prop}
    {wl rl ml D : Addr} {lo : Obj} {nw nr nm nD : Nat} {o1 o2 o3 o4 o5 o6 o7 o8 : Obj} {u4 u5 : Option Value} {ta tr tk ts tf : Tok} {rest : List (Addr × Obj)} {px : Pos}
    (B : Below A₀ base outer h₀) (F : Fr h₀ L s.heap m) (hm1 : m (Str.ofString "mores") = some (.ref ml)) (hm2 : m (Str.ofString "a") = some (.int a ta))
    (X : (Mine.hd.heap_39 w.params).In h₀) (T : Top Mine.hd.view_39 Lo mean mg mb h₀)
    (N : News h₀ L s.heap ((D, lo) :: (ml, listOf #[] nm) :: (rl, listOf #[] nr) :: (wl, listOf #[] nw) ::
      (L + 1 + 1 + 1 + 1 + 1 + 1 + 1 + 1, o8) :: (L + 1 + 1 + 1 + 1 + 1 + 1 + 1, o7) :: (L + 1 + 1 + 1 + 1 + 1 + 1, o6) :: (L + 1 + 1 + 1 + 1 + 1, o5) :: (L + 1 + 1 + 1 + 1, o4) :: (L + 1 + 1 + 1, o3) :: (L + 1 + 1, o2) :: (L + 1, o1) :: rest))
    (hc : lo.cls = .type "tuple") (hdt : lo.data = .seq [Value.int rt tr, .int kd tk, .int (rt + kd) ts].toArray nD)
    (d1 : o1.data = .cell (some (.bytes (byteArr (wordK a.natAbs 12)) tf))) (d2 : o2.data = .cell (some (.ref wl))) (d3 : o3.data = .cell (some (.ref rl))) (d4 : o4.data = .cell u4) (d5 : o5.data = .cell u5)
    (l1 : @LT.lt Nat _ (L + 1 + 1 + 1 + 1 + 1 + 1 + 1 + 1) wl ∧ @LT.lt Nat _ wl rl ∧ @LT.lt Nat _ rl ml) (lD : @LT.lt Nat _ ml D)
    (hoff : OwnOff rest [wl, rl, ml, L + 1 + 1 + 1 + 1 + 1 + 1 + 1 + 1, L + 1 + 1 + 1 + 1 + 1 + 1 + 1, L + 1 + 1 + 1 + 1 + 1 + 1, L + 1 + 1 + 1 + 1 + 1, L + 1 + 1 + 1 + 1, L + 1 + 1 + 1, L + 1 + 1, L + 1])
    (hd : dp + 18 < recursionLimit) (hu : un + 16 * 18 < cLine)
    (done : ∀ (h : Heap) (tk' : Nat) (m' : Str → Option Value) (r0 r1 r2 : Addr) (v0 v1 v2 : List Value) (q0 q1 q2 : Nat) (o4' o5' : Obj) (u4' u5' : Option Value) (t0 t1 t2 k0 k1 k2 : Tok),
      Fr h₀ L h (fun y => if y = Str.ofString "mores" then some (.ref ml) else m' y) →
      News h₀ L h ((wl, listOf #[.bytes (byteArr (wordK (a * rt).natAbs 16)) t0, .bytes (byteArr (wordK (a * kd).natAbs 16)) t1, .bytes (byteArr (wordK (a * (rt + kd)).natAbs 16)) t2] (nw + 1 + 1 + 1)) :: (rl, listOf #[.ref r0, .ref r1, .ref r2] (nr + 1 + 1 + 1)) ::
        (ml, listOf #[.int (num64 (wordK (a * rt).natAbs 16) - num64 (wordK a.natAbs 12) * num64 (wordK rt.natAbs 4)) k0, .int (num64 (wordK (a * kd).natAbs 16) - num64 (wordK a.natAbs 12) * num64 (wordK kd.natAbs 4)) k1, .int (num64 (wordK (a * (rt + kd)).natAbs 16) - num64 (wordK a.natAbs 12) * num64 (wordK (rt + kd).natAbs 4)) k2] (nm + 1 + 1 + 1)) ::
        (L + 1 + 1 + 1 + 1 + 1 + 1 + 1 + 1, o8) :: (L + 1 + 1 + 1 + 1 + 1 + 1 + 1, o7) :: (L + 1 + 1 + 1 + 1 + 1 + 1, o6) :: (L + 1 + 1 + 1 + 1 + 1, o5') :: (L + 1 + 1 + 1 + 1, o4') :: (L + 1 + 1 + 1, o3) :: (L + 1 + 1, o2) :: (L + 1, o1) ::
        (r0, listOf v0.toArray q0) :: (r1, listOf v1.toArray q1) :: (r2, listOf v2.toArray q2) :: rest) →
      IntsAre v0 (cfold (colsK (wordK a.natAbs 12) (wordK rt.natAbs 4))).2.1 → IntsAre v1 (cfold (colsK (wordK a.natAbs 12) (wordK kd.natAbs 4))).2.1 → o4'.data = .cell u4' → o5'.data = .cell u5' →
      (@LT.lt Nat _ (L + 1 + 1 + 1 + 1 + 1 + 1 + 1 + 1) wl ∧ @LT.lt Nat _ wl rl ∧ @LT.lt Nat _ rl ml ∧ @LT.lt Nat _ ml r0 ∧ @LT.lt Nat _ r0 r1 ∧ @LT.lt Nat _ r1 r2) →
      OwnOff rest [wl, rl, ml, L + 1 + 1 + 1 + 1 + 1 + 1 + 1 + 1, L + 1 + 1 + 1 + 1 + 1 + 1 + 1, L + 1 + 1 + 1 + 1 + 1 + 1, L + 1 + 1 + 1 + 1 + 1, L + 1 + 1 + 1 + 1, L + 1 + 1 + 1, L + 1 + 1, L + 1, r0, r1, r2] → Q .next { s with heap := h, toks := tk' }) :
    wpAny (model PySem.Challenge.rw_op0010_01.row.prog w) (ktrTop dp un gd (Str.ofString "_law_product") S L an ccd (cellsFrom (L + 1) S.names []) outer) (pyIter (.ref D))
      (fun it s₂ => TurnsAt PySem.Challenge.rw_op0010_01.row.prog w (ktrTop dp un gd (Str.ofString "_law_product") S L an ccd (cellsFrom (L + 1) S.names []) outer) h₀ (envOfC (Str.ofString "_law_product") S L an ccd) (.Name (Str.ofString "other") px) BB Q E it s₂) E s := by
  refine iter_tupTurns (vs := [Value.int rt tr, .int kd tk, .int (rt + kd) ts]) rfl F N (.head _) hc hdt ?_
  intro I l9
  have hDI : @LT.lt Nat _ D I := l9 _ (.head _)
  have hrI : ∀ p ∈ rest, p.1 < I := fun p hp => l9 p (.tail _ (.tail _ (.tail _ (.tail _ (.tail _ (.tail _ (.tail _ (.tail _ (.tail _ (.tail _ (.tail _ (.tail _ hp))))))))))))
  obtain ⟨p1, p2, p3⟩ := l1
  refine items_sub (n' := lpLed L wl rl ml [] [] [] nw nr nm o5 o4 o3 o2 o1 ((D, lo) :: (L + 1 + 1 + 1 + 1 + 1 + 1 + 1 + 1, o8) :: (L + 1 + 1 + 1 + 1 + 1 + 1 + 1, o7) :: (L + 1 + 1 + 1 + 1 + 1 + 1, o6) :: rest)) ?_ ?_
  · exact fun p hp => mem_a hp
  have c5 : @LT.lt Nat _ (L + 1 + 1 + 1 + 1 + 1) wl := Nat.lt_of_succ_lt (Nat.lt_of_succ_lt (Nat.lt_of_succ_lt p1))
  have hoff1 : OwnOff ((D, lo) :: (L + 1 + 1 + 1 + 1 + 1 + 1 + 1 + 1, o8) :: (L + 1 + 1 + 1 + 1 + 1 + 1 + 1, o7) :: (L + 1 + 1 + 1 + 1 + 1 + 1, o6) :: rest) [wl, rl, ml, L + 1 + 1 + 1 + 1 + 1, L + 1 + 1 + 1 + 1, L + 1 + 1 + 1, L + 1 + 1, L + 1] := by
    intro p hp b hb
    rcases List.mem_cons.mp hp with rfl | hp; · exact hi_off c5 p2 p3 lD b hb
    rcases List.mem_cons.mp hp with rfl | hp; · exact mid_off (k := 3) (by decide) (by decide) p1 p2 p3 b hb
    rcases List.mem_cons.mp hp with rfl | hp; · exact mid_off (k := 2) (by decide) (by decide) p1 p2 p3 b hb
    rcases List.mem_cons.mp hp with rfl | hp; · exact mid_off (k := 1) (by decide) (by decide) p1 p2 p3 b hb
    exact hoff p hp b (mem_c hb)
  have k3 : @LT.lt Nat _ wl I := Nat.lt_trans p2 (Nat.lt_trans p3 (Nat.lt_trans lD hDI))
  have k2 : @LT.lt Nat _ (L + 1 + 1 + 1 + 1 + 1 + 1 + 1 + 1) I := Nat.lt_trans p1 k3
  have hmI : @LT.lt Nat _ ml I := Nat.lt_trans lD hDI
  have hne1 : ∀ p ∈ (D, lo) :: (L + 1 + 1 + 1 + 1 + 1 + 1 + 1 + 1, o8) :: (L + 1 + 1 + 1 + 1 + 1 + 1 + 1, o7) :: (L + 1 + 1 + 1 + 1 + 1 + 1, o6) :: rest, p.1 ≠ I := by
    intro p hp
    rcases List.mem_cons.mp hp with rfl | hp; · exact Nat.ne_of_lt hDI
    rcases List.mem_cons.mp hp with rfl | hp; · exact Nat.ne_of_lt k2
    rcases List.mem_cons.mp hp with rfl | hp; · exact Nat.ne_of_lt (Nat.lt_of_succ_lt k2)
    rcases List.mem_cons.mp hp with rfl | hp; · exact Nat.ne_of_lt (Nat.lt_of_succ_lt (Nat.lt_of_succ_lt k2))
    exact Nat.ne_of_lt (hrI p hp)
  refine lp_step S BB hS hB a rt ha ha' hr0 (Int.lt_trans hr1 (by decide)) B X T hm1 hm2 d1 d2 d3 d4 d5 ⟨c5, p2, p3⟩ hmI hoff1 hne1 (.head _) (by simp) (by simp) (by simp) hd hu ?_
  intro m1 r0 v0 q0 o4a o5a u4a u5a t0 k0 hm1a hm2a hI0 d4a d5a hlt0 hI0' hml0
  refine lp_step S BB hS hB a kd ha ha' hk0 (Int.lt_of_le_of_lt (Int.le_add_of_nonneg_left hr0) hk1) B X T hm1a hm2a d1 d2 d3 d4a d5a ⟨c5, p2, p3⟩ hmI ?_ ?_ (.tail _ (.head _)) (by simp) (by simp) (by simp) hd hu ?_
  · intro p hp b hb
    rcases List.mem_cons.mp hp with rfl | hp
    · exact hi_off c5 p2 p3 hml0 b hb
    · exact hoff1 p hp b hb
  · intro p hp
    rcases List.mem_cons.mp hp with rfl | hp
    · exact Nat.ne_of_gt hI0'
    · exact hne1 p hp
  intro m2 r1 v1 q1 o4b o5b u4b u5b t1 k1 hm1b hm2b hI1 d4b d5b hlt1 hI1' hml1
  have h01 : @LT.lt Nat _ r0 r1 := hlt1 _ (.head _)
  refine lp_step S BB hS hB a (rt + kd) ha ha' (Int.add_nonneg hr0 hk0) hk1 B X T hm1b hm2b d1 d2 d3 d4b d5b ⟨c5, p2, p3⟩ hmI ?_ ?_ (.tail _ (.tail _ (.head _))) (by simp) (by simp) (by simp) hd hu ?_
  · intro p hp b hb
    rcases List.mem_cons.mp hp with rfl | hp
    · exact hi_off c5 p2 p3 hml1 b hb
    rcases List.mem_cons.mp hp with rfl | hp
    · exact hi_off c5 p2 p3 hml0 b hb
    · exact hoff1 p hp b hb
  · intro p hp
    rcases List.mem_cons.mp hp with rfl | hp
    · exact Nat.ne_of_gt hI1'
    rcases List.mem_cons.mp hp with rfl | hp
    · exact Nat.ne_of_gt hI0'
    · exact hne1 p hp
  intro m3 r2 v2 q2 o4c o5c u4c u5c t2 k2 hm1c hm2c hI2 d4c d5c hlt2 hI2' hml2
  have h12 : @LT.lt Nat _ r1 r2 := hlt2 _ (.head _)
  refine ItemsRest.zero ?_
  intro h tk' Fz Nz
  refine done h tk' m3 r0 r1 r2 v0 v1 v2 q0 q1 q2 o4c o5c u4c u5c t0 t1 t2 k0 k1 k2 (Fr.known0 (F := Fz) hm1c) ?_ hI0 hI1 d4c d5c ⟨p1, p2, p3, hml0, h01, h12⟩ ?_
  · exact fun p hp => Nz p (mem_b hp)
  · exact off_three hoff (fun p hp => hlt0 p (.tail _ (.tail _ (.tail _ (.tail _ hp))))) (fun p hp => hlt1 p (.tail _ (.tail _ (.tail _ (.tail _ (.tail _ hp)))))) (fun p hp => hlt2 p (.tail _ (.tail _ (.tail _ (.tail _ (.tail _ (.tail _ hp)))))))
theorem c_rest {w mean mg mb} (S : Scope) (BB : List Stmt) (hS : pScope = S) (hB : pRest = BB) (a rt kd : Int) (ha : 0 ≤ a) (ha' : a < 281474976710656) (hr0 : 0 ≤ rt) (hr1 : rt < 4096) (hk0 : 0 ≤ kd) (hk1 : rt + kd < 65536) (hk : kd % 4096 = 0)
    {dp un : Nat} {gd : Option (List Code)} {an : Addr} {ccd : Value} {outer : List Env} {A₀ : Around} {base h₀ : Heap} {L : Addr} {m₁ : Str → Option Value} {s : Shared} {Q : Flow → Shared → Prop} {E : Value → Shared → Prop}
    {wl rl ml : Addr} {nw nr nm : Nat} {o1 o2 o3 o4 o5 o6 o7 o8 : Obj} {u4 u5 u6 u7 u8 : Option Value} {ta tr tk tf : Tok} {rest : List (Addr × Obj)}
    (B : Below A₀ base outer h₀)
    (F : Fr h₀ L s.heap (fun y => if y = Str.ofString "mores" then some (.ref ml) else if y = Str.ofString "kind" then some (.int kd tk) else if y = Str.ofString "rights" then some (.int rt tr) else m₁ y))
    (hma : m₁ (Str.ofString "a") = some (.int a ta))
    (X : (Mine.hd.heap_39 w.params).In h₀) (T : Top Mine.hd.view_39 Lo mean mg mb h₀)
    (N : News h₀ L s.heap ((ml, listOf #[] nm) :: (rl, listOf #[] nr) :: (wl, listOf #[] nw) ::
      (L + 1 + 1 + 1 + 1 + 1 + 1 + 1 + 1, o8) :: (L + 1 + 1 + 1 + 1 + 1 + 1 + 1, o7) :: (L + 1 + 1 + 1 + 1 + 1 + 1, o6) :: (L + 1 + 1 + 1 + 1 + 1, o5) :: (L + 1 + 1 + 1 + 1, o4) :: (L + 1 + 1 + 1, o3) :: (L + 1 + 1, o2) :: (L + 1, o1) :: rest))
    (d1 : o1.data = .cell (some (.bytes (byteArr (wordK a.natAbs 12)) tf))) (d2 : o2.data = .cell (some (.ref wl))) (d3 : o3.data = .cell (some (.ref rl))) (d4 : o4.data = .cell u4) (d5 : o5.data = .cell u5) (d6 : o6.data = .cell u6) (d7 : o7.data = .cell u7) (d8 : o8.data = .cell u8)
    (l1 : @LT.lt Nat _ (L + 1 + 1 + 1 + 1 + 1 + 1 + 1 + 1) wl ∧ @LT.lt Nat _ wl rl ∧ @LT.lt Nat _ rl ml)
    (hoff : OwnOff rest [wl, rl, ml, L + 1 + 1 + 1 + 1 + 1 + 1 + 1 + 1, L + 1 + 1 + 1 + 1 + 1 + 1 + 1, L + 1 + 1 + 1 + 1 + 1 + 1, L + 1 + 1 + 1 + 1 + 1, L + 1 + 1 + 1 + 1, L + 1 + 1 + 1, L + 1 + 1, L + 1])
    (hd : dp + 18 < recursionLimit) (hu : un + 16 * 18 < cLine)
    (kk : ∀ (h' : Heap) (tk' : Nat) (m' : Str → Option Value), Fr h₀ L h' m' → News h₀ L h' rest → Q (.ret (.bool true)) { s with heap := h', toks := tk' }) :
    wpAny (model PySem.Challenge.rw_op0010_01.row.prog w) (ktrTop dp un gd (Str.ofString "_law_product") S L an ccd (cellsFrom (L + 1) S.names []) outer) (execs BB (envOfC (Str.ofString "_law_product") S L an ccd)) Q E s := by
  (w_top off; have hfill : PySem.Challenge.rw_op0010_01 = PySem.Challenge.rw_op0010_01 ∧ Mine.hd.heap_39 = Mine.hd.heap_39 := (by (k_fill; exact ⟨rfl, rfl⟩)); clear hfill)
  conv at hS => lhs; whnf
  conv at hB => lhs; whnf
  subst hS hB
  k_with_none
  have hX0 : IsWord (wordK (a * rt).natAbs 16) := isWord_of (prod_small ha ha' hr0 (by omega))
  have hX1 : IsWord (wordK (a * kd).natAbs 16) := isWord_of (prod_small ha ha' hk0 (by omega))
  have hX2 : IsWord (wordK (a * (rt + kd)).natAbs 16) := isWord_of (prod_small ha ha' (by omega) hk1)
  have hf0 := fits_prod ha ha' hr0 (show rt < 65536 by omega)
  have hf1 := fits_prod ha ha' hk0 (show kd < 65536 by omega)
  have hf2 := fits_prod ha ha' (show 0 ≤ rt + kd by omega) hk1
  rw [← rows_sum ha ha' hr0 hr1 hk0 hk1 hk] at hf2
  have hf3 := fits_add ha ha' hr0 hk0 hk1
  k_with "execs cons" => ((with_reducible show wpAny _ _ (execs (Stmt.Assign [Expr.Name _ _] (Expr.Subscript _ _ _) _ :: _) _) _ _ _); k_dflt (refine' c_tail _ _ rfl rfl _ _ _ _ _ _ _ _ hX0 hX1 hX2 hf0.len hf1.len hf0 hf1 hf2 hf3 B F9 X T N9 d1 d2 d3 d4' d5' d6 d7 d8 (word_ints _ _) (word_ints _ _) (word_ints _ _) hI0 hI1 l9 hoff9 hd hu ?_); (intro h8 tk8 m8 F8 N8; (try k_fold)))
  k_with "exec For Name Tuple cons nil" => (k_dflt (refine wpAny_noRaise ?_); k_dflt (refine For_turns (by k_asm) ?_ (by intro _; rfl) PassesOwn.never))
  k_with "pyIter ref" => (k_dflt (refine' loop3 _ _ rfl rfl a rt kd ha ha' hr0 hr1 hk0 hk1 B ?F ?hm1 ?hm2 X T ?N ?hc ?hdt d1 d2 d3 d4 d5 l1 ?lD hoff hd hu ?_); (case F => k_asm); (case N => k_asm); (case hm1 => k_dflt rfl); (case hm2 => k_dflt exact hma); (case hc => k_dflt rfl); (case hdt => k_dflt rfl); (case lD => omega); (intro h9 tk9 m9 r0 r1 r2 v0 v1 v2 q0 q1 q2 o4' o5' u4' u5' t0 t1 t2 k0 k1 k2 F9 N9 hI0 hI1 d4' d5' l9 hoff9; (try k_fold)))
  k_steps
  all_goals exact kk _ _ _ F8 N8

theorem off2 {L wl rl ml : Addr} {news : List (Addr × Obj)} (h1 : ∀ p ∈ news, p.1 < L) (h2 : @LT.lt Nat _ (L + 1 + 1 + 1 + 1 + 1 + 1 + 1 + 1) wl) (h3 : @LT.lt Nat _ wl rl) (h4 : @LT.lt Nat _ rl ml) : OwnOff news [wl, rl, ml, L + 1 + 1 + 1 + 1 + 1 + 1 + 1 + 1, L + 1 + 1 + 1 + 1 + 1 + 1 + 1, L + 1 + 1 + 1 + 1 + 1 + 1, L + 1 + 1 + 1 + 1 + 1, L + 1 + 1 + 1 + 1, L + 1 + 1 + 1, L + 1 + 1, L + 1] := by
  intro p hp b hb
  have h5 : @LT.lt Nat _ p.1 L := h1 p hp
  simp only [List.mem_cons, List.not_mem_nil, or_false] at hb
  rcases hb with rfl | rfl | rfl | rfl | rfl | rfl | rfl | rfl | rfl | rfl | rfl <;> (refine neN ?_; omega)
abbrev GivesP (w : World) (mean : ExcName → Option Value) (mg mb : Str → Option Value) (x mode : Int) (t u : Tok) : Prop :=
  ∀ (news : List (Addr × Obj)) (dp un : Nat) (gd : Option (List Code)) (cn : Str) (cs : Scope) (a : Addr) (ccd : Value) (cl : List (Str × Addr)) (outer : List Env) (A₀ : Around) (base h₀ : Heap) (L : Addr) (m : Str → Option Value) (s : Shared) (Q E : Value → Shared → Prop),
    Below A₀ base outer h₀ → Fr h₀ L s.heap m → (Mine.hd.heap_39 w.params).In h₀ → News h₀ L s.heap news → Top Mine.hd.view_39 Lo mean mg mb h₀ → cs.kind = .function →
    dp + 20 < recursionLimit → un + 16 * 20 < cLine → (∀ (h' : Heap) (tk' : Nat), Fr h₀ L h' m → News h₀ L h' news → Q (.bool true) { s with heap := h', toks := tk' }) →
      wpAny (model PySem.Challenge.rw_op0010_01.row.prog w) (ktrTop dp un gd cn cs L a ccd cl outer) (call (.ref 149) [.int x t, .int mode u]) Q E s
theorem c_product {w mean mg mb} (a mode : Int) (ha : 0 ≤ a) (ha' : a < 281474976710656) (t u : Tok) : GivesP w mean mg mb a mode t u := by
  (w_top off; have hfill : PySem.Challenge.rw_op0010_01 = PySem.Challenge.rw_op0010_01 ∧ Mine.hd.heap_39 = Mine.hd.heap_39 := (by (k_fill; exact ⟨rfl, rfl⟩)); clear hfill)
  k_with_none
  k_with "call ref" => k_dflt (first
    | refine' use (c_mode _ _) ?k1 ?k2 ?k3 ?k4 ?k5 ?kK ?kd ?ku ?_; ((case k1 => k_asm); (case k2 => k_asm); (case k3 => k_asm); (case k4 => k_asm); (case k5 => k_asm); (case kK => first | exact rfl | assumption); (case kd => ktr_room); (case ku => ktr_units); intro tU9 hU9 tkU9 FU9 NU9; (try dsimp only); (try k_fold))
    | refine' use (c_fmt _ _) ?k1 ?k2 ?k3 ?k4 ?k5 ?kK ?kd ?ku ?_; ((case k1 => k_asm); (case k2 => k_asm); (case k3 => k_asm); (case k4 => k_asm); (case k5 => k_asm); (case kK => first | exact rfl | assumption); (case kd => ktr_room); (case ku => ktr_units); intro tU9 hU9 tkU9 FU9 NU9; (try dsimp only); (try k_fold))
    | refine' use (c_word (-a) a.natAbs 12 (by omega) (by decide) (by (show _ < (281474976710656 : Nat)); omega) _ _) ?k1 ?k2 ?k3 ?k4 ?k5 ?kK ?kd ?ku ?_; ((case k1 => k_asm); (case k2 => k_asm); (case k3 => k_asm); (case k4 => k_asm); (case k5 => k_asm); (case kK => first | exact rfl | assumption); (case kd => ktr_room); (case ku => ktr_units); intro tU9 hU9 tkU9 FU9 NU9; (try dsimp only); (try k_fold))
    | refine' use (c_word _ _ 4 rfl (by decide) (by (show _ < (65536 : Nat)); omega) _ _) ?k1 ?k2 ?k3 ?k4 ?k5 ?kK ?kd ?ku ?_; ((case k1 => k_asm); (case k2 => k_asm); (case k3 => k_asm); (case k4 => k_asm); (case k5 => k_asm); (case kK => first | exact rfl | assumption); (case kd => ktr_room); (case ku => ktr_units); intro tU9 hU9 tkU9 FU9 NU9; (try dsimp only); (try k_fold))
    | refine' use (c_word _ _ 16 rfl (by decide) (by (show _ < (18446744073709551616 : Nat)); omega) _ _) ?k1 ?k2 ?k3 ?k4 ?k5 ?kK ?kd ?ku ?_; ((case k1 => k_asm); (case k2 => k_asm); (case k3 => k_asm); (case k4 => k_asm); (case k5 => k_asm); (case kK => first | exact rfl | assumption); (case kd => ktr_room); (case ku => ktr_units); intro tU9 hU9 tkU9 FU9 NU9; (try dsimp only); (try k_fold))
    | fail "no contract")
  have hf1 : mode.fmod 65536 = mode % 65536 := Int.fmod_eq_emod_of_nonneg _ (by decide)
  have hf2 : (mode / 4096 % 16 * 4096).fmod 4096 = 0 := by rw [Int.fmod_eq_emod_of_nonneg _ (by decide)]; omega
  k_with "execs cons" => ((with_reducible show wpAny _ _ (execs (Stmt.For (Expr.Name _ _) (Expr.Tuple _ _ _) _ _ _ :: _) _) _ _ _); (k_dflt (refine' c_rest _ _ rfl rfl a (mode % 4096) (mode / 4096 % 16 * 4096) ha ha' (by omega) (by omega) (by omega) (by omega) (by omega) ?B ?F ?hma ?X ?T ?N ?d1 ?d2 ?d3 ?d4 ?d5 ?d6 ?d7 ?d8 ?l1 ?hoff ?hd ?hu ?_)); (case B => k_asm); (case F => k_asm); (case hma => with_unfolding_all rfl); (case X => k_asm); (case T => k_asm); (case N => k_asm); (case d1 => with_reducible assumption); (case d2 => with_reducible assumption); (case d3 => with_reducible assumption); (case d4 => with_reducible assumption); (case d5 => with_reducible assumption); (case d6 => with_reducible assumption); (case d7 => with_reducible assumption); (case d8 => with_reducible assumption); (case l1 => (refine ⟨?_, ?_, ?_⟩ <;> omega)); (case hoff => exact off2 (by assumption) (by omega) (by omega) (by omega)); (case hd => ktr_room); (case hu => ktr_units); (intro h8 tk8 m8 F8 N8; (try k_fold)); skip)
  unfold GivesP
  intros
  rename_i hret
  refine wpAny_call ?_
  k_dflt ((refine' code_defC ?k1 ?k2 ?k3 ?k4 ?k5 ?kA ?kF ?kK ?k6 ?k7 ?k8 ?k9 ?kB ?kD ?_ ?c2 ?c3 ?c4; (case kA => exact rfl); (case kF => exact rfl); (case kK => first | assumption | exact rfl); (case k1 => k_asm); (case k2 => k_asm); (case k3 => k_asm); (case k4 => k_asm); (case k5 => k_asm); (case k6 => k_is); (case k7 => k_is); (case k8 => ktr_room); (case k9 => first | exact BindsTo.of_eq rfl | exact binds_K (by k_in) rfl (by k_is) rfl rfl rfl); (case kB => exact rfl); (case kD => decide +kernel); (case c2 => exact rfl); (case c3 => exact rfl); (case c4 => exact rfl); k_whole; intro gV9 LV9 hV9 tk' cells' FGV9 FV9 NV9 Y' BV9 XV9 TV9 l1; (try k_lt l1); k_cells Y'; (try simp only [List.cons_append, List.nil_append] at NV9); (try dsimp only); (try k_lift BV9); (try k_fold)))
  k_steps
  all_goals exact hret _ _ (by k_asm) (by (first | k_asm | (refine' cb_drop ?cbN ?cbS; (case cbN => assumption); (case cbS => (intro p hp; repeat (first | exact hp | apply List.Mem.tail))))))

section
variable {prog : Program} {w : World} {A : Around} {E : Value → Shared → Prop} {s : Shared} {env : Env} {h₀ : Heap} {x : Str} {px pos : Pos} {iter : Expr} {body : List Stmt} {Q : Flow → Shared → Prop}
/-- the end of a turn that changes nothing -/
def SameEnd (h₀ : Heap) (L : Addr) (m : Str → Option Value) (nx : List (Addr × Obj)) (s₁ : Shared) (f : Flow) (s₂ : Shared) : Prop :=
  f = .next ∧ ∃ h' tk, s₂ = { s₁ with heap := h', toks := tk } ∧ Fr h₀ L h' m ∧ News h₀ L h' nx
theorem SameEnd.intro {h₀ : Heap} {L : Addr} {m : Str → Option Value} {nx : List (Addr × Obj)} {s₁ : Shared} {h' : Heap} {tk : Nat} (F : Fr h₀ L h' m) (N : News h₀ L h' nx) : SameEnd h₀ L m nx s₁ .next { s₁ with heap := h', toks := tk } := ⟨rfl, h', tk, rfl, F, N⟩
/-- a for over a range whose turns keep all as it stood -/
inductive LoopL (prog : Program) (w : World) (A : Around) (h₀ : Heap) (env : Env) (x : Str) (body : List Stmt) (Q : Flow → Shared → Prop) (xv : Value) (s₁ : Shared) : Prop
  | mk (r : Addr) (a b : Int) (t u v : Tok) (n : Nat) (m : Str → Option Value) (news : List (Addr × Obj)) (e : xv = .ref r) (hh : A.handled = none) (hr : IsRange s₁.heap r a b 1 t u v) (hsm : Builtin.Range.small a b 1 = true) (hn : Builtin.Range.rangeSize a b 1 = (n : Int))
    (F : Fr h₀ env.locals s₁.heap m) (N : News h₀ env.locals s₁.heap news)
    (turn : ∀ (i : Nat) (t : Tok) h tk own, i < n → OwnOff own (news.map (·.1)) → Fr h₀ env.locals h (fun y => if y = x then some (.int (a + (i : Int)) t) else m y) → News h₀ env.locals h (news ++ own) →
      wpAny (model prog w) A (execs body env) (SameEnd h₀ env.locals (fun y => if y = x then some (.int (a + (i : Int)) t) else m y) (news ++ own) { s₁ with heap := h, toks := tk }) (fun _ _ => False) { s₁ with heap := h, toks := tk })
    (done : ∀ h tk z, Fr h₀ env.locals h (fun y => if y = x then z else m y) → News h₀ env.locals h news → Q .next { s₁ with heap := h, toks := tk }) : LoopL prog w A h₀ env x body Q xv s₁
/-- what stands between two turns -/
inductive LInv (h₀ : Heap) (L : Addr) (x : Str) (m : Str → Option Value) (news : List (Addr × Obj)) (a : Int) (n : Nat) (s₁ : Shared) (k : Nat) (s' : Shared) : Prop
  | mk (h' : Heap) (tk : Nat) (z : Option Value) (i : Nat) (e : s' = { s₁ with heap := h', toks := tk }) (hst : IsRangeIter h' s₁.heap.objs.size (a + (i : Nat) * 1) ((n : Int) - (i : Nat)) 1) (F : Fr h₀ L h' (fun y => if y = x then z else m y)) (N : News h₀ L h' news) (hi : i ≤ n) (hk : k = n + 1 - i) : LInv h₀ L x m news a n s₁ k s'
theorem LoopL.intro2 {k : Nat} {L r : Addr} {t u v : Tok} {s₁ : Shared} {m : Str → Option Value} {news : List (Addr × Obj)} (hL : env.locals = L) (hk : k ≤ 2) (hh : A.handled = none) (hr : IsRange s₁.heap r 1 ((1 + 1 + k : Nat) : Int) 1 t u v)
    (F : Fr h₀ L s₁.heap m) (N : News h₀ L s₁.heap news)
    (turn : ∀ (i : Nat) t h tk own, i < k + 1 → OwnOff own (news.map (·.1)) → Fr h₀ L h (fun y => if y = x then some (.int (1 + (i : Int)) t) else m y) → News h₀ L h (news ++ own) →
      wpAny (model prog w) A (execs body env) (SameEnd h₀ L (fun y => if y = x then some (.int (1 + (i : Int)) t) else m y) (news ++ own) { s₁ with heap := h, toks := tk }) (fun _ _ => False) { s₁ with heap := h, toks := tk })
    (done : ∀ h tk z, Fr h₀ L h (fun y => if y = x then z else m y) → News h₀ L h news → Q .next { s₁ with heap := h, toks := tk }) : LoopL prog w A h₀ env x body Q (.ref r) s₁ := by
  subst hL
  refine ⟨r, 1, _, t, u, v, k + 1, m, news, rfl, hh, hr, ?_, ?_, F, N, turn, done⟩
  · have : k = 0 ∨ k = 1 ∨ k = 2 := by omega
    rcases this with rfl | rfl | rfl <;> decide
  · have : k = 0 ∨ k = 1 ∨ k = 2 := by omega
    rcases this with rfl | rfl | rfl <;> decide
theorem For_L {m : Str → Option Value} (_F : Fr h₀ env.locals s.heap m) (hx : env.kindOf x = some .local) (hp : (env.scope.kind == .class || (env.scope.kind == .module && env.locals != env.globals)) = false)
    (h : wpAny (model prog w) A (eval iter env) (LoopL prog w A h₀ env x body Q) E s)
    (hs : ∀ x, foldedSetIterable iter env x = pure x := by intro _; rfl) : wpAny (model prog w) A (exec (.For (.Name x px) iter body [] pos) env) Q E s := by
  refine wpAny_For (wpAny_mono h (fun xv s₁ h₁ => ?_) fun _ _ e => e) hs
  obtain ⟨r, a, b, t, u, v, n, m, news, rfl, hh, hr, hsm, hn, F, N, turn, done⟩ := h₁
  refine wpAny_pyIter_range hr hsm ?_
  have W := LCg.range_walks (prog := prog) (w := w) (I := s₁.heap.objs.size) hh a n
  have hLI : env.locals ≠ s₁.heap.objs.size := Nat.ne_of_lt F.ns.lt
  have hI₀ : h₀.get? s₁.heap.objs.size = none := next_is_new F
  have hNI : ∀ p ∈ news, p.1 ≠ s₁.heap.objs.size := fun p hp => Nat.ne_of_lt (Heap.lt_size (N p hp).1)
  have em : (fun y => if y = x then m x else m y) = m := by
    funext y
    by_cases hy : y = x
    · rw [hy, if_pos rfl]
    · rw [if_neg hy]
  refine codeAny_forLoop
    (LInv h₀ env.locals x m news a n s₁) ?_ (n + 1)
    ⟨_, _, m x, 0, rfl, (by rw [hn]; simpa using Heap.get?_push_size _ rfl), by rw [em]; exact F.push _, fun p hp => ⟨Heap.get?_push_of_some _ (N p hp).1, (N p hp).2⟩, Nat.zero_le _, rfl⟩
  rintro k s' ⟨h', tk, z, i, rfl, hst, F', N', hi, rfl⟩
  have nxt : ∀ h₁ : Heap, (∀ b o, b ∉ [s₁.heap.objs.size] → h'.get? b = some o → h₁.get? b = some o) → Fr h₀ env.locals h₁ (fun y => if y = x then z else m y) ∧ News h₀ env.locals h₁ news := fun h₁ hk₁ =>
    ⟨LCg.fr_but F' hk₁ hLI hI₀, LCg.news_but N' hk₁ hNI⟩
  by_cases hlt : i < n
  · refine W.item i _ _ _ hlt hst fun v h₁ tk₁ hP hst₁ hk₁ => ?_
    obtain ⟨F₁, N₁⟩ := nxt h₁ hk₁
    obtain ⟨tv, rfl⟩ := hP
    refine wpAny_assign_Name (wpAny_storeName_local hx F₁.ns (fun h₂ hn₂ hs₂ => ?_) hp)
    have F₂ := F₁.set hn₂ hs₂
    have e2 : (fun y => if y = x then some (Value.int (a + (i : Int)) tv) else if y = x then z else m y) = (fun y => if y = x then some (Value.int (a + (i : Int)) tv) else m y) := by
      funext y
      by_cases hy : y = x
      · rw [if_pos hy, if_pos hy]
      · rw [if_neg hy, if_neg hy, if_neg hy]
    rw [e2] at F₂
    have hst₁' : IsRangeIter h₁ s₁.heap.objs.size (a + ((i + 1 : Nat) : Int) * 1) ((n : Int) - ((i + 1 : Nat) : Int)) 1 := hst₁
    have hst₂ : IsRangeIter h₂ s₁.heap.objs.size (a + ((i + 1 : Nat) : Int) * 1) ((n : Int) - ((i + 1 : Nat) : Int)) 1 := (hs₂.2 _ (Ne.symm hLI)).trans hst₁'
    have hown : News h₀ env.locals h₂ (news ++ [(s₁.heap.objs.size, _)]) := fun p hp => by
      rcases List.mem_append.mp hp with hp | hp
      · exact (N₁.set hs₂) p hp
      · rw [List.mem_singleton.mp hp]
        exact ⟨hst₂, Ne.symm hLI, hI₀⟩
    have ht := turn i tv h₂ (tk₁ + 1) [(s₁.heap.objs.size, _)] hlt (by
      intro p hp b hb
      rw [List.mem_singleton.mp hp]
      obtain ⟨q, hq, e⟩ := List.mem_map.mp hb
      exact e ▸ Ne.symm (hNI q hq)) F₂ hown
    refine wpAny_mono ht (fun f s₃ h₃ => ?_) fun _ _ e => e.elim
    obtain ⟨rfl, h₃', tk₃, rfl, F₃, N₃⟩ := h₃
    exact ⟨n + 1 - (i + 1), by omega, h₃', tk₃, _, i + 1, rfl, (N₃ _ (List.mem_append_right _ (.head _))).1, F₃, fun p hp => N₃ p (List.mem_append_left _ hp), hlt, rfl⟩
  · have hin : i = n := by omega
    subst hin
    refine W.done _ _ _ hst fun h₁ tk₁ hk₁ => wpAny_execs_nil ?_
    obtain ⟨F₁, N₁⟩ := nxt h₁ hk₁
    exact done h₁ tk₁ z F₁ N₁
end
theorem useP {w : World} {mean : ExcName → Option Value} {mg mb : Str → Option Value} {x mode : Int} {t u : Tok} (C : GivesP w mean mg mb x mode t u)
    {news : List (Addr × Obj)} {dp un : Nat} {gd : Option (List Code)} {cn : Str} {cs : Scope} {a : Addr} {ccd : Value} {cl : List (Str × Addr)} {outer : List Env} {A₀ : Around} {base h₀ : Heap} {L : Addr} {m : Str → Option Value} {s : Shared} {Q E : Value → Shared → Prop}
    (B : Below A₀ base outer h₀) (F : Fr h₀ L s.heap m) (X : (Mine.hd.heap_39 w.params).In h₀) (N : News h₀ L s.heap news) (T : Top Mine.hd.view_39 Lo mean mg mb h₀) (hk : cs.kind = .function)
    (hd : dp + 20 < recursionLimit) (hu : un + 16 * 20 < cLine) (ret : ∀ (h' : Heap) (tk' : Nat), Fr h₀ L h' m → News h₀ L h' news → Q (.bool true) { s with heap := h', toks := tk' }) :
      wpAny (model PySem.Challenge.rw_op0010_01.row.prog w) (ktrTop dp un gd cn cs L a ccd cl outer) (call (.ref 149) [.int x t, .int mode u]) Q E s :=
  C _ _ _ _ _ _ _ _ _ _ _ _ _ _ _ _ _ _ B F X N T hk hd hu ret
theorem fm_hi (x : Int) : x.fmod (16 ^ Int.toNat 12) < 281474976710656 := fmod_hi x (show (0 : Int) < 281474976710656 by decide)
theorem fm_lo (x : Int) : 0 ≤ x.fmod (16 ^ Int.toNat 12) := fmod_lo x (show (0 : Int) < 281474976710656 by decide)

end Mine
open PySem.Calls PySem.Spec
local macro_rules | `(tactic| walk_at $s:str) => `(tactic| (k_here; k_extra $s))
theorem PySem.Challenge.cw_op0010_01_holds : PySem.Challenge.rw_op0010_01.Holds := by
  refine Mine.hd ?_
  w_top off
  k_with_none
  k_with "exec For Name Call cons nil" => (k_dflt (refine Mine.For_L (by k_asm) (by rfl) (by rfl) ?_))
  k_with "LoopL" => (k_dflt (refine' Mine.LoopL.intro2 ?hL ?hk ?hh ?hr ?F ?N ?turn ?done); (case F => k_asm); (case hL => rfl); (case hr => assumption); (case hh => rfl); (case N => k_asm); (case hk => (rw [List.length_take]; omega)); rotate_left; (intro h9 tk9 z9 F9 N9; (try k_fold)); rotate_left; (intro i9 t9 h9 tk9 own9 hi9 hof9 F9 N9; (try dsimp only [List.map, List.cons_append, List.nil_append] at hof9 N9 F9); (try k_fold)))
  k_with "subscriptTail" => ((with_reducible show wpAny _ _ (subscriptTail _ _ (Value.ref _) (Value.int _ _)) _ _ _); k_dflt (refine' Mine.item_ints ?k1 ?k2 ?k3 ?k4 ?k5 ?k6 ?_ ?k7; (case k1 => k_asm); (case k2 => k_mem); (case k3 => assumption); (case k4 => omega); (case k5 => (simp only [List.length_append, List.length_cons, List.length_nil]; omega)); (case k6 => (simp only [List.length_append, List.length_cons, List.length_nil, List.length_take]; omega)); (case k7 => with_unfolding_all rfl); intro t9))
  k_with "SameEnd" => k_dflt (exact Mine.SameEnd.intro (by k_asm) (by k_asm))
  k_with "call ref" => (k_dflt (refine' Mine.useP (Mine.c_product _ _ (Mine.fm_lo _) (Mine.fm_hi _) _ _) ?k1 ?k2 ?k3 ?k4 ?k5 ?kK ?kd ?ku ?_; (case k1 => k_asm); (case k2 => k_asm); (case k3 => k_asm); (case k4 => k_asm); (case k5 => k_asm); (case kK => rfl); (case kd => first | ktr_room | decide); (case ku => first | ktr_units | decide); intro h8 tk8 F8 N8; (try dsimp only); (try k_fold)))
  k_go0
  all_goals (try k_fold)
  k_steps
