import PyProof.Rows.All
import Wide.All
import OpenK.AllK
import Wide.FinOn
import Lean
import PySem.Challenge.RW_af0015_01
open PySem PySem.W PyProof.Rows
set_option Elab.async false
set_option linter.all false
namespace Mine
set_option maxRecDepth 100000
set_option maxHeartbeats 0
noncomputable def topRunQ (p : Program) (w : World) (n₀ : Nat) (ann : Option Value) : Nat → SharedT → Thread → Option SharedT
  | 0, _, _ => none
  | n + 1, s, t => match through t with
    | true => some s
    | false => match PySem.W.Fast.tw6613529449190102663 n₀ ann t with
      | false => none
      | true => match PySem.W.Fast.tw10156331382660048174 (PySem.W.Fast.tw11892475500146522536 PySem.W.Fast.tw14364793385576792824) p w s t with
        | some (s', t') => topRunQ p w n₀ ann n s' t'
        | none => none
theorem topRunQ_of {p : Program} {w : World} {n₀ : Nat} {ann : Option Value} : ∀ {n : Nat} {s s' : SharedT} {t : Thread}, topRunQ p w n₀ ann n s t = some s' → topRun treeTable p w n₀ ann n s.abs t = some s'.abs
  | 0, _, _, _, h => by cases h
  | n + 1, s, s', t, h => by
    unfold topRunQ at h
    unfold topRun
    rw [← PySem.W.Fast.te6613529449190102663, ← PySem.W.Fast.te10156331382660048174, ← PySem.W.Fast.te11892475500146522536, ← PySem.W.Fast.te14364793385576792824] at h
    cases he : through t with
    | true => rw [he] at h; cases h; rfl
    | false =>
      rw [he] at h
      cases hk : stepOk n₀ ann t with
      | false => rw [hk] at h; cases h
      | true =>
        rw [hk] at h
        cases hs : stepT (denote treeTable) p w s t with
        | none => rw [hs] at h; cases h
        | some r => obtain ⟨s₂, t₂⟩ := r; rw [hs] at h; dsimp only; rw [stepT_spec hs]; exact topRunQ_of h
noncomputable def hqN {α : Type} (n : Nat) (k : Nat → α) : α := @Nat.casesOn (fun _ => α) n (k 0) fun m => k (Nat.succ m)
noncomputable def hqI {β α : Type} (b : β) (k : β → α) : α := k b
noncomputable def hqL {β α : Type} (fe : β → (β → α) → α) (l : List β) : (List β → α) → α :=
  @List.rec β (fun _ => (List β → α) → α) (fun k => k []) (fun a _ ih k => fe a fun a' => ih fun l' => k (a' :: l')) l
noncomputable def hqA {β α : Type} (fe : β → (β → α) → α) (a : Array β) (k : Array β → α) : α := @Array.casesOn β (fun _ => α) a fun l => hqL fe l fun l' => k ⟨l'⟩
noncomputable def hqS {α : Type} (s : Str) (k : Str → α) : α := @Str.casesOn (fun _ => α) s fun c => hqA hqI c fun c' => k ⟨c'⟩
noncomputable def hqV {α : Type} (v : Value) (k : Value → α) : α := @Value.casesOn (fun _ => α) v (k .none) (k .ellipsis) (k .notImplemented) (fun b => k (.bool b)) (fun i t => hqN t fun t' => k (.int i t')) (fun b t => hqN t fun t' => k (.float b t')) (fun s t => hqS s fun s' => hqN t fun t' => k (.str s' t')) (fun b t => hqN t fun t' => k (.bytes b t')) (fun n => k (.type n)) (fun i => k (.builtin i)) (fun a => hqN a fun a' => k (.ref a'))
noncomputable def hqO {α : Type} (o : Option Addr) (k : Option Addr → α) : α := @Option.casesOn Addr (fun _ => α) o (k .none) fun a => hqN a fun a' => k (.some a')
noncomputable def hqE {α : Type} (e : DictEntry) (k : DictEntry → α) : α := @DictEntry.casesOn (fun _ => α) e fun h a b => hqV a fun a' => hqV b fun b' => k ⟨h, a', b'⟩
noncomputable def hqF {α : Type} (f : FuncData) (k : FuncData → α) : α := @FuncData.casesOn (fun _ => α) f fun a b c d e g h i j l m n o p q => hqS a fun a' => hqS b fun b' => hqN g fun g' => hqV i fun i' => hqV j fun j' => hqV l fun l' => hqV m fun m' => hqO n fun n' => hqV o fun o' => hqV p fun p' => hqN q fun q' => k ⟨a', b', c, d, e, g', h, i', j', l', m', n', o', p', q'⟩
noncomputable def hqC {α : Type} (c : ClassData) (k : ClassData → α) : α := @ClassData.casesOn (fun _ => α) c fun a b d e f g h i j l m => hqS a fun a' => hqL hqV b fun b' => hqL hqV d fun d' => hqN e fun e' => hqS f fun f' => hqL hqV i fun i' => k ⟨a', b', d', e', f', g, h, i', j, l, m⟩
noncomputable def hqD {α : Type} (d : Data) (k : Data → α) : α := @Data.casesOn (fun _ => α) d (k .plain) (fun v => hqV v fun v' => k (.prim v')) (fun xs n => hqA hqV xs fun xs' => hqN n fun n' => k (.seq xs' n')) (fun es n => hqA hqE es fun es' => hqN n fun n' => k (.dict es' n')) (fun a b c => k (.set a b c)) (fun b n => k (.bytearray b n)) (fun v => k (.cell v)) (fun f => hqF f fun f' => k (.func f')) (fun c => hqC c fun c' => k (.cls c')) (fun vs => hqA hqV vs fun vs' => k (.fields vs')) (k .freed)
noncomputable def hqB {α : Type} (o : Obj) (k : Obj → α) : α := @Obj.casesOn (fun _ => α) o fun c d x s => hqV c fun c' => hqO d fun d' => hqD x fun x' => hqA hqI s fun s' => k ⟨c', d', x', s'⟩
noncomputable def hqH {α : Type} (s : SharedT) (k : Shared → α) : α := @SharedT.casesOn (fun _ => α) s fun T n life g d t os => hqN n fun n' => hqL hqB (T.list n') fun l => hqA hqI g fun g' => hqN t fun t' => k ⟨⟨⟨l⟩, life⟩, g', d, t', os⟩
theorem hqN_eq {α : Type} (n : Nat) (k : Nat → α) : hqN n k = k n := by cases n <;> rfl
theorem hqI_eq {β α : Type} (b : β) (k : β → α) : hqI b k = k b := rfl
theorem hqL_eq {β α : Type} {fe : β → (β → α) → α} (h : ∀ b k, fe b k = k b) (l : List β) : ∀ k, hqL fe l k = k l := by
  induction l with
  | nil => exact fun _ => rfl
  | cons a l ih => exact fun k => (h a _).trans (ih _)
theorem hqA_eq {β α : Type} {fe : β → (β → α) → α} (h : ∀ b k, fe b k = k b) (a : Array β) (k : Array β → α) : hqA fe a k = k a := by
  cases a; exact hqL_eq h _ _
theorem hqS_eq {α : Type} (s : Str) (k : Str → α) : hqS s k = k s := by cases s; exact hqA_eq hqI_eq _ fun c' => k ⟨c'⟩
theorem hqV_eq {α : Type} (v : Value) (k : Value → α) : hqV v k = k v := by
  cases v <;> simp only [hqV, hqN_eq, hqS_eq]
theorem hqO_eq {α : Type} (o : Option Addr) (k : Option Addr → α) : hqO o k = k o := by
  cases o <;> simp only [hqO, hqN_eq]
theorem hqE_eq {α : Type} (e : DictEntry) (k : DictEntry → α) : hqE e k = k e := by cases e; simp only [hqE, hqV_eq]
theorem hqF_eq {α : Type} (f : FuncData) (k : FuncData → α) : hqF f k = k f := by
  cases f; simp only [hqF, hqV_eq, hqN_eq, hqS_eq, hqO_eq]
theorem hqC_eq {α : Type} (c : ClassData) (k : ClassData → α) : hqC c k = k c := by
  cases c; simp only [hqC, hqL_eq hqV_eq, hqN_eq, hqS_eq]
theorem hqD_eq {α : Type} (d : Data) (k : Data → α) : hqD d k = k d := by
  cases d <;> simp only [hqD, hqV_eq, hqA_eq hqV_eq, hqA_eq hqE_eq, hqN_eq, hqF_eq, hqC_eq]
theorem hqB_eq {α : Type} (o : Obj) (k : Obj → α) : hqB o k = k o := by
  cases o; simp only [hqB, hqV_eq, hqO_eq, hqD_eq, hqA_eq hqI_eq]
theorem hqH_eq {α : Type} (s : SharedT) (k : Shared → α) : hqH s k = k s.abs := by
  cases s; simp only [hqH, hqN_eq, hqL_eq hqB_eq, hqA_eq hqI_eq]; rfl
theorem top_gen {p : Program} {w : World} {N m : Nat} {ann : Option Value} {s s' : Shared} (z : (s.heap.isNs mainGlobals && s.gens.size == 0, s.heap.objs.size, s.heap.nsMap mainGlobals "__annotations__") = (true, m, ann))
    (r : topRun treeTable p w m ann N s (topStub p) = some s') (c : (staticsOk (importedModules p.main.body) s.heap s'.heap && namesBound p s'.heap && gensDone s' && laidKept s.heap s'.heap) = true) : topFrom treeTable p w N s = some s' := by
  simp only [Prod.mk.injEq] at z
  obtain ⟨z1, z2, z3⟩ := z
  unfold topFrom
  rw [z1, z2, z3, r]
  show (match (staticsOk (importedModules p.main.body) s.heap s'.heap && namesBound p s'.heap && gensDone s' && laidKept s.heap s'.heap) with | true => some s' | false => none) = _
  rw [c]
theorem hq_got {α : Type} {r : Option SharedT} {s : SharedT} {F : Shared → α} {a : α} (h : r = some s) (x : r.map (fun s => hqH s F) = some a) : F s.abs = a := by
  subst h; exact (hqH_eq s F).symm.trans (Option.some.inj x)
noncomputable def hq_chk (p : Program) (w : World) (s : Shared) : Bool := staticsOk (importedModules p.main.body) (boot_heap w.params) s.heap && namesBound p s.heap && gensDone s && laidKept (boot_heap w.params) s.heap
theorem left_all {p q : Program} {loose : List Str} {Xt : Shared → Bool} {N m : Nat} {ann : Option Value} {α : Type} {Y : Shared → α} {Ya : World → α} {hq_sT : World → OsState → SharedT}
    (e : opening p = plainProg p.main.scope.names) (hN : Nat.ble 600 N = true) (f : ∀ s, fenceModules? p s = some s)
    (ab : ∀ w os, (hq_sT w os).abs = ⟨boot_heap w.params, Array.mk [], boot_drawn, boot_toks, os⟩)
    (size : ∀ w : World, ((boot_heap w.params).isNs mainGlobals && (Array.mk [] : Array GenState).size == 0, (boot_heap w.params).objs.size, (boot_heap w.params).nsMap mainGlobals "__annotations__") = (true, m, ann))
    (a : ∀ w os, (topRunQ p w m ann N (hq_sT w os) (topStub p)).map (fun s => hqH s fun s => (hq_chk p w s, (openSeen q loose (importedModules p.main.body) Xt true s).1, (openSeen q loose (importedModules p.main.body) Xt true s).2.1)) = some (true, (openGood q loose).1, (openGood q loose).2.1))
    (b : ∀ w os, (topRunQ p w m ann N (hq_sT w os) (topStub p)).map (fun s => hqH s fun s => (openSeen q loose (importedModules p.main.body) Xt true s).2.2.1) = some (openGood q loose).2.2.1)
    (c : ∀ w os, (topRunQ p w m ann N (hq_sT w os) (topStub p)).map (fun s => hqH s fun s => (openSeen q loose (importedModules p.main.body) Xt true s).2.2.2) = some (openGood q loose).2.2.2)
    (y : ∀ w os, (topRunQ p w m ann N (hq_sT w os) (topStub p)).map (fun s => hqH s Y) = some (Ya w)) :
    ∀ w : World, (openEnds treeTable p w N).map (fun s => (openSeen q loose (importedModules p.main.body) Xt true s, Y s)) = some (openGood q loose, Ya w) := by
  intro w
  have b0 := boot_open e hN f w
  obtain ⟨s, hs, e⟩ := Option.map_eq_some_iff.mp b0
  obtain ⟨hh, gg, dd, tt, os⟩ := s
  simp only [Prod.mk.injEq] at e
  obtain ⟨rfl, rfl, rfl, rfl⟩ := e
  have y' := y w os
  cases h : topRunQ p w m ann N (hq_sT w os) (topStub p) with
  | none => rw [h] at y'; cases y'
  | some s =>
    have ga := hq_got h (a w os)
    have gb := hq_got h (b w os)
    have gc := hq_got h (c w os)
    have gy := hq_got h y'
    simp only [Prod.mk.injEq] at ga
    obtain ⟨c1, c2, c3⟩ := ga
    have r := topRunQ_of h
    rw [ab] at r
    have t := top_gen (s := ⟨boot_heap w.params, Array.mk [], boot_drawn, boot_toks, os⟩) (size w) r c1
    unfold openEnds
    rw [hs, Option.bind_some, t, Option.map_some]
    exact congrArg some (Prod.ext (Prod.ext c2 (Prod.ext c3 (Prod.ext gb gc))) gy)
noncomputable def hq_t0 (P : Params) : BT := (.node (boot_o_0 P) (.node (boot_o_1 P) (.node (boot_o_3 P) (.node (boot_o_7 P) .nil .nil) .nil) (.node (boot_o_5 P) (.node (boot_o_9 P) .nil .nil) .nil)) (.node (boot_o_2 P) (.node (boot_o_4 P) (.node (boot_o_8 P) .nil .nil) .nil) (.node (boot_o_6 P) (.node (boot_o_10 P) .nil .nil) .nil)))
noncomputable def hq_sT (w : World) (os : OsState) : SharedT := ⟨hq_t0 w.params, 11, (boot_heap w.params).life, Array.mk [], boot_drawn, boot_toks, os⟩
theorem hq_sT_abs (w : World) (os : OsState) : (hq_sT w os).abs = ⟨boot_heap w.params, Array.mk [], boot_drawn, boot_toks, os⟩ := by kernel_rfl
theorem hq_size0 (w : World) : ((boot_heap w.params).isNs mainGlobals && (Array.mk [] : Array GenState).size == 0, (boot_heap w.params).objs.size, (boot_heap w.params).nsMap mainGlobals "__annotations__") = (true, 11, some (.ref 6)) := by kernel_rfl
theorem op_e : opening PySem.Challenge.pw_af0015_01 = plainProg PySem.Challenge.pw_af0015_01.main.scope.names := by kernel_rfl
theorem op_f : ∀ s, fenceModules? PySem.Challenge.pw_af0015_01 s = some s := fun s => by kernel_rfl
theorem said2 : OpenRow.wellSaid (OpenLaw.row PySem.Challenge.rw_af0015_01) = true := by
  delta OpenRow.wellSaid OpenRow.partSaid looksOpen
  repeat' (with_reducible refine look_both ?_ ?_)
  all_goals decide +kernel
theorem said : OpenLaw.wellSaid PySem.Challenge.rw_af0015_01 = true := by
  delta OpenLaw.wellSaid
  repeat' (with_reducible refine look_both ?_ ?_)
  case refine_1 => exact said2
  all_goals decide +kernel
local macro_rules | `(tactic| o_law) => `(tactic| refine holds_law said fun said => ?_)
def viewOf (p : Program) : Program := { p with main := { p.main with body := [0, 2, 3, 4, 5, 6, 7, 9, 11, 14, 16, 18, 20, 22, 24, 25, 27, 28, 31, 33, 35, 37, 39, 40, 41, 42, 43, 44, 45, 46, 47, 48, 50, 51, 52, 53, 54, 55, 56, 57].filterMap fun i => p.main.body[i]? } }
def view : Program := viewOf PySem.Challenge.pw_af0015_01
def looses : List Str := ["multiply_secp256k1", "add_secp256k1", "is_inf_bn128_curve", "double_bn128_curve", "add_bn128_curve", "multiply_bn128_curve", "FQ", "FQ_field_elements", "FQ_optimized_field_elements", "double_optimized_curve", "add_optimized_curve", "multiply_optimized_curve", "normalize_optimized_curve", "is_inf_optimized_curve", "double_optimized_curve2", "add_optimized_curve2", "multiply_optimized_curve2", "normalize_optimized_curve2"]
noncomputable def hq_xl (s : Shared) : Bool := xlAt view [] s && recOk (RowW.records (OpenRow.toRowW PySem.Challenge.rw_af0015_01.row)) s
theorem hq_ea (w : World) (os : OsState) : (topRunQ PySem.Challenge.pw_af0015_01 w 11 (some (.ref 6)) 6300 (hq_sT w os) (topStub PySem.Challenge.pw_af0015_01)).map (fun s => hqH s fun s => (hq_chk PySem.Challenge.pw_af0015_01 w s, (openSeen view looses (importedModules PySem.Challenge.pw_af0015_01.main.body) hq_xl true s).1, (openSeen view looses (importedModules PySem.Challenge.pw_af0015_01.main.body) hq_xl true s).2.1)) = some (true, (openGood view looses).1, (openGood view looses).2.1) := by kernel_rfl
theorem hq_eb (w : World) (os : OsState) : (topRunQ PySem.Challenge.pw_af0015_01 w 11 (some (.ref 6)) 6300 (hq_sT w os) (topStub PySem.Challenge.pw_af0015_01)).map (fun s => hqH s fun s => (openSeen view looses (importedModules PySem.Challenge.pw_af0015_01.main.body) hq_xl true s).2.2.1) = some (openGood view looses).2.2.1 := by kernel_rfl
theorem hq_ec (w : World) (os : OsState) : (topRunQ PySem.Challenge.pw_af0015_01 w 11 (some (.ref 6)) 6300 (hq_sT w os) (topStub PySem.Challenge.pw_af0015_01)).map (fun s => hqH s fun s => (openSeen view looses (importedModules PySem.Challenge.pw_af0015_01.main.body) hq_xl true s).2.2.2) = some (openGood view looses).2.2.2 := by kernel_rfl
theorem left_two {α : Type} {Y : Shared → α} {Ya : World → α} (h : ∀ (w : World) (os : OsState), (topRunQ PySem.Challenge.pw_af0015_01 w 11 (some (.ref 6)) 6300 (hq_sT w os) (topStub PySem.Challenge.pw_af0015_01)).map (fun s => hqH s Y) = some (Ya w)) :
    ∀ w : World, (openEnds treeTable PySem.Challenge.pw_af0015_01 w 6300).map (fun s => (openSeen view looses (importedModules PySem.Challenge.pw_af0015_01.main.body) (fun s => xlAt view [] s && recOk (RowW.records (OpenRow.toRowW PySem.Challenge.rw_af0015_01.row)) s) true s, Y s)) = some (openGood view looses, Ya w) :=
  left_all (Xt := hq_xl) op_e (by decide) op_f hq_sT_abs hq_size0 hq_ea hq_eb hq_ec h
local macro_rules | `(tactic| o_head $H) => `(tactic| (
  refine holds_open (q := view) (loose := looses) (Xt := fun s => xlAt view [] s && recOk (RowW.records (OpenRow.toRowW PySem.Challenge.rw_af0015_01.row)) s) (XP := XL view []) (Yf := Hook.obs $H) (Ya := Hook.val $H) (YP := Hook.says $H) (N := 6300) ?hl (Hook.of $H) (Hook.keeps $H) (fun s e => xl_of s (Bool.and_eq_true_iff.mp e).1) XL.keeps (by rfl) (by rfl) (by rfl) (fun s e => recFacts_of (Bool.and_eq_true_iff.mp e).2) (by rfl) (by first | assumption | decide +kernel) (by decide +kernel) ⟨rfl, rfl, rfl, rfl, rfl, by decide +kernel⟩ ?hw ?hc;
  (case hl => exact left_two fun w os => by kernel_rfl)))
set_option maxRecDepth 100000 in
set_option maxHeartbeats 0 in
open_top hd for PySem.Challenge.rw_af0015_01
end Mine
namespace Mine
section
noncomputable def Prm (n : Int) : Prop := 1 < n ∧ n < 1000 ∧ ∀ a : Int, 0 < a → a < n → Int.gcd a n = 1
theorem Prm.pos {n : Int} (h : Prm n) : 0 < n := by have := h.1; omega
noncomputable def IsInv (n a r : Int) : Prop := 0 ≤ r ∧ r < n ∧ (a = 0 → r = 0) ∧ (a ≠ 0 → (a * r) % n = 1)
theorem inv3 {n a i : Int} (h : IsInv n a i) : IsInv n a i ∧ 0 ≤ i ∧ i < n := ⟨h, h.1, h.2.1⟩
noncomputable def EI (n a lm hm low high : Int) : Prop := 1 ≤ low ∧ low ≤ high ∧ high ≤ n ∧ n < 1000 ∧ Int.gcd low high = 1 ∧ n ∣ lm * a - low ∧ n ∣ hm * a - high
theorem EI.start {n a : Int} (hp : Prm n) (h0 : 0 ≤ a) (h1 : a < n) (hz : a ≠ 0) : EI n a 1 0 a n := by
  obtain ⟨_, h3, h4⟩ := hp
  refine ⟨by omega, by omega, by omega, h3, h4 a (by omega) h1, ?_, ?_⟩
  · rw [Int.one_mul, Int.sub_self]; exact Int.dvd_zero _
  · rw [Int.zero_mul, Int.zero_sub]; exact Int.dvd_neg.mpr (Int.dvd_refl _)
theorem EI.bounds {n a lm hm low high : Int} (h : EI n a lm hm low high) : 1 ≤ low ∧ low ≤ high ∧ high < 1000 ∧ low < 1000 ∧ 0 ≤ high := by
  obtain ⟨a1, a2, a3, a4, a5, a6, a7⟩ := h
  omega
theorem EI.startA {n a r0 r : Int} (hp : Prm n) (h0 : 0 ≤ a) (h1 : a < n) (e0 : r0 = a % n) (e : r = r0 % n) (hz : r0 ≠ 0) : EI n a 1 0 r n := by
  have q : r0 = a := by rw [e0, Int.emod_eq_of_lt h0 h1]
  subst q
  have q2 : r = r0 := by rw [e, Int.emod_eq_of_lt h0 h1]
  subst q2
  exact EI.start hp h0 h1 hz
theorem EI.startB {n a r : Int} (hp : Prm n) (h0 : 0 ≤ a) (h1 : a < n) (e : r = a % n) (hz : a ≠ 0) : EI n a 1 0 r n := by
  have q2 : r = a := by rw [e, Int.emod_eq_of_lt h0 h1]
  subst q2
  exact EI.start hp h0 h1 hz
theorem EI.step {n a lm hm low high r : Int} (h : EI n a lm hm low high) (hl : 1 < low) (hr : r = high / low) : EI n a (hm - lm * r) lm (high - low * r) low ∧ (high - low * r).toNat < low.toNat := by
  obtain ⟨a1, a2, a3, a4, a5, a6, a7⟩ := h
  have e : high - low * r = high % low := by rw [hr, Int.emod_def]
  have n0 : 0 ≤ high % low := Int.emod_nonneg _ (by omega)
  have n1 : high % low < low := Int.emod_lt_of_pos _ (by omega)
  have g : Int.gcd (high % low) low = 1 := by
    have hh : high = high % low + low * (high / low) := (Int.emod_add_mul_ediv high low).symm
    rw [hh, Int.gcd_comm] at a5
    have := Int.gcd_add_mul_left_left (m := low) (n := high % low) (k := high / low)
    rw [this] at a5
    exact a5
  have nz : high % low ≠ 0 := by
    intro z
    rw [z] at g
    have : Int.gcd 0 low = low.natAbs := by simp
    rw [this] at g
    omega
  rw [e]
  refine ⟨⟨by omega, by omega, by omega, a4, g, ?_, a6⟩, by omega⟩
  rw [← e]
  have : (hm - lm * r) * a - (high - low * r) = (hm * a - high) - (lm * a - low) * r := by
    rw [Int.sub_mul, Int.sub_mul, Int.mul_right_comm lm r a]; omega
  rw [this]
  exact Int.dvd_sub a7 (Int.dvd_mul_of_dvd_left a6)
theorem EI.finish {n a lm hm low high : Int} (hp : Prm n) (h0 : 0 ≤ a) (hz : a ≠ 0) (h : EI n a lm hm low high) (hl : ¬ 1 < low) : IsInv n a (lm % n) := by
  obtain ⟨a1, a2, a3, a4, a5, a6, a7⟩ := h
  obtain ⟨p1, p2, p3⟩ := hp
  refine ⟨Int.emod_nonneg _ (by omega), Int.emod_lt_of_pos _ (by omega), fun e => absurd e hz, fun _ => ?_⟩
  have e : low = 1 := by omega
  rw [e] at a6
  rw [Int.mul_emod, Int.emod_emod, ← Int.mul_emod, Int.mul_comm]
  have : (lm * a) % n = 1 % n := Int.emod_eq_emod_iff_emod_sub_eq_zero.mpr (Int.emod_eq_zero_of_dvd a6)
  rw [this]
  exact Int.emod_eq_of_lt (by omega) p1
theorem EI.finishA {n a r0 lm hm low high i : Int} (hp : Prm n) (h0 : 0 ≤ a) (h1 : a < n) (e0 : r0 = a % n) (hz : r0 ≠ 0) (h : EI n a lm hm low high) (hl : low ≤ 1) (e : i = lm % n) : IsInv n a i := by
  have q : r0 = a := by rw [e0, Int.emod_eq_of_lt h0 h1]
  subst q
  rw [e]
  exact EI.finish hp h0 hz h (by omega)
theorem EI.finishB {n a lm hm low high i : Int} (hp : Prm n) (h0 : 0 ≤ a) (hz : a ≠ 0) (h : EI n a lm hm low high) (hl : low ≤ 1) (e : i = lm % n) : IsInv n a i := by
  rw [e]
  exact EI.finish hp h0 hz h (by omega)
theorem IsInv.zeroA {n a r0 : Int} (hn : Prm n) (h0 : 0 ≤ a) (h1 : a < n) (e0 : r0 = a % n) (hz : r0 = 0) : IsInv n a 0 := by
  have q : r0 = a := by rw [e0, Int.emod_eq_of_lt h0 h1]
  subst q
  subst hz
  have := hn.1
  exact ⟨by omega, by omega, fun _ => rfl, fun h => absurd rfl h⟩
theorem IsInv.zero {n : Int} (hn : 0 < n) : IsInv n 0 0 := ⟨by omega, hn, fun _ => rfl, fun h => absurd rfl h⟩
end
section
open Lean.Grind
section
variable {R : Type} [CommRing R]
theorem r_jdbl_x (X Y Z x y x' : R) (hX : X = x * Z^2) (hY : Y = y * Z^3) (h : 4 * y * y * (x' + 2 * x) = 9 * x * x * x * x) :
    (3 * X^2)^2 - 2 * (4 * X * Y^2) = x' * (2 * Y * Z)^2 := by
  subst hX hY
  grind
theorem r_jdbl_y (X Y Z x y x' y' nx : R) (hX : X = x * Z^2) (hY : Y = y * Z^3) (hn : nx = x' * (2 * Y * Z)^2) (h : 2 * y * (y' + y) = 3 * x * x * (x - x')) :
    (3 * X^2) * (4 * X * Y^2 - nx) - 8 * (Y^2)^2 = y' * (2 * Y * Z)^3 := by
  subst hX hY hn
  grind
theorem r_jadd_x (X1 Y1 Z1 X2 Y2 Z2 x1 y1 x2 y2 x' : R) (hX1 : X1 = x1 * Z1^2) (hY1 : Y1 = y1 * Z1^3) (hX2 : X2 = x2 * Z2^2) (hY2 : Y2 = y2 * Z2^3) (h : (x' + x1 + x2) * (x2 - x1) * (x2 - x1) = (y2 - y1) * (y2 - y1)) :
    (Y2 * Z1^3 - Y1 * Z2^3)^2 - (X2 * Z1^2 - X1 * Z2^2) * ((X2 * Z1^2 - X1 * Z2^2) * (X2 * Z1^2 - X1 * Z2^2)) - 2 * ((X1 * Z2^2) * ((X2 * Z1^2 - X1 * Z2^2) * (X2 * Z1^2 - X1 * Z2^2))) = x' * ((X2 * Z1^2 - X1 * Z2^2) * Z1 * Z2)^2 := by
  subst hX1 hY1 hX2 hY2
  grind
theorem r_jadd_y (X1 Y1 Z1 X2 Y2 Z2 x1 y1 x2 y2 x' y' nx : R) (hX1 : X1 = x1 * Z1^2) (hY1 : Y1 = y1 * Z1^3) (hX2 : X2 = x2 * Z2^2) (hY2 : Y2 = y2 * Z2^3) (hn : nx = x' * ((X2 * Z1^2 - X1 * Z2^2) * Z1 * Z2)^2) (h : (y' + y1) * (x2 - x1) = (y2 - y1) * (x1 - x')) :
    (Y2 * Z1^3 - Y1 * Z2^3) * ((X1 * Z2^2) * ((X2 * Z1^2 - X1 * Z2^2) * (X2 * Z1^2 - X1 * Z2^2)) - nx) - (Y1 * Z2^3) * ((X2 * Z1^2 - X1 * Z2^2) * ((X2 * Z1^2 - X1 * Z2^2) * (X2 * Z1^2 - X1 * Z2^2))) = y' * ((X2 * Z1^2 - X1 * Z2^2) * Z1 * Z2)^3 := by
  subst hX1 hY1 hX2 hY2 hn
  grind
end
structure Hom (P : Int) {R : Type} [CommRing R] (φ : Int → R) : Prop where
  add : ∀ a b, φ (a + b) = φ a + φ b
  sub : ∀ a b, φ (a - b) = φ a - φ b
  mul : ∀ a b, φ (a * b) = φ a * φ b
  neg : ∀ a, φ (-a) = - φ a
  pow : ∀ a (k : Nat), φ (a ^ k) = φ a ^ k
  lit : ∀ n : Nat, φ (OfNat.ofNat n : Int) = (OfNat.ofNat n : R)
  ker : ∀ a b, φ a = φ b ↔ a % P = b % P
theorem Hom.mod {P : Int} {R : Type} [CommRing R] {φ : Int → R} (h : Hom P φ) (a : Int) : φ (a % P) = φ a := (h.ker _ _).mpr (Int.emod_emod _ _)
theorem Hom.zero {P : Int} {R : Type} [CommRing R] {φ : Int → R} (h : Hom P φ) : φ 0 = 0 := h.lit 0
theorem Hom.one {P : Int} {R : Type} [CommRing R] {φ : Int → R} (h : Hom P φ) : φ 1 = 1 := h.lit 1
theorem Hom.exists {P : Int} (hP : 0 < P) : ∃ (R : Type) (_ : CommRing R) (φ : Int → R), Hom P φ := by
  obtain ⟨n, rfl⟩ := Int.eq_ofNat_of_zero_le (Int.le_of_lt hP)
  have hn : n ≠ 0 := by omega
  haveI : NeZero n := ⟨hn⟩
  refine ⟨Fin n, inferInstance, fun a => @Int.cast (Fin n) (Ring.intCast) a, ?_⟩
  exact {
    add := fun a b => Ring.intCast_add a b
    sub := fun a b => Ring.intCast_sub a b
    mul := fun a b => Ring.intCast_mul a b
    neg := fun a => Ring.intCast_neg a
    pow := fun a k => Ring.intCast_pow a k
    lit := fun k => Ring.intCast_ofNat k
    ker := fun a b => IsCharP.intCast_ext_iff n }
end
section
open Lean.Grind
theorem Prm.mulnz {P a b : Int} (hp : Prm P) (ha : a % P ≠ 0) (hb : b % P ≠ 0) : (a * b) % P ≠ 0 := by
  intro h
  have hP := hp.pos
  have h1 : 0 < a % P := by have := Int.emod_nonneg a (show P ≠ 0 by omega); omega
  have h2 : a % P < P := Int.emod_lt_of_pos _ hP
  have g := hp.2.2 _ h1 h2
  have d : P ∣ (a % P) * b := by
    apply Int.dvd_of_emod_eq_zero
    rw [Int.mul_emod, Int.emod_emod, ← Int.mul_emod]; exact h
  have := Int.dvd_gcd_mul_iff_dvd_mul.mpr d
  rw [Int.gcd_comm, g] at this
  exact hb (Int.emod_eq_zero_of_dvd (by simpa using this))
theorem mod_id {P a : Int} (h0 : 0 ≤ a) (h1 : a < P) : a % P = a := Int.emod_eq_of_lt h0 h1

/-- a curve over the prime P, N points, px py the table of the multiples of its point -/
structure Crv (P N : Int) (px py : Int → Int) : Prop where
  prm : Prm P
  big : 8 < P
  odd : P % 2 = 1
  n7 : 7 ≤ N
  n1000 : N ≤ 127
  nodd : N % 2 = 1
  per : ∀ j k, j % N = k % N → px j = px k ∧ py j = py k
  inf : ∀ k, k % N = 0 → px k = 0 ∧ py k = 0
  bnd : ∀ k, 0 ≤ px k ∧ px k < P ∧ 0 ≤ py k ∧ py k < P
  ynz : ∀ k, k % N ≠ 0 → py k ≠ 0
  same : ∀ j k, j % N ≠ 0 → k % N ≠ 0 → px j = px k → j % N = k % N ∨ ((j + k) % N = 0 ∧ py j ≠ py k)
  opp : ∀ j k, j % N ≠ 0 → k % N ≠ 0 → px j ≠ px k → (j + k) % N ≠ 0
  addx : ∀ j k, j % N ≠ 0 → k % N ≠ 0 → px j ≠ px k → ((px (j + k) + px j + px k) * (px k - px j) * (px k - px j)) % P = ((py k - py j) * (py k - py j)) % P
  addy : ∀ j k, j % N ≠ 0 → k % N ≠ 0 → px j ≠ px k → ((py (j + k) + py j) * (px k - px j)) % P = ((py k - py j) * (px j - px (j + k))) % P
  dblx : ∀ k, k % N ≠ 0 → (4 * py k * py k * (px (2 * k) + 2 * px k)) % P = (9 * px k * px k * px k * px k) % P
  dbly : ∀ k, k % N ≠ 0 → (2 * py k * (py (2 * k) + py k)) % P = (3 * px k * px k * (px k - px (2 * k))) % P

section
variable {P N : Int} {px py : Int → Int}
theorem Crv.dnz (C : Crv P N px py) {k : Int} (h : k % N ≠ 0) : (2 * k) % N ≠ 0 := by
  have h1 := C.nodd
  intro e
  obtain ⟨q, hq⟩ := Int.dvd_of_emod_eq_zero e
  have e2 : q % 2 = 0 := by
    rcases Int.emod_two_eq q with h | h
    · exact h
    · exfalso
      have e3 : q = 2 * (q / 2) + 1 := by omega
      rw [e3, Int.mul_add, Int.mul_one, show N * (2 * (q / 2)) = 2 * (N * (q / 2)) from by grind] at hq
      omega
  have e3 : q = 2 * (q / 2) := by omega
  rw [e3, show N * (2 * (q / 2)) = 2 * (N * (q / 2)) from by grind] at hq
  have : k = N * (q / 2) := by omega
  exact h (by rw [this]; exact Int.mul_emod_right _ _)
theorem Crv.small (C : Crv P N px py) {c : Int} (h0 : 0 < c) (h1 : c ≤ 8) : c % P ≠ 0 := by
  have := C.big
  rw [mod_id (by omega) (by omega)]; omega
theorem Crv.emod_b (C : Crv P N px py) (a : Int) : 0 ≤ a % P ∧ a % P < P := by
  have := C.big
  exact ⟨Int.emod_nonneg _ (by omega), Int.emod_lt_of_pos _ (by omega)⟩
theorem Crv.ymod (C : Crv P N px py) {k : Int} (h : k % N ≠ 0) : py k % P ≠ 0 := by
  have b := C.bnd k
  rw [mod_id b.2.2.1 b.2.2.2]; exact C.ynz k h

noncomputable def JRep (P N : Int) (px py : Int → Int) (k X Y Z : Int) : Prop :=
  (0 ≤ X ∧ X < P) ∧ (0 ≤ Y ∧ Y < P) ∧ (0 ≤ Z ∧ Z < P) ∧ ((k % N = 0 ∧ X = 0 ∧ Y = 0) ∨ (k % N ≠ 0 ∧ Z ≠ 0 ∧ X % P = (px k * Z ^ 2) % P ∧ Y % P = (py k * Z ^ 3) % P))
noncomputable def PRep (P N : Int) (px py : Int → Int) (k X Y Z : Int) : Prop :=
  (0 ≤ X ∧ X < P) ∧ (0 ≤ Y ∧ Y < P) ∧ (0 ≤ Z ∧ Z < P) ∧ ((k % N = 0 ∧ Z = 0) ∨ (k % N ≠ 0 ∧ Z ≠ 0 ∧ X % P = (px k * Z) % P ∧ Y % P = (py k * Z) % P))

theorem JRep.y0 (C : Crv P N px py) {k X Y Z : Int} (h : JRep P N px py k X Y Z) (hY : Y = 0) : k % N = 0 := by
  obtain ⟨hX, hY', hZ, h | ⟨a, b, c, d⟩⟩ := h
  · exact h.1
  · exfalso
    rw [hY] at d
    have z : Z % P ≠ 0 := by rw [mod_id hZ.1 hZ.2]; exact b
    have := C.prm.mulnz (C.ymod a) (C.prm.mulnz (C.prm.mulnz z z) z)
    rw [show Z * Z * Z = Z ^ 3 from by grind] at this
    rw [← d] at this
    exact this (Int.zero_emod _)
theorem JRep.ynz (C : Crv P N px py) {k X Y Z : Int} (h : JRep P N px py k X Y Z) (hY : Y ≠ 0) : k % N ≠ 0 ∧ Z ≠ 0 ∧ X % P = (px k * Z ^ 2) % P ∧ Y % P = (py k * Z ^ 3) % P := by
  obtain ⟨hX, hY', hZ, h | h⟩ := h
  · exact absurd h.2.2 hY
  · exact h
theorem JRep.ofInf (C : Crv P N px py) {k Z : Int} (h : k % N = 0) (h0 : 0 ≤ Z) (h1 : Z < P) : JRep P N px py k 0 0 Z := by
  have := C.big
  exact ⟨⟨by omega, by omega⟩, ⟨by omega, by omega⟩, ⟨h0, h1⟩, .inl ⟨h, rfl, rfl⟩⟩
theorem JRep.idx (C : Crv P N px py) {j k X Y Z : Int} (e : j % N = k % N) (h : JRep P N px py j X Y Z) : JRep P N px py k X Y Z := by
  obtain ⟨a, b⟩ := C.per _ _ e
  unfold JRep at h ⊢
  rw [a, b, e] at h
  exact h
theorem JRep.idxE {j k X Y Z : Int} (h : JRep P N px py j X Y Z) (e : j = k) : JRep P N px py k X Y Z := e ▸ h
theorem PRep.idx (C : Crv P N px py) {j k X Y Z : Int} (e : j % N = k % N) (h : PRep P N px py j X Y Z) : PRep P N px py k X Y Z := by
  obtain ⟨a, b⟩ := C.per _ _ e
  unfold PRep at h ⊢
  rw [a, b, e] at h
  exact h
theorem JRep.one (C : Crv P N px py) (k : Int) : JRep P N px py k (px k) (py k) 1 := by
  have := C.big
  obtain ⟨a, b, c, d⟩ := C.bnd k
  refine ⟨⟨a, b⟩, ⟨c, d⟩, ⟨by omega, by omega⟩, ?_⟩
  by_cases h : k % N = 0
  · exact .inl ⟨h, (C.inf k h).1, (C.inf k h).2⟩
  · exact .inr ⟨h, by omega, by simp, by simp⟩
theorem JRep.dbl0 (C : Crv P N px py) {k X Y Z : Int} (h : JRep P N px py k X Y Z) (hY : Y = 0) : JRep P N px py (2 * k) 0 0 0 := by
  have := C.big
  have h0 := h.y0 C hY
  refine JRep.ofInf C ?_ (by omega) (by omega)
  rw [Int.mul_emod, h0, Int.mul_zero, Int.zero_emod]
theorem jdbl_rep (C : Crv P N px py) {k X Y Z nx ny nz ysq S M : Int} (h : JRep P N px py k X Y Z) (hY : Y ≠ 0) (ex : nx = (M ^ 2 - 2 * S) % P) (ey : ny = (M * (S - nx) - 8 * ysq ^ 2) % P) (ez : nz = (2 * Y * Z) % P)
    (eM : M = (3 * X ^ 2 + 0 * Z ^ 4) % P) (eS : S = (4 * X * ysq) % P) (eq : ysq = (Y ^ 2) % P) : JRep P N px py (2 * k) nx ny nz := by
  obtain ⟨kn, zn, hx, hy⟩ := h.ynz C hY
  obtain ⟨_, hYb, hZb, _⟩ := h
  refine ⟨by rw [ex]; exact C.emod_b _, by rw [ey]; exact C.emod_b _, by rw [ez]; exact C.emod_b _, .inr ⟨C.dnz kn, ?_, ?_, ?_⟩⟩
  · rw [ez]
    refine C.prm.mulnz (C.prm.mulnz (C.small (by omega) (by omega)) ?_) ?_
    · rw [mod_id hYb.1 hYb.2]; exact hY
    · rw [mod_id hZb.1 hZb.2]; exact zn
  all_goals obtain ⟨R, _, φ, H⟩ := Hom.exists C.prm.pos
  all_goals
    have fx := (H.ker _ _).mpr hx
    have fy := (H.ker _ _).mpr hy
    have d1 := (H.ker _ _).mpr (C.dblx k kn)
    have d2 := (H.ker _ _).mpr (C.dbly k kn)
    have gX : φ nx = (3 * φ X ^ 2) ^ 2 - 2 * (4 * φ X * φ Y ^ 2) := by
      rw [ex, eM, eS, eq]; simp only [H.mod, H.mul, H.sub, H.add, H.pow, H.lit]; grind
    have gZ : φ nz = 2 * φ Y * φ Z := by rw [ez]; simp only [H.mod, H.mul, H.lit]
    have gY : φ ny = (3 * φ X ^ 2) * (4 * φ X * φ Y ^ 2 - φ nx) - 8 * (φ Y ^ 2) ^ 2 := by
      rw [ey, eM, eS, eq]; simp only [H.mod, H.mul, H.sub, H.add, H.pow, H.lit]; grind
    simp only [H.mul, H.pow, H.add, H.sub, H.lit] at fx fy d1 d2
    refine (H.ker _ _).mp ?_
    simp only [H.mul, H.pow]
  · rw [gX, gZ]; exact r_jdbl_x _ _ _ _ _ _ fx fy d1
  · rw [gY, gZ]
    refine r_jdbl_y _ _ _ _ _ _ _ _ fx fy ?_ d2
    rw [gX]; exact r_jdbl_x _ _ _ _ _ _ fx fy d1

/-- equal remainders of reduced ints are equal -/
theorem eq_of_mod {P a b : Int} (ha : 0 ≤ a ∧ a < P) (hb : 0 ≤ b ∧ b < P) (h : a % P = b % P) : a = b := by
  rw [mod_id ha.1 ha.2, mod_id hb.1 hb.2] at h; exact h
theorem Crv.cancel (C : Crv P N px py) {a b c : Int} (hc : c % P ≠ 0) (h : (a * c) % P = (b * c) % P) : a % P = b % P := by
  by_cases e : (a - b) % P = 0
  · exact Int.emod_eq_emod_iff_emod_sub_eq_zero.mpr e
  · exfalso
    have := C.prm.mulnz e hc
    apply this
    rw [Int.sub_mul]
    exact Int.emod_eq_emod_iff_emod_sub_eq_zero.mp h
theorem Crv.nz (C : Crv P N px py) {a : Int} (hb : 0 ≤ a ∧ a < P) (h : a ≠ 0) : a % P ≠ 0 := by rw [mod_id hb.1 hb.2]; exact h
theorem Crv.sum0 (C : Crv P N px py) {j k : Int} (h : j % N = 0) : (j + k) % N = k % N := by
  rw [Int.add_emod, h, Int.zero_add, Int.emod_emod]
theorem Crv.sum0' (C : Crv P N px py) {j k : Int} (h : k % N = 0) : (j + k) % N = j % N := by
  rw [Int.add_emod, h, Int.add_zero, Int.emod_emod]
/-- two nonzero residues' same test -/
theorem jadd_same (C : Crv P N px py) {j k X1 Y1 Z1 X2 Y2 Z2 U1 U2 : Int} (h1 : JRep P N px py j X1 Y1 Z1) (h2 : JRep P N px py k X2 Y2 Z2) (y1 : Y1 ≠ 0) (y2 : Y2 ≠ 0)
    (eU1 : U1 = (X1 * Z2 ^ 2) % P) (eU2 : U2 = (X2 * Z1 ^ 2) % P) : U1 = U2 ↔ px j = px k := by
  obtain ⟨jn, z1, hx1, hy1⟩ := h1.ynz C y1
  obtain ⟨kn, z2, hx2, hy2⟩ := h2.ynz C y2
  obtain ⟨_, _, hz1, _⟩ := h1
  obtain ⟨_, _, hz2, _⟩ := h2
  have n1 := C.nz hz1 z1
  have n2 := C.nz hz2 z2
  have nn := C.prm.mulnz (C.prm.mulnz n1 n1) (C.prm.mulnz n2 n2)
  have b1 := C.bnd j
  have b2 := C.bnd k
  obtain ⟨R, _, φ, H⟩ := Hom.exists C.prm.pos
  have f1 := (H.ker _ _).mpr hx1
  have f2 := (H.ker _ _).mpr hx2
  simp only [H.mul, H.pow] at f1 f2
  have g1 : φ U1 = φ (px j) * (φ Z1 ^ 2 * φ Z2 ^ 2) := by rw [eU1]; simp only [H.mod, H.mul, H.pow]; rw [f1]; grind
  have g2 : φ U2 = φ (px k) * (φ Z1 ^ 2 * φ Z2 ^ 2) := by rw [eU2]; simp only [H.mod, H.mul, H.pow]; rw [f2]; grind
  constructor
  · intro e
    rw [e, g2] at g1
    refine eq_of_mod ⟨b1.1, b1.2.1⟩ ⟨b2.1, b2.2.1⟩ (C.cancel nn ?_)
    refine (H.ker _ _).mp ?_
    simp only [H.mul]
    grind
  · intro e
    rw [e, ← g2] at g1
    have := (H.ker _ _).mp g1
    refine eq_of_mod ?_ ?_ this
    · rw [eU1]; exact C.emod_b _
    · rw [eU2]; exact C.emod_b _
theorem jadd_sameY (C : Crv P N px py) {j k X1 Y1 Z1 X2 Y2 Z2 S1 S2 : Int} (h1 : JRep P N px py j X1 Y1 Z1) (h2 : JRep P N px py k X2 Y2 Z2) (y1 : Y1 ≠ 0) (y2 : Y2 ≠ 0)
    (eS1 : S1 = (Y1 * Z2 ^ 3) % P) (eS2 : S2 = (Y2 * Z1 ^ 3) % P) : S1 = S2 ↔ py j = py k := by
  obtain ⟨jn, z1, hx1, hy1⟩ := h1.ynz C y1
  obtain ⟨kn, z2, hx2, hy2⟩ := h2.ynz C y2
  obtain ⟨_, _, hz1, _⟩ := h1
  obtain ⟨_, _, hz2, _⟩ := h2
  have n1 := C.nz hz1 z1
  have n2 := C.nz hz2 z2
  have nn := C.prm.mulnz (C.prm.mulnz (C.prm.mulnz n1 n1) n1) (C.prm.mulnz (C.prm.mulnz n2 n2) n2)
  have b1 := C.bnd j
  have b2 := C.bnd k
  obtain ⟨R, _, φ, H⟩ := Hom.exists C.prm.pos
  have f1 := (H.ker _ _).mpr hy1
  have f2 := (H.ker _ _).mpr hy2
  simp only [H.mul, H.pow] at f1 f2
  have g1 : φ S1 = φ (py j) * (φ Z1 ^ 3 * φ Z2 ^ 3) := by rw [eS1]; simp only [H.mod, H.mul, H.pow]; rw [f1]; grind
  have g2 : φ S2 = φ (py k) * (φ Z1 ^ 3 * φ Z2 ^ 3) := by rw [eS2]; simp only [H.mod, H.mul, H.pow]; rw [f2]; grind
  constructor
  · intro e
    rw [e, g2] at g1
    refine eq_of_mod ⟨b1.2.2.1, b1.2.2.2⟩ ⟨b2.2.2.1, b2.2.2.2⟩ (C.cancel nn ?_)
    refine (H.ker _ _).mp ?_
    simp only [H.mul]
    grind
  · intro e
    rw [e, ← g2] at g1
    have := (H.ker _ _).mp g1
    refine eq_of_mod ?_ ?_ this
    · rw [eS1]; exact C.emod_b _
    · rw [eS2]; exact C.emod_b _
theorem jadd_inf (C : Crv P N px py) {j k X1 Y1 Z1 X2 Y2 Z2 U1 U2 S1 S2 : Int} (h1 : JRep P N px py j X1 Y1 Z1) (h2 : JRep P N px py k X2 Y2 Z2) (y1 : Y1 ≠ 0) (y2 : Y2 ≠ 0)
    (eU1 : U1 = (X1 * Z2 ^ 2) % P) (eU2 : U2 = (X2 * Z1 ^ 2) % P) (eS1 : S1 = (Y1 * Z2 ^ 3) % P) (eS2 : S2 = (Y2 * Z1 ^ 3) % P) (hU : U1 = U2) (hS : S1 ≠ S2) : JRep P N px py (j + k) 0 0 1 := by
  have := C.big
  have a := (jadd_same C h1 h2 y1 y2 eU1 eU2).mp hU
  have b := fun e => hS ((jadd_sameY C h1 h2 y1 y2 eS1 eS2).mpr e)
  rcases C.same j k (h1.ynz C y1).1 (h2.ynz C y2).1 a with e | e
  · exact absurd (C.per _ _ e).2 b
  · exact JRep.ofInf C e.1 (by omega) (by omega)
theorem jadd_dbl (C : Crv P N px py) {j k X1 Y1 Z1 X2 Y2 Z2 U1 U2 S1 S2 A B D : Int} (h1 : JRep P N px py j X1 Y1 Z1) (h2 : JRep P N px py k X2 Y2 Z2) (y1 : Y1 ≠ 0) (y2 : Y2 ≠ 0)
    (eU1 : U1 = (X1 * Z2 ^ 2) % P) (eU2 : U2 = (X2 * Z1 ^ 2) % P) (eS1 : S1 = (Y1 * Z2 ^ 3) % P) (eS2 : S2 = (Y2 * Z1 ^ 3) % P) (hU : U1 = U2) (hS : S1 = S2) (h : JRep P N px py (2 * j) A B D) : JRep P N px py (j + k) A B D := by
  have a := (jadd_same C h1 h2 y1 y2 eU1 eU2).mp hU
  have b := (jadd_sameY C h1 h2 y1 y2 eS1 eS2).mp hS
  rcases C.same j k (h1.ynz C y1).1 (h2.ynz C y2).1 a with e | e
  · refine h.idx C ?_
    rw [show 2 * j = j + j from by omega, Int.add_emod j k, ← e, ← Int.add_emod]
  · exact absurd b e.2
theorem jadd_rep (C : Crv P N px py) {j k X1 Y1 Z1 X2 Y2 Z2 U1 U2 S1 S2 H2 H3 UH nx ny nz : Int} (h1 : JRep P N px py j X1 Y1 Z1) (h2 : JRep P N px py k X2 Y2 Z2) (y1 : Y1 ≠ 0) (y2 : Y2 ≠ 0) (hU : U1 ≠ U2)
    (ex : nx = ((S2 - S1) ^ 2 - H3 - 2 * UH) % P) (ey : ny = ((S2 - S1) * (UH - nx) - S1 * H3) % P) (ez : nz = ((U2 - U1) * Z1 * Z2) % P)
    (eUH : UH = (U1 * H2) % P) (eH3 : H3 = ((U2 - U1) * H2) % P) (eH2 : H2 = ((U2 - U1) * (U2 - U1)) % P)
    (eU1 : U1 = (X1 * Z2 ^ 2) % P) (eU2 : U2 = (X2 * Z1 ^ 2) % P) (eS1 : S1 = (Y1 * Z2 ^ 3) % P) (eS2 : S2 = (Y2 * Z1 ^ 3) % P) : JRep P N px py (j + k) nx ny nz := by
  have hne := fun e => hU ((jadd_same C h1 h2 y1 y2 eU1 eU2).mpr e)
  obtain ⟨jn, z1, hx1, hy1⟩ := h1.ynz C y1
  obtain ⟨kn, z2, hx2, hy2⟩ := h2.ynz C y2
  obtain ⟨_, _, hz1, _⟩ := h1
  obtain ⟨_, _, hz2, _⟩ := h2
  have n1 := C.nz hz1 z1
  have n2 := C.nz hz2 z2
  have bU1 : 0 ≤ U1 ∧ U1 < P := by rw [eU1]; exact C.emod_b _
  have bU2 : 0 ≤ U2 ∧ U2 < P := by rw [eU2]; exact C.emod_b _
  have nH : (U2 - U1) % P ≠ 0 := by
    intro e
    exact hU (eq_of_mod bU1 bU2 (Int.emod_eq_emod_iff_emod_sub_eq_zero.mpr e).symm)
  refine ⟨by rw [ex]; exact C.emod_b _, by rw [ey]; exact C.emod_b _, by rw [ez]; exact C.emod_b _, .inr ⟨C.opp j k jn kn hne, ?_, ?_, ?_⟩⟩
  · rw [ez]
    exact C.prm.mulnz (C.prm.mulnz nH n1) n2
  all_goals obtain ⟨R, _, φ, H⟩ := Hom.exists C.prm.pos
  all_goals
    have fx1 := (H.ker _ _).mpr hx1
    have fy1 := (H.ker _ _).mpr hy1
    have fx2 := (H.ker _ _).mpr hx2
    have fy2 := (H.ker _ _).mpr hy2
    have d1 := (H.ker _ _).mpr (C.addx j k jn kn hne)
    have d2 := (H.ker _ _).mpr (C.addy j k jn kn hne)
    simp only [H.mul, H.pow, H.add, H.sub, H.lit] at fx1 fy1 fx2 fy2 d1 d2
    have gU1 : φ U1 = φ X1 * φ Z2 ^ 2 := by rw [eU1]; simp only [H.mod, H.mul, H.pow]
    have gU2 : φ U2 = φ X2 * φ Z1 ^ 2 := by rw [eU2]; simp only [H.mod, H.mul, H.pow]
    have gS1 : φ S1 = φ Y1 * φ Z2 ^ 3 := by rw [eS1]; simp only [H.mod, H.mul, H.pow]
    have gS2 : φ S2 = φ Y2 * φ Z1 ^ 3 := by rw [eS2]; simp only [H.mod, H.mul, H.pow]
    have gH2 : φ H2 = (φ U2 - φ U1) * (φ U2 - φ U1) := by rw [eH2]; simp only [H.mod, H.mul, H.sub]
    have gH3 : φ H3 = (φ U2 - φ U1) * φ H2 := by rw [eH3]; simp only [H.mod, H.mul, H.sub]
    have gUH : φ UH = φ U1 * φ H2 := by rw [eUH]; simp only [H.mod, H.mul]
    have gX : φ nx = (φ S2 - φ S1) ^ 2 - φ H3 - 2 * φ UH := by rw [ex]; simp only [H.mod, H.mul, H.sub, H.pow, H.lit]
    have gY : φ ny = (φ S2 - φ S1) * (φ UH - φ nx) - φ S1 * φ H3 := by rw [ey]; simp only [H.mod, H.mul, H.sub, H.pow, H.lit]
    have gZ : φ nz = (φ U2 - φ U1) * φ Z1 * φ Z2 := by rw [ez]; simp only [H.mod, H.mul, H.sub]
    refine (H.ker _ _).mp ?_
    simp only [H.mul, H.pow]
    have key := r_jadd_x _ _ _ _ _ _ _ _ _ _ _ fx1 fy1 fx2 fy2 d1
    rw [← gU1, ← gU2, ← gS1, ← gS2, ← gH2, ← gH3, ← gUH, ← gX, ← gZ] at key
  · exact key
  · rw [gY, gUH, gH3, gH2, gU1, gU2, gS1, gS2, gZ, gU1, gU2]
    refine r_jadd_y _ _ _ _ _ _ _ _ _ _ _ _ _ fx1 fy1 fx2 fy2 ?_ d2
    rw [key, gZ, gU1, gU2]
/-- back from a Jacobian triple -/
theorem jback (C : Crv P N px py) {k X Y Z i a b : Int} (h : JRep P N px py k X Y Z) (hi : IsInv P Z i) (ea : a = (X * i ^ 2) % P) (eb : b = (Y * i ^ 3) % P) : a = px k ∧ b = py k := by
  obtain ⟨bx, b0, hz, h | ⟨kn, zn, hx, hy⟩⟩ := h
  · obtain ⟨h0, rfl, rfl⟩ := h
    rw [(C.inf k h0).1, (C.inf k h0).2, ea, eb]
    simp
  · have e := hi.2.2.2 zn
    have bb := C.bnd k
    obtain ⟨R, _, φ, H⟩ := Hom.exists C.prm.pos
    have f := (H.ker (Z * i) 1).mpr (by rw [e]; exact (mod_id (by omega) C.prm.1).symm)
    have fx := (H.ker _ _).mpr hx
    have fy := (H.ker _ _).mpr hy
    simp only [H.mul, H.pow, H.one] at f fx fy
    constructor
    · refine eq_of_mod (by rw [ea]; exact C.emod_b _) ⟨bb.1, bb.2.1⟩ ((H.ker _ _).mp ?_)
      rw [ea]; simp only [H.mod, H.mul, H.pow]; rw [fx]
      rw [show φ (px k) * φ Z ^ 2 * φ i ^ 2 = φ (px k) * (φ Z * φ i) ^ 2 from by grind, f]; grind
    · refine eq_of_mod (by rw [eb]; exact C.emod_b _) ⟨bb.2.2.1, bb.2.2.2⟩ ((H.ker _ _).mp ?_)
      rw [eb]; simp only [H.mod, H.mul, H.pow]; rw [fy]
      rw [show φ (py k) * φ Z ^ 3 * φ i ^ 3 = φ (py k) * (φ Z * φ i) ^ 3 from by grind, f]; grind
theorem Crv.mul0 (C : Crv P N px py) {k n : Int} (h : k % N = 0) : (k * n) % N = 0 := by rw [Int.mul_emod, h, Int.zero_mul, Int.zero_emod]
theorem Crv.mul00 (C : Crv P N px py) {k n : Int} (h : n = 0) : (k * n) % N = 0 := by rw [h, Int.mul_zero, Int.zero_emod]
theorem mul_half {k n r q : Int} (hq : q = n / 2) (hr : r = n % 2) (h : r = 0) : 2 * (k * q) = k * n := by
  have : n = 2 * q := by omega
  rw [this, ← Int.mul_assoc, ← Int.mul_assoc, Int.mul_comm 2 k]
theorem mul_half1 {k n r q : Int} (hq : q = n / 2) (hr : r = n % 2) (h : r = 1) : 2 * (k * q) + k = k * n := by
  have : n = 2 * q + 1 := by omega
  rw [this, Int.mul_add, Int.mul_one, ← Int.mul_assoc, ← Int.mul_assoc, Int.mul_comm 2 k]
theorem Crv.dbl0 (C : Crv P N px py) {k : Int} (h : k % N = 0) : (2 * k) % N = 0 := by rw [Int.mul_emod, h, Int.mul_zero, Int.zero_emod]
theorem Crv.sum00 (C : Crv P N px py) {j k : Int} (h : j % N = 0) (h' : k % N = 0) : (j + k) % N = 0 := by rw [C.sum0 h]; exact h'
theorem Crv.sameInf (C : Crv P N px py) {j k : Int} (h : j % N ≠ 0) (h' : k % N ≠ 0) (hx : px k = px j) (hy : ¬ (py k = py j)) : (j + k) % N = 0 := by
  rcases C.same j k h h' hx.symm with e | e
  · exact absurd (C.per _ _ e).2 (fun q => hy q.symm)
  · exact e.1
theorem Crv.sameDbl (C : Crv P N px py) {j k : Int} (h : j % N ≠ 0) (h' : k % N ≠ 0) (hx : px k = px j) (hy : py k = py j) : (2 * j) % N = (j + k) % N := by
  rcases C.same j k h h' hx.symm with e | e
  · rw [show 2 * j = j + j from by omega, Int.add_emod j k, ← e, ← Int.add_emod]
  · exact absurd hy.symm e.2
end
end
section
open Lean.Grind
section
variable {R : Type} [CommRing R]
theorem r_odbl_x (X Y Z x y x' : R) (hX : X = x * Z) (hY : Y = y * Z) (h : 4 * y * y * (x' + 2 * x) = 9 * x * x * x * x) :
    2 * ((3 * X * X) * (3 * X * X) - 8 * (X * Y * (Y * Z))) * (Y * Z) = x' * (8 * (Y * Z) * ((Y * Z) * (Y * Z))) := by
  subst hX hY
  grind
theorem r_odbl_y (X Y Z x y x' y' : R) (hX : X = x * Z) (hY : Y = y * Z) (h : 4 * y * y * (x' + 2 * x) = 9 * x * x * x * x) (h' : 2 * y * (y' + y) = 3 * x * x * (x - x')) :
    (3 * X * X) * (4 * (X * Y * (Y * Z)) - ((3 * X * X) * (3 * X * X) - 8 * (X * Y * (Y * Z)))) - 8 * Y * Y * ((Y * Z) * (Y * Z)) = y' * (8 * (Y * Z) * ((Y * Z) * (Y * Z))) := by
  subst hX hY
  grind
theorem r_oadd_x (X1 Y1 Z1 X2 Y2 Z2 x1 y1 x2 y2 x' U V W A : R) (hX1 : X1 = x1 * Z1) (hY1 : Y1 = y1 * Z1) (hX2 : X2 = x2 * Z2) (hY2 : Y2 = y2 * Z2)
    (hU : U = Y2 * Z1 - Y1 * Z2) (hV : V = X2 * Z1 - X1 * Z2) (hW : W = Z1 * Z2) (hA : A = U * U * W - V * (V * V) - 2 * (V * V * (X1 * Z2)))
    (h : (x' + x1 + x2) * (x2 - x1) * (x2 - x1) = (y2 - y1) * (y2 - y1)) : V * A = x' * (V * (V * V) * W) := by
  subst hX1 hY1 hX2 hY2 hU hV hW hA
  grind
theorem r_oadd_y (X1 Y1 Z1 X2 Y2 Z2 x1 y1 x2 y2 x' y' U V W A : R) (hX1 : X1 = x1 * Z1) (hY1 : Y1 = y1 * Z1) (hX2 : X2 = x2 * Z2) (hY2 : Y2 = y2 * Z2)
    (hU : U = Y2 * Z1 - Y1 * Z2) (hV : V = X2 * Z1 - X1 * Z2) (hW : W = Z1 * Z2) (hA : A = U * U * W - V * (V * V) - 2 * (V * V * (X1 * Z2)))
    (h : (x' + x1 + x2) * (x2 - x1) * (x2 - x1) = (y2 - y1) * (y2 - y1)) (h' : (y' + y1) * (x2 - x1) = (y2 - y1) * (x1 - x')) :
    U * (V * V * (X1 * Z2) - A) - V * (V * V) * (Y1 * Z2) = y' * (V * (V * V) * W) := by
  subst hX1 hY1 hX2 hY2 hU hV hW hA
  grind
end

section
variable {P N : Int} {px py : Int → Int}
theorem PRep.idxE {j k X Y Z : Int} (h : PRep P N px py j X Y Z) (e : j = k) : PRep P N px py k X Y Z := e ▸ h
theorem mul_halfB {k n r q : Int} (hq : q = n / 2) (hr : r = n % 2) (h : r = 0) : (2 * k) * q = k * n := by
  have : n = 2 * q := by omega
  rw [this, ← Int.mul_assoc, Int.mul_comm 2 k]
theorem mul_halfB1 {k n r q : Int} (hq : q = n / 2) (hr : r = n % 2) (h : r ≠ 0) : (2 * k) * q + k = k * n := by
  have : n = 2 * q + 1 := by omega
  rw [this, Int.mul_add, Int.mul_one, ← Int.mul_assoc, Int.mul_comm 2 k]
theorem PRep.zz {k X Y Z : Int} (e : Z = 0) (h : PRep P N px py k X Y 0) : PRep P N px py k X Y Z := e ▸ h
theorem PRep.znz (C : Crv P N px py) {k X Y Z : Int} (h : PRep P N px py k X Y Z) (hZ : Z ≠ 0) : k % N ≠ 0 ∧ Z ≠ 0 ∧ X % P = (px k * Z) % P ∧ Y % P = (py k * Z) % P := by
  obtain ⟨_, _, _, h | h⟩ := h
  · exact absurd h.2 hZ
  · exact h
theorem PRep.z0 (C : Crv P N px py) {k X Y Z : Int} (h : PRep P N px py k X Y Z) (hZ : Z = 0) : k % N = 0 := by
  obtain ⟨_, _, _, h | h⟩ := h
  · exact h.1
  · exact absurd hZ h.2.1
theorem PRep.ofInf (C : Crv P N px py) {k X Y : Int} (h : k % N = 0) (hx : 0 ≤ X ∧ X < P) (hy : 0 ≤ Y ∧ Y < P) : PRep P N px py k X Y 0 := by
  have := C.big
  exact ⟨hx, hy, ⟨by omega, by omega⟩, .inl ⟨h, rfl⟩⟩
theorem odbl_rep (C : Crv P N px py) {k X Y Z nx ny nz n1 S H m3 m6 W m2 m1 B m5 S2 m4 z1 h1 h2 b1 w1 : Int} (h : PRep P N px py k X Y Z)
    (ex : nx = (n1 * S) % P) (en1 : n1 = (H * 2) % P) (ey : ny = (m3 - m6) % P) (em3 : m3 = (W * m2) % P) (em2 : m2 = (m1 - H) % P) (em1 : m1 = (B * 4) % P) (em6 : m6 = (m5 * S2) % P) (em5 : m5 = (m4 * Y) % P) (em4 : m4 = (Y * 8) % P)
    (ez : nz = (z1 * S2) % P) (ez1 : z1 = (S * 8) % P) (eH : H = (h1 - h2) % P) (eh1 : h1 = (W * W) % P) (eh2 : h2 = (B * 8) % P) (eS2 : S2 = (S * S) % P) (eB : B = (b1 * S) % P) (eb1 : b1 = (X * Y) % P) (eS : S = (Y * Z) % P) (eW : W = (w1 * X) % P) (ew1 : w1 = (X * 3) % P) :
    PRep P N px py (2 * k) nx ny nz := by
  obtain ⟨hX, hY, hZ, ⟨k0, z0⟩ | ⟨kn, zn, hx, hy⟩⟩ := h
  · have e : S = 0 := by rw [eS, z0, Int.mul_zero, Int.zero_emod]
    have e2 : nz = 0 := by rw [ez, ez1, e]; simp
    rw [e2]
    refine PRep.ofInf C ?_ (by rw [ex]; exact C.emod_b _) (by rw [ey]; exact C.emod_b _)
    rw [Int.mul_emod, k0, Int.mul_zero, Int.zero_emod]
  · refine ⟨by rw [ex]; exact C.emod_b _, by rw [ey]; exact C.emod_b _, by rw [ez]; exact C.emod_b _, .inr ⟨C.dnz kn, ?_, ?_, ?_⟩⟩
    · have nZ := C.nz hZ zn
      have nY : Y % P ≠ 0 := by rw [hy]; exact C.prm.mulnz (C.ymod kn) nZ
      have nS : S % P ≠ 0 := by rw [eS, Int.emod_emod]; exact C.prm.mulnz nY nZ
      rw [ez]
      refine C.prm.mulnz ?_ ?_
      · rw [ez1, Int.emod_emod]; exact C.prm.mulnz nS (C.small (by omega) (by omega))
      · rw [eS2, Int.emod_emod]; exact C.prm.mulnz nS nS
    all_goals obtain ⟨R, _, φ, Hm⟩ := Hom.exists C.prm.pos
    all_goals
      have fx := (Hm.ker _ _).mpr hx
      have fy := (Hm.ker _ _).mpr hy
      have d1 := (Hm.ker _ _).mpr (C.dblx k kn)
      have d2 := (Hm.ker _ _).mpr (C.dbly k kn)
      simp only [Hm.mul, Hm.add, Hm.sub, Hm.lit] at fx fy d1 d2
      have gS : φ S = φ Y * φ Z := by rw [eS]; simp only [Hm.mod, Hm.mul]
      have gW : φ W = 3 * φ X * φ X := by rw [eW, ew1]; simp only [Hm.mod, Hm.mul, Hm.lit]; grind
      have gB : φ B = φ X * φ Y * φ S := by rw [eB, eb1]; simp only [Hm.mod, Hm.mul]
      have gH : φ H = φ W * φ W - 8 * φ B := by rw [eH, eh1, eh2]; simp only [Hm.mod, Hm.mul, Hm.sub, Hm.lit]; grind
      have gZ : φ nz = 8 * φ S * (φ S * φ S) := by rw [ez, ez1, eS2]; simp only [Hm.mod, Hm.mul, Hm.lit]; grind
      refine (Hm.ker _ _).mp ?_
      simp only [Hm.mul]
    · have gX : φ nx = 2 * φ H * φ S := by rw [ex, en1]; simp only [Hm.mod, Hm.mul, Hm.lit]; grind
      rw [gX, gZ, gH, gB, gW, gS]
      exact r_odbl_x _ _ _ _ _ _ fx fy d1
    · have gY : φ ny = φ W * (4 * φ B - φ H) - 8 * φ Y * φ Y * (φ S * φ S) := by rw [ey, em3, em2, em1, em6, em5, em4, eS2]; simp only [Hm.mod, Hm.mul, Hm.sub, Hm.lit]; grind
      rw [gY, gZ, gH, gB, gW, gS]
      exact r_odbl_y _ _ _ _ _ _ _ fx fy d1 d2
/-- the tests of the homogeneous addition -/
theorem oadd_sameV (C : Crv P N px py) {j k X1 Y1 Z1 X2 Y2 Z2 V1 V2 : Int} (h1 : PRep P N px py j X1 Y1 Z1) (h2 : PRep P N px py k X2 Y2 Z2) (z1 : Z1 ≠ 0) (z2 : Z2 ≠ 0)
    (eV1 : V1 = (X2 * Z1) % P) (eV2 : V2 = (X1 * Z2) % P) : V1 = V2 ↔ px j = px k := by
  obtain ⟨jn, _, hx1, hy1⟩ := h1.znz C z1
  obtain ⟨kn, _, hx2, hy2⟩ := h2.znz C z2
  obtain ⟨_, _, hz1, _⟩ := h1
  obtain ⟨_, _, hz2, _⟩ := h2
  have nn := C.prm.mulnz (C.nz hz1 z1) (C.nz hz2 z2)
  have b1 := C.bnd j
  have b2 := C.bnd k
  obtain ⟨R, _, φ, H⟩ := Hom.exists C.prm.pos
  have f1 := (H.ker _ _).mpr hx1
  have f2 := (H.ker _ _).mpr hx2
  simp only [H.mul] at f1 f2
  have g1 : φ V1 = φ (px k) * (φ Z1 * φ Z2) := by rw [eV1]; simp only [H.mod, H.mul]; rw [f2]; grind
  have g2 : φ V2 = φ (px j) * (φ Z1 * φ Z2) := by rw [eV2]; simp only [H.mod, H.mul]; rw [f1]; grind
  constructor
  · intro e
    rw [e, g2] at g1
    refine eq_of_mod ⟨b1.1, b1.2.1⟩ ⟨b2.1, b2.2.1⟩ (C.cancel nn ?_)
    refine (H.ker _ _).mp ?_
    simp only [H.mul]
    exact g1
  · intro e
    rw [← e, ← g2] at g1
    have := (H.ker _ _).mp g1
    refine eq_of_mod ?_ ?_ this
    · rw [eV1]; exact C.emod_b _
    · rw [eV2]; exact C.emod_b _
theorem oadd_sameU (C : Crv P N px py) {j k X1 Y1 Z1 X2 Y2 Z2 U1 U2 : Int} (h1 : PRep P N px py j X1 Y1 Z1) (h2 : PRep P N px py k X2 Y2 Z2) (z1 : Z1 ≠ 0) (z2 : Z2 ≠ 0)
    (eU1 : U1 = (Y2 * Z1) % P) (eU2 : U2 = (Y1 * Z2) % P) : U1 = U2 ↔ py j = py k := by
  obtain ⟨jn, _, hx1, hy1⟩ := h1.znz C z1
  obtain ⟨kn, _, hx2, hy2⟩ := h2.znz C z2
  obtain ⟨_, _, hz1, _⟩ := h1
  obtain ⟨_, _, hz2, _⟩ := h2
  have nn := C.prm.mulnz (C.nz hz1 z1) (C.nz hz2 z2)
  have b1 := C.bnd j
  have b2 := C.bnd k
  obtain ⟨R, _, φ, H⟩ := Hom.exists C.prm.pos
  have f1 := (H.ker _ _).mpr hy1
  have f2 := (H.ker _ _).mpr hy2
  simp only [H.mul] at f1 f2
  have g1 : φ U1 = φ (py k) * (φ Z1 * φ Z2) := by rw [eU1]; simp only [H.mod, H.mul]; rw [f2]; grind
  have g2 : φ U2 = φ (py j) * (φ Z1 * φ Z2) := by rw [eU2]; simp only [H.mod, H.mul]; rw [f1]; grind
  constructor
  · intro e
    rw [e, g2] at g1
    refine eq_of_mod ⟨b1.2.2.1, b1.2.2.2⟩ ⟨b2.2.2.1, b2.2.2.2⟩ (C.cancel nn ?_)
    refine (H.ker _ _).mp ?_
    simp only [H.mul]
    exact g1
  · intro e
    rw [← e, ← g2] at g1
    have := (H.ker _ _).mp g1
    refine eq_of_mod ?_ ?_ this
    · rw [eU1]; exact C.emod_b _
    · rw [eU2]; exact C.emod_b _
theorem oadd_inf (C : Crv P N px py) {j k X1 Y1 Z1 X2 Y2 Z2 U1 U2 V1 V2 A B : Int} (h1 : PRep P N px py j X1 Y1 Z1) (h2 : PRep P N px py k X2 Y2 Z2) (z1 : Z1 ≠ 0) (z2 : Z2 ≠ 0)
    (eV1 : V1 = (X2 * Z1) % P) (eV2 : V2 = (X1 * Z2) % P) (eU1 : U1 = (Y2 * Z1) % P) (eU2 : U2 = (Y1 * Z2) % P) (hV : V1 = V2) (hU : U1 ≠ U2) (hA : 0 ≤ A ∧ A < P) (hB : 0 ≤ B ∧ B < P) : PRep P N px py (j + k) A B 0 := by
  have a := (oadd_sameV C h1 h2 z1 z2 eV1 eV2).mp hV
  have b := fun e => hU ((oadd_sameU C h1 h2 z1 z2 eU1 eU2).mpr e)
  rcases C.same j k (h1.znz C z1).1 (h2.znz C z2).1 a with e | e
  · exact absurd (C.per _ _ e).2 b
  · exact PRep.ofInf C e.1 hA hB
theorem oadd_dbl (C : Crv P N px py) {j k X1 Y1 Z1 X2 Y2 Z2 U1 U2 V1 V2 A B D : Int} (h1 : PRep P N px py j X1 Y1 Z1) (h2 : PRep P N px py k X2 Y2 Z2) (z1 : Z1 ≠ 0) (z2 : Z2 ≠ 0)
    (eV1 : V1 = (X2 * Z1) % P) (eV2 : V2 = (X1 * Z2) % P) (eU1 : U1 = (Y2 * Z1) % P) (eU2 : U2 = (Y1 * Z2) % P) (hV : V1 = V2) (hU : U1 = U2) (h : PRep P N px py (2 * j) A B D) : PRep P N px py (j + k) A B D := by
  have a := (oadd_sameV C h1 h2 z1 z2 eV1 eV2).mp hV
  have b := (oadd_sameU C h1 h2 z1 z2 eU1 eU2).mp hU
  rcases C.same j k (h1.znz C z1).1 (h2.znz C z2).1 a with e | e
  · refine h.idx C ?_
    rw [show 2 * j = j + j from by omega, Int.add_emod j k, ← e, ← Int.add_emod]
  · exact absurd b e.2
theorem oadd_rep (C : Crv P N px py) {j k X1 Y1 Z1 X2 Y2 Z2 U1 U2 V1 V2 nx ny nz V A q2 q3 U q1 VVV W VVV2 a3 a4 a2 a1 VV : Int} (h1 : PRep P N px py j X1 Y1 Z1) (h2 : PRep P N px py k X2 Y2 Z2) (z1 : Z1 ≠ 0) (z2 : Z2 ≠ 0)
    (ex : nx = (V * A) % P) (ey : ny = (q2 - q3) % P) (eq2 : q2 = (U * q1) % P) (eq1 : q1 = (VVV2 - A) % P) (eq3 : q3 = (VVV * U2) % P) (ez : nz = (VVV * W) % P)
    (eA : A = (a3 - a4) % P) (ea3 : a3 = (a2 - VVV) % P) (ea2 : a2 = (a1 * W) % P) (ea1 : a1 = (U * U) % P) (ea4 : a4 = (VVV2 * 2) % P) (eVVV2 : VVV2 = (VV * V2) % P) (eVVV : VVV = (V * VV) % P) (eVV : VV = (V * V) % P) (eW : W = (Z1 * Z2) % P)
    (eV : V = (V1 - V2) % P) (eU : U = (U1 - U2) % P) (eV1 : V1 = (X2 * Z1) % P) (eV2 : V2 = (X1 * Z2) % P) (eU1 : U1 = (Y2 * Z1) % P) (eU2 : U2 = (Y1 * Z2) % P) (hV : V1 ≠ V2) : PRep P N px py (j + k) nx ny nz := by
  have hne := fun e => hV ((oadd_sameV C h1 h2 z1 z2 eV1 eV2).mpr e)
  obtain ⟨jn, _, hx1, hy1⟩ := h1.znz C z1
  obtain ⟨kn, _, hx2, hy2⟩ := h2.znz C z2
  obtain ⟨_, _, hz1, _⟩ := h1
  obtain ⟨_, _, hz2, _⟩ := h2
  have n1 := C.nz hz1 z1
  have n2 := C.nz hz2 z2
  have bV1 : 0 ≤ V1 ∧ V1 < P := by rw [eV1]; exact C.emod_b _
  have bV2 : 0 ≤ V2 ∧ V2 < P := by rw [eV2]; exact C.emod_b _
  have nV : V % P ≠ 0 := by
    rw [eV, Int.emod_emod]
    intro e
    exact hV (eq_of_mod bV1 bV2 (Int.emod_eq_emod_iff_emod_sub_eq_zero.mpr e))
  refine ⟨by rw [ex]; exact C.emod_b _, by rw [ey]; exact C.emod_b _, by rw [ez]; exact C.emod_b _, .inr ⟨C.opp j k jn kn hne, ?_, ?_, ?_⟩⟩
  · rw [ez]
    refine C.prm.mulnz ?_ ?_
    · rw [eVVV, Int.emod_emod]; refine C.prm.mulnz nV ?_
      rw [eVV, Int.emod_emod]; exact C.prm.mulnz nV nV
    · rw [eW, Int.emod_emod]; exact C.prm.mulnz n1 n2
  all_goals obtain ⟨R, _, φ, H⟩ := Hom.exists C.prm.pos
  all_goals
    have fx1 := (H.ker _ _).mpr hx1
    have fy1 := (H.ker _ _).mpr hy1
    have fx2 := (H.ker _ _).mpr hx2
    have fy2 := (H.ker _ _).mpr hy2
    have d1 := (H.ker _ _).mpr (C.addx j k jn kn hne)
    have d2 := (H.ker _ _).mpr (C.addy j k jn kn hne)
    simp only [H.mul, H.add, H.sub] at fx1 fy1 fx2 fy2 d1 d2
    have gV2 : φ V2 = φ X1 * φ Z2 := by rw [eV2]; simp only [H.mod, H.mul]
    have gU2 : φ U2 = φ Y1 * φ Z2 := by rw [eU2]; simp only [H.mod, H.mul]
    have gV : φ V = φ X2 * φ Z1 - φ X1 * φ Z2 := by rw [eV, eV1, eV2]; simp only [H.mod, H.mul, H.sub]
    have gU : φ U = φ Y2 * φ Z1 - φ Y1 * φ Z2 := by rw [eU, eU1, eU2]; simp only [H.mod, H.mul, H.sub]
    have gW : φ W = φ Z1 * φ Z2 := by rw [eW]; simp only [H.mod, H.mul]
    have gVV : φ VV = φ V * φ V := by rw [eVV]; simp only [H.mod, H.mul]
    have gVVV : φ VVV = φ V * (φ V * φ V) := by rw [eVVV]; simp only [H.mod, H.mul]; rw [gVV]
    have gVVV2 : φ VVV2 = φ V * φ V * (φ X1 * φ Z2) := by rw [eVVV2]; simp only [H.mod, H.mul]; rw [gVV, gV2]
    have gA : φ A = φ U * φ U * φ W - φ V * (φ V * φ V) - 2 * (φ V * φ V * (φ X1 * φ Z2)) := by rw [eA, ea3, ea2, ea1, ea4]; simp only [H.mod, H.mul, H.sub, H.lit]; rw [gVVV, gVVV2]; grind
    have gZ : φ nz = φ V * (φ V * φ V) * φ W := by rw [ez]; simp only [H.mod, H.mul]; rw [gVVV]
    refine (H.ker _ _).mp ?_
    simp only [H.mul]
  · have gX : φ nx = φ V * φ A := by rw [ex]; simp only [H.mod, H.mul]
    rw [gX, gZ]
    exact r_oadd_x _ _ _ _ _ _ _ _ _ _ _ _ _ _ _ fx1 fy1 fx2 fy2 gU gV gW gA d1
  · have gY : φ ny = φ U * (φ V * φ V * (φ X1 * φ Z2) - φ A) - φ V * (φ V * φ V) * (φ Y1 * φ Z2) := by rw [ey, eq2, eq1, eq3]; simp only [H.mod, H.mul, H.sub]; rw [gVVV2, gVVV, gU2]
    rw [gY, gZ]
    exact r_oadd_y _ _ _ _ _ _ _ _ _ _ _ _ _ _ _ _ fx1 fy1 fx2 fy2 gU gV gW gA d1 d2
theorem onorm (C : Crv P N px py) {k X Y Z i i' a b : Int} (h : PRep P N px py k X Y Z) (hz : Z ≠ 0) (ea : a = (X * i) % P) (eb : b = (Y * i') % P) (hi : IsInv P Z i) (hi' : IsInv P Z i') : a = px k ∧ b = py k := by
  obtain ⟨kn, _, hx, hy⟩ := h.znz C hz
  have e := hi.2.2.2 hz
  have e' := hi'.2.2.2 hz
  have bb := C.bnd k
  obtain ⟨R, _, φ, H⟩ := Hom.exists C.prm.pos
  have f := (H.ker (Z * i) 1).mpr (by rw [e]; exact (mod_id (by omega) C.prm.1).symm)
  have f' := (H.ker (Z * i') 1).mpr (by rw [e']; exact (mod_id (by omega) C.prm.1).symm)
  have fx := (H.ker _ _).mpr hx
  have fy := (H.ker _ _).mpr hy
  simp only [H.mul, H.one] at f f' fx fy
  constructor
  · refine eq_of_mod (by rw [ea]; exact C.emod_b _) ⟨bb.1, bb.2.1⟩ ((H.ker _ _).mp ?_)
    rw [ea]; simp only [H.mod, H.mul]; rw [fx]
    grind
  · refine eq_of_mod (by rw [eb]; exact C.emod_b _) ⟨bb.2.2.1, bb.2.2.2⟩ ((H.ker _ _).mp ?_)
    rw [eb]; simp only [H.mod, H.mul]; rw [fy]
    grind
theorem onormE (C : Crv P N px py) {k X Y Z a b : Int} (h : PRep P N px py k X Y Z) (hz : Z ≠ 0) (ea : ∃ i, IsInv P Z i ∧ a = (X * i) % P) (eb : ∃ i, IsInv P Z i ∧ b = (Y * i) % P) : a = px k ∧ b = py k := by
  obtain ⟨i, hi, ea⟩ := ea
  obtain ⟨i', hi', eb⟩ := eb
  exact onorm C h hz ea eb hi hi'
end
end
section
open Lean.Grind
section
variable {P N : Int} {px py : Int → Int}
theorem adbl (C : Crv P N px py) {k nx ny b1 b2 c4 c2 c3 c1 m a2 a3 a1 : Int} (kn : k % N ≠ 0)
    (ex : nx = (b1 - b2) % P) (eb1 : b1 = (m * m) % P) (eb2 : b2 = (px k * 2) % P) (ey : ny = (c4 - py k) % P) (ec4 : c4 = (c2 + c3) % P) (ec2 : c2 = (c1 * nx) % P) (ec1 : c1 = (-m) % P) (ec3 : c3 = (m * px k) % P)
    (em : ∃ i, IsInv P a3 i ∧ m = (a2 * i) % P) (ea3 : a3 = (py k * 2) % P) (ea2 : a2 = (a1 * 3) % P) (ea1 : a1 = (px k * px k) % P) : nx = px (2 * k) ∧ ny = py (2 * k) := by
  obtain ⟨i, hi, em⟩ := em
  have n3 : a3 ≠ 0 := by
    have := C.prm.mulnz (C.ymod kn) (C.small (c := 2) (by omega) (by omega))
    rw [← ea3] at this; exact this
  have e := hi.2.2.2 n3
  have bb := C.bnd (2 * k)
  obtain ⟨R, _, φ, H⟩ := Hom.exists C.prm.pos
  have f := (H.ker (a3 * i) 1).mpr (by rw [e]; exact (mod_id (by omega) C.prm.1).symm)
  have d1 := (H.ker _ _).mpr (C.dblx k kn)
  have d2 := (H.ker _ _).mpr (C.dbly k kn)
  have g3 : φ a3 = 2 * φ (py k) := by rw [ea3]; simp only [H.mod, H.mul, H.lit]; grind
  have gm : φ m = 3 * φ (px k) * φ (px k) * φ i := by rw [em, ea2, ea1]; simp only [H.mod, H.mul, H.lit]; grind
  simp only [H.mul, H.add, H.sub, H.lit, H.one] at f d1 d2
  rw [g3] at f
  have gx : φ nx = φ (px (2 * k)) := by
    rw [ex, eb1, eb2]; simp only [H.mod, H.mul, H.sub, H.lit]; rw [gm]; clear d2; grind
  have gy : φ ny = φ (py (2 * k)) := by
    rw [ey, ec4, ec2, ec1, ec3]; simp only [H.mod, H.mul, H.sub, H.add, H.neg]; rw [gx, gm]; clear d1; grind
  exact ⟨eq_of_mod (by rw [ex]; exact C.emod_b _) ⟨bb.1, bb.2.1⟩ ((H.ker _ _).mp gx), eq_of_mod (by rw [ey]; exact C.emod_b _) ⟨bb.2.2.1, bb.2.2.2⟩ ((H.ker _ _).mp gy)⟩
theorem aadd0 (C : Crv P N px py) {j k nx ny b1 b2 c4 c2 c3 c1 m d1 d2 : Int} (jn : j % N ≠ 0) (kn : k % N ≠ 0) (hne : px j ≠ px k)
    (ex : nx = (b2 - px k) % P) (eb2 : b2 = (b1 - px j) % P) (eb1 : b1 = (m * m) % P) (em : ∃ i, IsInv P d2 i ∧ m = (d1 * i) % P) (ed2 : d2 = (px k - px j) % P) (ed1 : d1 = (py k - py j) % P) :
    ∃ (R : Type) (_ : CommRing R) (φ : Int → R) (_ : Hom P φ), φ nx = φ (px (j + k)) ∧ φ m * (φ (px k) - φ (px j)) = φ (py k) - φ (py j) ∧ φ (py (j + k)) + φ (py j) = φ m * (φ (px j) - φ (px (j + k))) ∧ nx = px (j + k) := by
  obtain ⟨i, hi, em⟩ := em
  have b1' := C.bnd j
  have b2' := C.bnd k
  have nd : d2 ≠ 0 := by
    intro e
    rw [e] at ed2
    exact hne (eq_of_mod ⟨b1'.1, b1'.2.1⟩ ⟨b2'.1, b2'.2.1⟩ (Int.emod_eq_emod_iff_emod_sub_eq_zero.mpr ed2.symm).symm)
  have e := hi.2.2.2 nd
  have bb := C.bnd (j + k)
  obtain ⟨R, inst, φ, H⟩ := Hom.exists C.prm.pos
  have f := (H.ker (d2 * i) 1).mpr (by rw [e]; exact (mod_id (by omega) C.prm.1).symm)
  have e1 := (H.ker _ _).mpr (C.addx j k jn kn hne)
  have e2 := (H.ker _ _).mpr (C.addy j k jn kn hne)
  have g2 : φ d2 = φ (px k) - φ (px j) := by rw [ed2]; simp only [H.mod, H.sub]
  have gm : φ m = (φ (py k) - φ (py j)) * φ i := by rw [em, ed1]; simp only [H.mod, H.mul, H.sub]
  simp only [H.mul, H.add, H.sub, H.one] at f e1 e2
  rw [g2] at f
  have gx : φ nx = φ (px (j + k)) := by
    rw [ex, eb2, eb1]; simp only [H.mod, H.mul, H.sub]; rw [gm]; clear e2; grind
  refine ⟨R, inst, φ, H, gx, ?_, ?_, eq_of_mod (by rw [ex]; exact C.emod_b _) ⟨bb.1, bb.2.1⟩ ((H.ker _ _).mp gx)⟩
  · rw [gm]; grind
  · rw [gm]; grind
theorem aadd (C : Crv P N px py) {j k nx ny b1 b2 c4 c2 c3 c1 m d1 d2 : Int} (jn : j % N ≠ 0) (kn : k % N ≠ 0) (hne' : px k ≠ px j)
    (ex : nx = (b2 - px k) % P) (eb2 : b2 = (b1 - px j) % P) (eb1 : b1 = (m * m) % P) (ey : ny = (c4 - py j) % P) (ec4 : c4 = (c2 + c3) % P) (ec2 : c2 = (c1 * nx) % P) (ec1 : c1 = (-m) % P) (ec3 : c3 = (m * px j) % P)
    (em : ∃ i, IsInv P d2 i ∧ m = (d1 * i) % P) (ed2 : d2 = (px k - px j) % P) (ed1 : d1 = (py k - py j) % P) : nx = px (j + k) ∧ ny = py (j + k) := by
  have hne := hne'.symm
  obtain ⟨R, _, φ, H, gx, _, gy, hx⟩ := aadd0 C jn kn hne ex eb2 eb1 em ed2 ed1 (ny := ny) (c4 := c4) (c2 := c2) (c3 := c3) (c1 := c1)
  have bb := C.bnd (j + k)
  refine ⟨hx, eq_of_mod (by rw [ey]; exact C.emod_b _) ⟨bb.2.2.1, bb.2.2.2⟩ ((H.ker _ _).mp ?_)⟩
  rw [ey, ec4, ec2, ec1, ec3]; simp only [H.mod, H.mul, H.sub, H.add, H.neg]; rw [gx]; grind
theorem aaddchk (C : Crv P N px py) {j k nx ny b1 b2 c4 c2 c3 c1 m d1 d2 e c4' c2' c3' c1' : Int} (jn : j % N ≠ 0) (kn : k % N ≠ 0) (hbad : ny ≠ e) (hne' : px k ≠ px j)
    (ey : ny = (c4 - py j) % P) (ec4 : c4 = (c2 + c3) % P) (ec2 : c2 = (c1 * nx) % P) (ec1 : c1 = (-m) % P) (ec3 : c3 = (m * px j) % P)
    (ee : e = (c4' - py k) % P) (ec4' : c4' = (c2' + c3') % P) (ec2' : c2' = (c1' * nx) % P) (ec1' : c1' = (-m) % P) (ec3' : c3' = (m * px k) % P)
    (em : ∃ i, IsInv P d2 i ∧ m = (d1 * i) % P) (ed2 : d2 = (px k - px j) % P) (ed1 : d1 = (py k - py j) % P) (ex : nx = (b2 - px k) % P) (eb2 : b2 = (b1 - px j) % P) (eb1 : b1 = (m * m) % P) : False := by
  have hne := hne'.symm
  apply hbad
  obtain ⟨R, _, φ, H, _, gm, _, _⟩ := aadd0 C jn kn hne ex eb2 eb1 em ed2 ed1 (ny := ny) (c4 := c4) (c2 := c2) (c3 := c3) (c1 := c1)
  refine eq_of_mod (by rw [ey]; exact C.emod_b _) (by rw [ee]; exact C.emod_b _) ((H.ker _ _).mp ?_)
  rw [ey, ec4, ec2, ec1, ec3, ee, ec4', ec2', ec1', ec3']; simp only [H.mod, H.mul, H.sub, H.add, H.neg]; grind
end
end
section
open Lean.Grind
noncomputable def dblOK (P : Nat) (a q : Nat × Nat) : Bool :=
  Nat.beq ((4 * a.2 * a.2 * (q.1 + 2 * a.1)) % P) ((9 * a.1 * a.1 * a.1 * a.1) % P) && Nat.beq ((2 * a.2 * (q.2 + a.2)) % P) ((3 * a.1 * a.1 * (a.1 + (P - q.1))) % P)
noncomputable def addOK (P : Nat) (a p q : Nat × Nat) : Bool :=
  Nat.beq (((q.1 + a.1 + p.1) * (p.1 + (P - a.1)) * (p.1 + (P - a.1))) % P) (((p.2 + (P - a.2)) * (p.2 + (P - a.2))) % P) && Nat.beq (((q.2 + a.2) * (p.1 + (P - a.1))) % P) (((p.2 + (P - a.2)) * (a.1 + (P - q.1))) % P)
noncomputable def good (P j k : Nat) (a p q : Nat × Nat) : Bool :=
  (Nat.beq a.2 0 || Nat.beq p.2 0) || (bif Nat.beq a.1 p.1 then (bif Nat.beq a.2 p.2 then Nat.beq j k && dblOK P a q else Nat.beq q.2 0) else (!(Nat.beq q.2 0) && addOK P a p q))
noncomputable def row (P j : Nat) (a : Nat × Nat) : Nat → List (Nat × Nat) → List (Nat × Nat) → Bool
  | _, [], _ => true
  | k, p :: ps, q :: qs => good P j k a p q && row P j a (k + 1) ps qs
  | _, _ :: _, [] => false
noncomputable def rows (P : Nat) (T : List (Nat × Nat)) : Nat → List (Nat × Nat) → List (Nat × Nat) → Bool
  | _, [], _ => true
  | j, a :: as, q :: qs => row P j a 0 T (q :: qs) && rows P T (j + 1) as qs
  | _, _ :: _, [] => false
noncomputable def tabOK (P : Nat) (T : List (Nat × Nat)) : Bool :=
  match T with
  | [] => false
  | h :: t => (Nat.beq h.1 0 && Nat.beq h.2 0) && t.all (fun a => !(Nat.beq a.2 0)) && (h :: t).all (fun a => Nat.blt a.1 P && Nat.blt a.2 P)
noncomputable def chk (P : Nat) (T : List (Nat × Nat)) : Bool := rows P T 0 T (T ++ T)
noncomputable def tb0 : List (Nat × Nat) := [(0, 0), (4, 16), (18, 1), (6, 16), (9, 3), (12, 1), (8, 1), (8, 18), (12, 18), (9, 16), (6, 3), (18, 18), (4, 3)]
noncomputable def tb1 : List (Nat × Nat) := [(0, 0), (1, 17), (14, 7), (11, 17), (7, 2), (3, 7), (2, 7), (2, 12), (3, 12), (7, 17), (11, 2), (14, 12), (1, 2)]
noncomputable def tb2 : List (Nat × Nat) := [(0, 0), (1, 2), (16, 10), (22, 24), (24, 30), (26, 8), (5, 2), (25, 29), (30, 8), (9, 22), (4, 6), (14, 22), (18, 10), (6, 23), (28, 21), (11, 30), (7, 6), (20, 6), (17, 24), (27, 1), (8, 9), (23, 7), (23, 24), (8, 22), (27, 30), (17, 7), (20, 25), (7, 25), (11, 1), (28, 10), (6, 8), (18, 21), (14, 9), (4, 25), (9, 9), (30, 23), (25, 2), (5, 29), (26, 23), (24, 1), (22, 7), (16, 21), (1, 29)]
noncomputable def tb3 : List (Nat × Nat) := [(0, 0), (2, 31), (7, 36), (35, 22), (21, 25), (12, 31), (29, 12), (25, 25), (32, 3), (20, 3), (42, 36), (40, 18), (37, 7), (13, 22), (34, 3), (38, 22), (38, 21), (34, 40), (13, 21), (37, 36), (40, 25), (42, 7), (20, 40), (32, 40), (25, 18), (29, 31), (12, 12), (21, 18), (35, 21), (7, 7), (2, 12)]
noncomputable def tb4 : List (Nat × Nat) := [(0, 0), (2, 22), (52, 7), (62, 63), (25, 17), (46, 40), (11, 20), (16, 63), (21, 42), (13, 44), (56, 4), (24, 30), (14, 65), (55, 17), (5, 20), (53, 12), (26, 30), (54, 50), (66, 26), (38, 26), (51, 47), (12, 44), (23, 39), (58, 22), (7, 45), (47, 39), (6, 42), (17, 37), (49, 65), (63, 12), (42, 23), (48, 7), (64, 39), (34, 60), (40, 25), (18, 12), (61, 40), (30, 41), (27, 40), (4, 65), (4, 2), (27, 27), (30, 26), (61, 27), (18, 55), (40, 42), (34, 7), (64, 28), (48, 60), (42, 44), (63, 55), (49, 2), (17, 30), (6, 25), (47, 28), (7, 22), (58, 45), (23, 28), (12, 23), (51, 20), (38, 41), (66, 41), (54, 17), (26, 37), (53, 55), (5, 47), (55, 50), (14, 2), (24, 37), (56, 63), (13, 23), (21, 25), (16, 4), (11, 47), (46, 27), (25, 50), (62, 4), (52, 60), (2, 45)]
noncomputable def tb5 : List (Nat × Nat) := [(0, 0), (2, 55), (13, 51), (25, 63), (50, 39), (30, 66), (39, 19), (6, 34), (7, 55), (58, 12), (40, 34), (17, 15), (3, 37), (51, 23), (61, 56), (26, 15), (12, 51), (21, 33), (42, 16), (59, 19), (27, 56), (35, 8), (22, 8), (44, 37), (54, 63), (36, 48), (24, 52), (55, 4), (66, 66), (5, 23), (10, 8), (11, 23), (41, 39), (38, 1), (46, 11), (20, 30), (43, 28), (43, 39), (20, 37), (46, 56), (38, 66), (41, 28), (11, 44), (10, 59), (5, 44), (66, 1), (55, 63), (24, 15), (36, 19), (54, 4), (44, 30), (22, 59), (35, 59), (27, 11), (59, 48), (42, 51), (21, 34), (12, 16), (26, 52), (61, 11), (51, 44), (3, 30), (17, 52), (40, 33), (58, 55), (7, 12), (6, 33), (39, 48), (30, 1), (50, 28), (25, 4), (13, 16), (2, 12)]
noncomputable def tb6 : List (Nat × Nat) := [(0, 0), (1, 18), (60, 10), (15, 8), (49, 5), (42, 54), (59, 12), (61, 10), (43, 35), (37, 69), (26, 19), (18, 54), (12, 47), (39, 47), (9, 5), (63, 63), (19, 25), (75, 41), (21, 74), (68, 63), (29, 8), (6, 12), (45, 19), (35, 71), (66, 41), (28, 32), (17, 41), (14, 67), (74, 35), (23, 18), (55, 61), (41, 35), (8, 60), (27, 63), (27, 16), (8, 19), (41, 44), (55, 18), (23, 61), (74, 44), (14, 12), (17, 38), (28, 47), (66, 38), (35, 8), (45, 60), (6, 67), (29, 71), (68, 16), (21, 5), (75, 38), (19, 54), (63, 16), (9, 74), (39, 32), (12, 32), (18, 25), (26, 60), (37, 10), (43, 44), (61, 69), (59, 67), (42, 25), (49, 74), (15, 71), (60, 69), (1, 61)]
noncomputable def tb7 : List (Nat × Nat) := [(0, 0), (1, 2), (43, 6), (66, 52), (57, 40), (53, 53), (51, 31), (28, 25), (75, 52), (24, 70), (72, 56), (17, 27), (44, 74), (38, 72), (34, 53), (49, 10), (40, 31), (5, 72), (4, 64), (71, 26), (58, 71), (30, 71), (67, 48), (31, 13), (56, 70), (41, 6), (22, 67), (74, 73), (76, 56), (46, 13), (36, 7), (13, 64), (50, 74), (78, 9), (32, 67), (55, 2), (23, 77), (25, 67), (10, 23), (12, 25), (9, 10), (70, 8), (21, 10), (54, 40), (64, 5), (2, 13), (39, 54), (47, 39), (62, 64), (62, 15), (47, 40), (39, 25), (2, 66), (64, 74), (54, 39), (21, 69), (70, 71), (9, 69), (12, 54), (10, 56), (25, 12), (23, 2), (55, 77), (32, 12), (78, 70), (50, 5), (13, 15), (36, 72), (46, 66), (76, 23), (74, 6), (22, 12), (41, 73), (56, 9), (31, 66), (67, 31), (30, 8), (58, 8), (71, 53), (4, 15), (5, 7), (40, 48), (49, 69), (34, 26), (38, 7), (44, 5), (17, 52), (72, 23), (24, 9), (75, 27), (28, 54), (51, 48), (53, 26), (57, 39), (66, 27), (43, 73), (1, 77)]
noncomputable def tb8 : List (Nat × Nat) := [(0, 0), (1, 32), (34, 24), (72, 16), (80, 18), (71, 64), (86, 38), (110, 38), (2, 53), (57, 62), (85, 50), (8, 30), (17, 27), (58, 89), (69, 27), (99, 91), (100, 3), (70, 19), (28, 78), (107, 32), (19, 95), (24, 78), (106, 12), (88, 39), (47, 84), (87, 53), (41, 100), (79, 64), (4, 84), (112, 76), (93, 94), (52, 91), (104, 63), (38, 74), (25, 30), (116, 94), (12, 46), (39, 12), (82, 24), (75, 49), (11, 103), (60, 19), (101, 46), (46, 76), (3, 62), (94, 97), (103, 36), (123, 18), (21, 39), (14, 46), (32, 3), (51, 109), (76, 43), (67, 65), (91, 50), (96, 76), (18, 39), (84, 16), (124, 108), (109, 115), (98, 111), (122, 3), (45, 94), (78, 50), (78, 77), (45, 33), (122, 124), (98, 16), (109, 12), (124, 19), (84, 111), (18, 88), (96, 51), (91, 77), (67, 62), (76, 84), (51, 18), (32, 124), (14, 81), (21, 88), (123, 109), (103, 91), (94, 30), (3, 65), (46, 51), (101, 81), (60, 108), (11, 24), (75, 78), (82, 103), (39, 115), (12, 81), (116, 33), (25, 97), (38, 53), (104, 64), (52, 36), (93, 33), (112, 51), (4, 43), (79, 63), (41, 27), (87, 74), (47, 43), (88, 88), (106, 115), (24, 49), (19, 32), (107, 95), (28, 49), (70, 108), (100, 124), (99, 36), (69, 100), (58, 38), (17, 100), (8, 97), (85, 77), (57, 65), (2, 74), (110, 89), (86, 89), (71, 63), (80, 109), (72, 111), (34, 103), (1, 95)]
noncomputable def tb9 : List (Nat × Nat) := [(0, 0), (1, 2), (70, 105), (53, 121), (61, 17), (73, 107), (43, 32), (55, 32), (18, 45), (81, 87), (126, 16), (49, 80), (34, 119), (29, 95), (11, 119), (116, 113), (40, 73), (99, 28), (87, 97), (107, 2), (19, 125), (2, 97), (5, 126), (66, 15), (121, 101), (21, 45), (82, 8), (117, 107), (13, 101), (62, 98), (106, 93), (93, 113), (64, 20), (88, 82), (42, 80), (109, 93), (3, 41), (27, 126), (124, 105), (38, 30), (60, 22), (103, 28), (57, 41), (30, 98), (31, 87), (36, 47), (45, 14), (16, 17), (111, 15), (67, 41), (89, 73), (50, 110), (120, 26), (15, 40), (108, 16), (35, 98), (77, 15), (83, 121), (52, 99), (95, 1), (118, 6), (125, 73), (39, 93), (20, 16), (20, 111), (39, 34), (125, 54), (118, 121), (95, 126), (52, 28), (83, 6), (77, 112), (35, 29), (108, 111), (15, 87), (120, 101), (50, 17), (89, 54), (67, 86), (111, 112), (16, 110), (45, 113), (36, 80), (31, 40), (30, 29), (57, 86), (103, 99), (60, 105), (38, 97), (124, 22), (27, 1), (3, 86), (109, 34), (42, 47), (88, 45), (64, 107), (93, 14), (106, 34), (62, 29), (13, 26), (117, 20), (82, 119), (21, 82), (121, 26), (66, 112), (5, 1), (2, 30), (19, 2), (107, 125), (87, 30), (99, 99), (40, 54), (116, 14), (11, 8), (29, 32), (34, 8), (49, 47), (126, 111), (81, 40), (18, 82), (55, 95), (43, 95), (73, 20), (61, 110), (53, 6), (70, 22), (1, 125)]
theorem ck0 : chk 19 tb0 = true := by decide +kernel
theorem ck1 : chk 19 tb1 = true := by decide +kernel
theorem ck2 : chk 31 tb2 = true := by decide +kernel
theorem ck3 : chk 43 tb3 = true := by decide +kernel
theorem ck4 : chk 67 tb4 = true := by decide +kernel
theorem ck5 : chk 67 tb5 = true := by decide +kernel
theorem ck6 : chk 79 tb6 = true := by decide +kernel
theorem ck7 : chk 79 tb7 = true := by decide +kernel
theorem ck8 : chk 127 tb8 = true := by decide +kernel
theorem ck9 : chk 127 tb9 = true := by decide +kernel
theorem tk0 : tabOK 19 tb0 = true := by decide +kernel
end
section
open Lean.Grind
theorem row_get {P j : Nat} {a : Nat × Nat} : ∀ {ps qs : List (Nat × Nat)} {k : Nat}, row P j a k ps qs = true → ∀ i p q, ps[i]? = some p → qs[i]? = some q → good P j (k + i) a p q = true
  | [], _, _, _, i, p, q, hp, _ => by simp at hp
  | p' :: ps, [], k, h, _, _, _, _, hq => by simp at hq
  | p' :: ps, q' :: qs, k, h, i, p, q, hp, hq => by
    unfold row at h
    obtain ⟨h1, h2⟩ := Bool.and_eq_true_iff.mp h
    cases i with
    | zero =>
      simp at hp hq
      subst hp hq
      exact h1
    | succ i =>
      simp at hp hq
      have := row_get h2 i p q hp hq
      rw [show k + (i + 1) = k + 1 + i from by omega]
      exact this
theorem rows_get {P : Nat} {T : List (Nat × Nat)} : ∀ {as qs : List (Nat × Nat)} {j : Nat}, rows P T j as qs = true → ∀ i a, as[i]? = some a → row P (j + i) a 0 T (qs.drop i) = true
  | [], _, _, _, i, a, ha => by simp at ha
  | a' :: as, [], _, h, _, _, _ => by unfold rows at h; cases h
  | a' :: as, q' :: qs, j, h, i, a, ha => by
    unfold rows at h
    obtain ⟨h1, h2⟩ := Bool.and_eq_true_iff.mp h
    cases i with
    | zero =>
      simp at ha
      subst ha
      exact h1
    | succ i =>
      simp at ha
      have := rows_get h2 i a ha
      rw [show j + (i + 1) = j + 1 + i from by omega, List.drop_succ_cons]
      exact this
theorem chk_get {P : Nat} {T : List (Nat × Nat)} (h : chk P T = true) {i k : Nat} {a p q : Nat × Nat} (ha : T[i]? = some a) (hp : T[k]? = some p) (hq : T[(i + k) % T.length]? = some q) : good P i k a p q = true := by
  have h1 := rows_get h i a ha
  rw [Nat.zero_add] at h1
  have hi : i < T.length := (List.getElem?_eq_some_iff.mp ha).1
  have hk : k < T.length := (List.getElem?_eq_some_iff.mp hp).1
  have h2 := row_get h1 k p q hp (by
    rw [List.getElem?_drop]
    by_cases e : i + k < T.length
    · rw [List.getElem?_append_left e]
      rw [Nat.mod_eq_of_lt e] at hq
      exact hq
    · rw [List.getElem?_append_right (by omega)]
      have : (i + k) % T.length = i + k - T.length := by
        rw [Nat.mod_eq_sub_mod (by omega), Nat.mod_eq_of_lt (by omega)]
      rw [this] at hq
      exact hq)
  rw [Nat.zero_add] at h2
  exact h2
noncomputable def at' (T : List (Nat × Nat)) (k : Int) : Nat × Nat := T.getD (k % (T.length : Int)).toNat (0, 0)
noncomputable def pxT (T : List (Nat × Nat)) (k : Int) : Int := ((at' T k).1 : Int)
noncomputable def pyT (T : List (Nat × Nat)) (k : Int) : Int := ((at' T k).2 : Int)
section
variable {P : Nat} {T : List (Nat × Nat)}
theorem at_some (hT : 0 < T.length) (k : Int) : T[(k % (T.length : Int)).toNat]? = some (at' T k) := by
  have h0 := Int.emod_nonneg k (show (T.length : Int) ≠ 0 by omega)
  have h1 := Int.emod_lt_of_pos k (show 0 < (T.length : Int) by omega)
  have h2 : (k % (T.length : Int)).toNat < T.length := by omega
  unfold at'
  rw [List.getD_eq_getElem?_getD, List.getElem?_eq_getElem h2]
  rfl
theorem toNat_mod (a b L : Nat) : (((a : Int) + (b : Int)) % (L : Int)).toNat = (a + b) % L := by
  rw [← Int.natCast_add, ← Int.natCast_emod]
  exact Int.toNat_natCast _
theorem at_sum (hT : 0 < T.length) (j k : Int) : ((j + k) % (T.length : Int)).toNat = ((j % (T.length : Int)).toNat + (k % (T.length : Int)).toNat) % T.length := by
  have h0 := Int.emod_nonneg j (show (T.length : Int) ≠ 0 by omega)
  have h1 := Int.emod_nonneg k (show (T.length : Int) ≠ 0 by omega)
  have h2 := Int.emod_nonneg (j + k) (show (T.length : Int) ≠ 0 by omega)
  have e : (j + k) % (T.length : Int) = (j % (T.length : Int) + k % (T.length : Int)) % (T.length : Int) := Int.add_emod _ _ _
  have e1 : j % (T.length : Int) = (((j % (T.length : Int)).toNat : Nat) : Int) := by omega
  have e2 : k % (T.length : Int) = (((k % (T.length : Int)).toNat : Nat) : Int) := by omega
  have := toNat_mod (j % (T.length : Int)).toNat (k % (T.length : Int)).toNat T.length
  rw [← e1, ← e2, ← e] at this
  exact this
theorem good_at (h : chk P T = true) (hT : 0 < T.length) (j k : Int) : good P (j % (T.length : Int)).toNat (k % (T.length : Int)).toNat (at' T j) (at' T k) (at' T (j + k)) = true :=
  chk_get h (at_some hT j) (at_some hT k) (by rw [← at_sum hT j k]; exact at_some hT (j + k))
theorem tab_bnd (h : tabOK P T = true) (k : Int) : (at' T k).1 < P ∧ (at' T k).2 < P := by
  have hT : 0 < T.length := by
    cases T with
    | nil => cases h
    | cons a t => simp
  have hm := List.mem_of_getElem? (at_some hT k)
  unfold tabOK at h
  split at h
  · cases h
  · obtain ⟨_, h3⟩ := Bool.and_eq_true_iff.mp h
    have := List.all_eq_true.mp h3 _ hm
    obtain ⟨a, b⟩ := Bool.and_eq_true_iff.mp this
    exact ⟨by simpa [Nat.blt_eq] using a, by simpa [Nat.blt_eq] using b⟩
theorem tab_zero (h : tabOK P T = true) (k : Int) (hk : k % (T.length : Int) = 0) : at' T k = (0, 0) := by
  unfold at'
  rw [hk]
  unfold tabOK at h
  split at h
  · cases h
  · rename_i a t
    obtain ⟨h3, _⟩ := Bool.and_eq_true_iff.mp h
    obtain ⟨h4, _⟩ := Bool.and_eq_true_iff.mp h3
    obtain ⟨h5, h6⟩ := Bool.and_eq_true_iff.mp h4
    have e1 := Nat.eq_of_beq_eq_true h5
    have e2 := Nat.eq_of_beq_eq_true h6
    show a = (0, 0)
    exact Prod.ext e1 e2
theorem tab_nz (h : tabOK P T = true) (k : Int) (hk : k % (T.length : Int) ≠ 0) : (at' T k).2 ≠ 0 := by
  have hT : 0 < T.length := by
    cases T with
    | nil => cases h
    | cons a t => simp
  have hs := at_some hT k
  have h0 := Int.emod_nonneg k (show (T.length : Int) ≠ 0 by omega)
  obtain ⟨i, hi⟩ : ∃ i, (k % (T.length : Int)).toNat = i + 1 := ⟨(k % (T.length : Int)).toNat - 1, by omega⟩
  rw [hi] at hs
  unfold tabOK at h
  split at h
  · cases h
  · rename_i a t
    obtain ⟨h3, _⟩ := Bool.and_eq_true_iff.mp h
    obtain ⟨_, h4⟩ := Bool.and_eq_true_iff.mp h3
    rw [List.getElem?_cons_succ] at hs
    have := List.all_eq_true.mp h4 _ (List.mem_of_getElem? hs)
    intro e
    rw [e] at this
    cases this
theorem crv_of (hc : chk P T = true) (ht : tabOK P T = true) (hprm : Prm P) (hbig : 8 < (P : Int)) (hodd : (P : Int) % 2 = 1) (hn7 : 7 ≤ (T.length : Int)) (hn127 : (T.length : Int) ≤ 127) (hnodd : (T.length : Int) % 2 = 1) :
    Crv P T.length (pxT T) (pyT T) := by
  have hT : 0 < T.length := by omega
  have bnd := tab_bnd ht
  have nz := tab_nz ht
  have zr := tab_zero ht
  have idx : ∀ j k : Int, (j % (T.length : Int)).toNat = (k % (T.length : Int)).toNat → j % (T.length : Int) = k % (T.length : Int) := by
    intro j k h
    have h0 := Int.emod_nonneg j (show (T.length : Int) ≠ 0 by omega)
    have h1 := Int.emod_nonneg k (show (T.length : Int) ≠ 0 by omega)
    omega
  have g := fun j k => good_at hc hT j k
  have nzk : ∀ k : Int, k % (T.length : Int) ≠ 0 → Nat.beq (at' T k).2 0 = false := fun k hk => by
    cases e : Nat.beq (at' T k).2 0 with
    | false => rfl
    | true => exact absurd (Nat.eq_of_beq_eq_true e) (nz k hk)
  have core : ∀ j k : Int, j % (T.length : Int) ≠ 0 → k % (T.length : Int) ≠ 0 →
      ((at' T j).1 = (at' T k).1 ∧ (at' T j).2 = (at' T k).2 ∧ j % (T.length : Int) = k % (T.length : Int) ∧ dblOK P (at' T j) (at' T (j + k)) = true) ∨
      ((at' T j).1 = (at' T k).1 ∧ (at' T j).2 ≠ (at' T k).2 ∧ (j + k) % (T.length : Int) = 0) ∨
      ((at' T j).1 ≠ (at' T k).1 ∧ (j + k) % (T.length : Int) ≠ 0 ∧ addOK P (at' T j) (at' T k) (at' T (j + k)) = true) := by
    intro j k hj hk
    have h := g j k
    unfold good at h
    rw [nzk j hj, nzk k hk, Bool.false_or, Bool.false_or] at h
    cases e1 : Nat.beq (at' T j).1 (at' T k).1 with
    | true =>
      have x1 := Nat.eq_of_beq_eq_true e1
      rw [e1, cond_true] at h
      cases e2 : Nat.beq (at' T j).2 (at' T k).2 with
      | true =>
        rw [e2, cond_true] at h
        obtain ⟨h1, h2⟩ := Bool.and_eq_true_iff.mp h
        exact .inl ⟨x1, Nat.eq_of_beq_eq_true e2, idx j k (Nat.eq_of_beq_eq_true h1), h2⟩
      | false =>
        rw [e2, cond_false] at h
        refine .inr (.inl ⟨x1, fun q => ?_, ?_⟩)
        · rw [q, Nat.beq_refl] at e2; cases e2
        · by_cases z : (j + k) % (T.length : Int) = 0
          · exact z
          · exact absurd (Nat.eq_of_beq_eq_true h) (nz _ z)
    | false =>
      rw [e1, cond_false] at h
      obtain ⟨h1, h2⟩ := Bool.and_eq_true_iff.mp h
      refine .inr (.inr ⟨fun q => ?_, fun z => ?_, h2⟩)
      · rw [q, Nat.beq_refl] at e1; cases e1
      · rw [zr _ z] at h1
        cases h1
  obtain ⟨R, _, φ, H⟩ := Hom.exists (P := (P : Int)) (by omega)
  have φP : φ (P : Int) = 0 := by rw [← H.zero]; exact (H.ker _ _).mpr (by simp)
  have cst : ∀ a b : Nat, a % P = b % P → φ (a : Int) = φ (b : Int) := fun a b e => (H.ker _ _).mpr (by rw [← Int.natCast_emod, ← Int.natCast_emod, e])
  have hadd : ∀ j k : Int, j % (T.length : Int) ≠ 0 → k % (T.length : Int) ≠ 0 → pxT T j ≠ pxT T k →
      (j + k) % (T.length : Int) ≠ 0 ∧ ((pxT T (j + k) + pxT T j + pxT T k) * (pxT T k - pxT T j) * (pxT T k - pxT T j)) % (P : Int) = ((pyT T k - pyT T j) * (pyT T k - pyT T j)) % (P : Int) ∧
      ((pyT T (j + k) + pyT T j) * (pxT T k - pxT T j)) % (P : Int) = ((pyT T k - pyT T j) * (pxT T j - pxT T (j + k))) % (P : Int) := by
    intro j k hj hk hne
    have b1 := bnd j
    have b2 := bnd k
    have b3 := bnd (j + k)
    rcases core j k hj hk with h | h | ⟨_, hz, h⟩
    · exact absurd (congrArg (fun n : Nat => (n : Int)) h.1) hne
    · exact absurd (congrArg (fun n : Nat => (n : Int)) h.1) hne
    · refine ⟨hz, ?_⟩
      obtain ⟨h1, h2⟩ := Bool.and_eq_true_iff.mp h
      have f1 := cst _ _ (Nat.eq_of_beq_eq_true h1)
      have f2 := cst _ _ (Nat.eq_of_beq_eq_true h2)
      simp only [Int.natCast_mul, Int.natCast_add, Int.natCast_sub (Nat.le_of_lt b1.1), Int.natCast_sub (Nat.le_of_lt b1.2), Int.natCast_sub (Nat.le_of_lt b3.1), H.mul, H.add, H.sub, φP] at f1 f2
      constructor
      · refine (H.ker _ _).mp ?_
        simp only [pxT, pyT, H.mul, H.add, H.sub]
        grind
      · refine (H.ker _ _).mp ?_
        simp only [pxT, pyT, H.mul, H.add, H.sub]
        grind
  have hdbl : ∀ k : Int, k % (T.length : Int) ≠ 0 → (4 * pyT T k * pyT T k * (pxT T (2 * k) + 2 * pxT T k)) % (P : Int) = (9 * pxT T k * pxT T k * pxT T k * pxT T k) % (P : Int) ∧
      (2 * pyT T k * (pyT T (2 * k) + pyT T k)) % (P : Int) = (3 * pxT T k * pxT T k * (pxT T k - pxT T (2 * k))) % (P : Int) := by
    intro k hk
    rw [show 2 * k = k + k from by omega]
    have b1 := bnd k
    have b3 := bnd (k + k)
    rcases core k k hk hk with ⟨_, _, _, h⟩ | h | h
    · obtain ⟨h1, h2⟩ := Bool.and_eq_true_iff.mp h
      have f1 := cst _ _ (Nat.eq_of_beq_eq_true h1)
      have f2 := cst _ _ (Nat.eq_of_beq_eq_true h2)
      simp only [Int.natCast_mul, Int.natCast_add, Int.natCast_sub (Nat.le_of_lt b3.1), H.mul, H.add, H.sub, φP] at f1 f2
      constructor
      · refine (H.ker _ _).mp ?_
        simp only [pxT, pyT, H.mul, H.add, H.sub]
        exact f1
      · refine (H.ker _ _).mp ?_
        simp only [pxT, pyT, H.mul, H.add, H.sub]
        grind
    · exact absurd rfl h.2.1
    · exact absurd rfl h.1
  exact {
    prm := hprm
    big := hbig
    odd := hodd
    n7 := hn7
    n1000 := hn127
    nodd := hnodd
    per := fun j k e => by
      have : at' T j = at' T k := by unfold at'; rw [e]
      exact ⟨by unfold pxT; rw [this], by unfold pyT; rw [this]⟩
    inf := fun k e => by
      have := zr k e
      exact ⟨by unfold pxT; rw [this]; rfl, by unfold pyT; rw [this]; rfl⟩
    bnd := fun k => by
      have := bnd k
      unfold pxT pyT
      omega
    ynz := fun k e => by
      have := nz k e
      unfold pyT
      omega
    same := fun j k hj hk e => by
      have e' : (at' T j).1 = (at' T k).1 := by unfold pxT at e; omega
      rcases core j k hj hk with h | h | h
      · exact .inl h.2.2.1
      · refine .inr ⟨h.2.2, fun q => h.2.1 ?_⟩
        unfold pyT at q
        omega
      · exact absurd e' h.1
    opp := fun j k hj hk hne => (hadd j k hj hk hne).1
    addx := fun j k hj hk hne => (hadd j k hj hk hne).2.1
    addy := fun j k hj hk hne => (hadd j k hj hk hne).2.2
    dblx := fun k hk => (hdbl k hk).1
    dbly := fun k hk => (hdbl k hk).2 }
end
end
section
theorem prm_of (n : Nat) (h1 : 1 < n) (h2 : n < 1000) (h : (List.range n).all (fun m => m == 0 || Nat.gcd m n == 1) = true) : Prm n := by
  refine ⟨by omega, by omega, fun a h0 h3 => ?_⟩
  obtain ⟨m, rfl⟩ := Int.eq_ofNat_of_zero_le (Int.le_of_lt h0)
  have := List.all_eq_true.mp h m (List.mem_range.mpr (by omega))
  rcases Bool.or_eq_true_iff.mp this with e | e
  · have := beq_iff_eq.mp e
    omega
  · exact beq_iff_eq.mp e
noncomputable def CurveOK (P N gx gy : Int) : Prop := ∃ px py : Int → Int, Crv P N px py ∧ px 1 = gx ∧ py 1 = gy
theorem cok0 : CurveOK 19 13 4 16 := ⟨pxT tb0, pyT tb0, crv_of (P := 19) ck0 (by decide +kernel) (prm_of 19 (by decide) (by decide) (by decide +kernel)) (by decide) (by decide) (by decide +kernel) (by decide +kernel) (by decide +kernel), by decide +kernel, by decide +kernel⟩
theorem cok1 : CurveOK 19 13 1 17 := ⟨pxT tb1, pyT tb1, crv_of (P := 19) ck1 (by decide +kernel) (prm_of 19 (by decide) (by decide) (by decide +kernel)) (by decide) (by decide) (by decide +kernel) (by decide +kernel) (by decide +kernel), by decide +kernel, by decide +kernel⟩
theorem cok2 : CurveOK 31 43 1 2 := ⟨pxT tb2, pyT tb2, crv_of (P := 31) ck2 (by decide +kernel) (prm_of 31 (by decide) (by decide) (by decide +kernel)) (by decide) (by decide) (by decide +kernel) (by decide +kernel) (by decide +kernel), by decide +kernel, by decide +kernel⟩
theorem cok3 : CurveOK 43 31 2 31 := ⟨pxT tb3, pyT tb3, crv_of (P := 43) ck3 (by decide +kernel) (prm_of 43 (by decide) (by decide) (by decide +kernel)) (by decide) (by decide) (by decide +kernel) (by decide +kernel) (by decide +kernel), by decide +kernel, by decide +kernel⟩
theorem cok4 : CurveOK 67 79 2 22 := ⟨pxT tb4, pyT tb4, crv_of (P := 67) ck4 (by decide +kernel) (prm_of 67 (by decide) (by decide) (by decide +kernel)) (by decide) (by decide) (by decide +kernel) (by decide +kernel) (by decide +kernel), by decide +kernel, by decide +kernel⟩
theorem cok5 : CurveOK 67 73 2 55 := ⟨pxT tb5, pyT tb5, crv_of (P := 67) ck5 (by decide +kernel) (prm_of 67 (by decide) (by decide) (by decide +kernel)) (by decide) (by decide) (by decide +kernel) (by decide +kernel) (by decide +kernel), by decide +kernel, by decide +kernel⟩
theorem cok6 : CurveOK 79 67 1 18 := ⟨pxT tb6, pyT tb6, crv_of (P := 79) ck6 (by decide +kernel) (prm_of 79 (by decide) (by decide) (by decide +kernel)) (by decide) (by decide) (by decide +kernel) (by decide +kernel) (by decide +kernel), by decide +kernel, by decide +kernel⟩
theorem cok7 : CurveOK 79 97 1 2 := ⟨pxT tb7, pyT tb7, crv_of (P := 79) ck7 (by decide +kernel) (prm_of 79 (by decide) (by decide) (by decide +kernel)) (by decide) (by decide) (by decide +kernel) (by decide +kernel) (by decide +kernel), by decide +kernel, by decide +kernel⟩
theorem cok8 : CurveOK 127 127 1 32 := ⟨pxT tb8, pyT tb8, crv_of (P := 127) ck8 (by decide +kernel) (prm_of 127 (by decide) (by decide) (by decide +kernel)) (by decide) (by decide) (by decide +kernel) (by decide +kernel) (by decide +kernel), by decide +kernel, by decide +kernel⟩
theorem cok9 : CurveOK 127 127 1 2 := ⟨pxT tb9, pyT tb9, crv_of (P := 127) ck9 (by decide +kernel) (prm_of 127 (by decide) (by decide) (by decide +kernel)) (by decide) (by decide) (by decide +kernel) (by decide +kernel) (by decide +kernel), by decide +kernel, by decide +kernel⟩
end
open PySem.Calls
set_option maxRecDepth 100000
section

noncomputable abbrev Led := List (Addr × Obj)

/-- a contract: the def at f, called on vs over the ledger, hands back a value and a grown ledger of which Post speaks -/
noncomputable def Con (prog : Program) (w : World) (d u : Nat) (f : Addr) (vs : List Value) (news : Led) (Post : Led → Value → Prop) : Prop :=
  ∀ (p : Program) (loose : List Str) (mean : ExcName → Option Value) (mg mb : Str → Option Value) (dp un : Nat) (gd : Option (List Code)) (cn : Str) (cs : Scope) (a : Addr) (ccd : Value) (cl : List (Str × Addr)) (outer : List Env) (A₀ : Around) (base h₀ : Heap) (L : Addr) (m : Str → Option Value) (s : Shared) (Q E : Value → Shared → Prop),
    Below A₀ base outer h₀ → Fr h₀ L s.heap m → (hd.heap_1 w.params).In h₀ → News h₀ L s.heap news → Top p loose mean mg mb h₀ → cs.kind = .function → dp + d < 900 → un + u < 9000 →
    (∀ r tl h' tk', Fr h₀ L h' m → News h₀ L h' (tl ++ news) → Post tl r → Q r { s with heap := h', toks := tk' }) →
    wpAny (model prog w) (ktrTop dp un gd cn cs L a ccd cl outer) (call (.ref f) vs) Q E s

noncomputable abbrev fqD (w : World) (P n : Int) (k1 k2 t1 t2 : Tok) : Obj := dictOf [⟨PyData.keyHash w.params "field_modulus", .str "field_modulus" k1, .int P t1⟩, ⟨PyData.keyHash w.params "n", .str "n" k2, .int n t2⟩] 2

section
variable {prog : Program} {w : World} {A : Around} {E : Value → Shared → Prop} {s : Shared} {a b n : Int} {t u : Tok} {Q : Value → Shared → Prop}
theorem mod_g (hb : 0 < b) (h : ∀ r, r = a % b → 0 ≤ r → r < b → Q (.int r s.toks) { s with toks := s.toks + 1 }) : wpAny (model prog w) A (binaryOp .Mod (.int a t) (.int b u)) Q E s :=
  mod_int' (by omega) (h _ (Int.fmod_eq_emod_of_nonneg _ (Int.le_of_lt hb)) (by rw [Int.fmod_eq_emod_of_nonneg _ (Int.le_of_lt hb)]; exact Int.emod_nonneg _ (by omega)) (by rw [Int.fmod_eq_emod_of_nonneg _ (Int.le_of_lt hb)]; exact Int.emod_lt_of_pos _ hb))
theorem mod_lit (c : Int) (hb : 0 < b) (e : a % b = c) (h : Q (.int c s.toks) { s with toks := s.toks + 1 }) : wpAny (model prog w) A (binaryOp .Mod (.int a t) (.int b u)) Q E s :=
  mod_int' (by omega) (by rw [Int.fmod_eq_emod_of_nonneg _ (Int.le_of_lt hb), e]; exact h)
theorem fdiv_lit (c : Int) (hb : 0 < b) (hb2 : b < 1073741824) (e : a / b = c) (h : Q (.int c s.toks) { s with toks := s.toks + 1 }) : wpAny (model prog w) A (binaryOp .FloorDiv (.int a t) (.int b u)) Q E s :=
  floordiv_int (by omega) (by rw [Int.fdiv_eq_ediv_of_nonneg _ (Int.le_of_lt hb), e]; exact h) (.inl (PyProof.noPylong_small (by omega)))
theorem imod_g (hb : 0 < b) (h : ∀ r, r = a % b → 0 ≤ r → r < b → Q (.int r s.toks) { s with toks := s.toks + 1 }) : wpAny (model prog w) A (inplaceOp .Mod (.int a t) (.int b u)) Q E s :=
  imod_int (by omega) (h _ (Int.fmod_eq_emod_of_nonneg _ (Int.le_of_lt hb)) (by rw [Int.fmod_eq_emod_of_nonneg _ (Int.le_of_lt hb)]; exact Int.emod_nonneg _ (by omega)) (by rw [Int.fmod_eq_emod_of_nonneg _ (Int.le_of_lt hb)]; exact Int.emod_lt_of_pos _ hb))
theorem fdiv_g (hb : 0 < b) (hb2 : b < 1073741824) (ha : 0 ≤ a) (h : ∀ r, r = a / b → 0 ≤ r → r ≤ a → Q (.int r s.toks) { s with toks := s.toks + 1 }) : wpAny (model prog w) A (binaryOp .FloorDiv (.int a t) (.int b u)) Q E s :=
  floordiv_int (by omega) (h _ (Int.fdiv_eq_ediv_of_nonneg _ (Int.le_of_lt hb)) (by rw [Int.fdiv_eq_ediv_of_nonneg _ (Int.le_of_lt hb)]; exact Int.ediv_nonneg ha (Int.le_of_lt hb)) (by rw [Int.fdiv_eq_ediv_of_nonneg _ (Int.le_of_lt hb)]; exact Int.ediv_le_self _ ha)) (.inl (PyProof.noPylong_small (by omega)))
theorem mul_g (hm : (-4294967296 < a ∧ a < 4294967296) ∨ (-4294967296 < b ∧ b < 4294967296)) (h : Q (.int (a * b) s.toks) { s with toks := s.toks + 1 }) : wpAny (model prog w) A (binaryOp .Mult (.int a t) (.int b u)) Q E s :=
  mul_int h (hm.elim (fun e => IntMulOk.of_left (intBits_le_64 (by omega) (by omega))) fun e => IntMulOk.of_right (intBits_le_64 (by omega) (by omega)))
theorem pow_g (k : Nat) (hk : n = (k : Int)) (hk' : k ≤ 1000) (ha : -4294967296 < a ∧ a < 4294967296) (h : Q (.int (a ^ k) s.toks) { s with toks := s.toks + 1 }) : wpAny (model prog w) A (binaryOp .Pow (.int a t) (.int n u)) Q E s :=
  pow_int_small (by omega) (by omega) (by omega) (by subst hk; exact h)
end
theorem Con.weaken {prog : Program} {w : World} {d u d' u' : Nat} {f : Addr} {vs : List Value} {news : Led} {Post : Led → Value → Prop} (h : Con prog w d u f vs news Post) (hd : d ≤ d') (hu : u ≤ u') : Con prog w d' u' f vs news Post :=
  fun p loose mean mg mb dp un gd cn cs a ccd cl outer A₀ base h₀ L m s Q E B F X N T hk hdp hun ret => h p loose mean mg mb dp un gd cn cs a ccd cl outer A₀ base h₀ L m s Q E B F X N T hk (by omega) (by omega) ret
theorem con_use {prog : Program} {w : World} {d u : Nat} {f : Addr} {vs : List Value} {news : Led} {Post : Led → Value → Prop} {p : Program} {loose : List Str} {mean : ExcName → Option Value} {mg mb : Str → Option Value} {dp un : Nat} {gd : Option (List Code)} {cn : Str} {cs : Scope} {a : Addr} {ccd : Value} {cl : List (Str × Addr)} {outer : List Env} {A₀ : Around} {base h₀ : Heap} {L : Addr} {m : Str → Option Value} {s : Shared} {Q E : Value → Shared → Prop}
    (C : Con prog w d u f vs news Post) (B : Below A₀ base outer h₀) (F : Fr h₀ L s.heap m) (X : (hd.heap_1 w.params).In h₀) (N : News h₀ L s.heap news) (T : Top p loose mean mg mb h₀) (hk : cs.kind = .function) (hd : dp + d < 900) (hu : un + u < 9000)
    (ret : ∀ r tl h' tk', Fr h₀ L h' m → News h₀ L h' (tl ++ news) → Post tl r → Q r { s with heap := h', toks := tk' }) :
    wpAny (model prog w) (ktrTop dp un gd cn cs L a ccd cl outer) (call (.ref f) vs) Q E s := C p loose mean mg mb dp un gd cn cs a ccd cl outer A₀ base h₀ L m s Q E B F X N T hk hd hu ret
noncomputable abbrev NewFQ (w : World) (C : Addr) (P : Int) (φ : Int → Prop) (tl : Led) (r : Value) : Prop := ∃ x d k1 k2 t1 t2 n, r = .ref x ∧ tl = [(x, instObj C d), (d, fqD w P n k1 k2 t1 t2)] ∧ φ n ∧ 0 ≤ n ∧ n < P
theorem sub_news {h₀ h : Heap} {L : Addr} {news news' : Led} (N : News h₀ L h news') (hs : ∀ p ∈ news, p ∈ news') : News h₀ L h news := fun p hp => N p (hs p hp)
theorem ne_all {d : Addr} {news : Led} (h : ∀ p ∈ news, p.1 < d) : ∀ p ∈ news, p.1 ≠ d := fun p hp => Nat.ne_of_lt (h p hp)
end
section
section
variable {prog : Program} {w : World} {A : Around} {E : Value → Shared → Prop} {s : Shared} {K : Frag} {x C L f : Addr} {h₀ : Heap} {m : Str → Option Value} {od : Option Obj}
theorem int_mul_inst {a : Int} {t : Tok} {dx : Option Addr} {sl : Array (Option Value)} {R : Fin → Shared → Prop} (ho : s.heap.get? x = some ⟨.ref C, dx, .plain, sl⟩) (h : R (.done (.ret .notImplemented)) s) :
    wpAny (model prog w) A (Builtin.«int.__mul__» ⟨[.int a t, .ref x], []⟩) R E s := by
  obtain ⟨hp, g, d, tk, os⟩ := s
  wp_walk
  exact h
theorem int_declines {a : Int} {t : Tok} {R : Option Value → Shared → Prop} (hc : wpAny (model prog w) A (call (.builtin "int.__mul__") [.int a t, .ref x]) (fun v s' => v = .notImplemented ∧ R none s') E s) : wpAny (model prog w) A (tryMethod (.int a t) (PySem.dunder "mul") (.ref x)) R E s := by
  have h6 := typeIs_int s a t
  have h7 := @wpAny_tryMethod_declines (model prog w) A E s (.int a t) (.ref x) "int" (PySem.dunder "mul") "int.__mul__" R h6 slot_int_mul hc
  exact h7
theorem rmul_inst {a : Int} {t : Tok} {dx : Option Addr} {sl : Array (Option Value)} {Q : Value → Shared → Prop} (F : Fr h₀ L s.heap m) (X₀ : K.In h₀) (I : InstAt s.heap x ⟨.ref C, dx, .plain, sl⟩ C od) (ho : s.heap.get? x = some ⟨.ref C, dx, .plain, sl⟩) (hc : selfFirst K C = true) {f0 : Addr}
    (hs0 : findIn K (.ref C) "__mul__" = some (some (.ref f0)))
    (hs : findIn K (.ref C) "__rmul__" = some (some (.ref f))) (hf : isFn K (.ref f) = true) (hsub : subIn K (.ref C) (.type "int") = some false)
    (h : wpAny (model prog w) A (call (.ref f) [.ref x, .int a t]) (W.CmpBack Q) E s) : wpAny (model prog w) A (binaryOp .Mult (.int a t) (.ref x)) Q E s := by
  have X := X₀.keeps F.keep
  obtain ⟨cd, rest, hcd, hm⟩ := ksp_first hc
  have one := ksp_try X I hs hf h
  have two : wpAny (model prog w) A (tryMethod (.int a t) (dunder "mul") (.ref x)) (fun r s' => r = none ∧ s' = s) E s := by
    refine int_declines ?_
    refine wpAny_call_entry slot_int_mul (typeIs_int s a t) entry_int_mul ?_ (args_int_mul _ _)
    exact int_mul_inst ho ⟨_, rfl, rfl, rfl, rfl⟩
  have L1 : Looks (model prog w) s.heap (typeOf (.int a t)) (.type "int") := Looks.of_pure rfl
  have L2 : Looks (model prog w) s.heap (typeOf (.ref x)) (.ref C) := I.type
  have L4 : Looks (model prog w) s.heap (fillsNumberSlot (.ref C) "mul") true := fills_K X hcd hm hs0
  have L5 : Looks (model prog w) s.heap (isSubtype (.ref C) (.type "int")) false := looks_subIn X hsub
  have L7 : Looks (model prog w) s.heap (numberSlotInPython (.type "int") "mul") false := Looks.of_pure rfl
  have hne : (Value.type "int" == Value.ref C) = false := Bool.eq_false_iff.mpr fun q => by cases beq_iff_eq.mp q
  have hi : Operator.Mult.info = ("*", "mul") := rfl
  simp only [binaryOp, hi]
  refine wpAny_holding (wpAny_bind ?_)
  unfold binaryOp1
  refine wpAny_bind (L1.here (wpAny_bind (L2.here (wpAny_bind (wpAny_of_eq fills_int_mul ?_)))))
  simp only [hne, Bool.false_eq_true, if_false]
  refine wpAny_bind (L4.here ?_)
  simp only [Bool.and_self, if_true]
  refine wpAny_bind (L5.here ?_)
  simp only [Bool.false_eq_true, if_false, pure_bind, Bool.not_false, Bool.and_self, if_true]
  refine wpAny_bind (L7.here ?_)
  simp only [Bool.false_eq_true, if_false]
  refine wpAny_bind (wpAny_mono two (fun r s' hr => ?_) fun _ _ e => e)
  obtain ⟨rfl, rfl⟩ := hr
  dsimp only
  refine wpAny_bind (m := tryMethod (.ref x) _ _) (wpAny_mono one (fun r s' hr' => ?_) fun _ _ e => e)
  obtain ⟨v, rfl, hq⟩ := hr'
  exact wpAny_bind (wpAny_rule (wpAny_pure (wpAny_pure hq)))
theorem rmul_N {a : Int} {t : Tok} {dx : Addr} {od : Obj} {news : Led} {Q : Value → Shared → Prop} (F : Fr h₀ L s.heap m) (X₀ : K.In h₀) (N : News h₀ L s.heap news) (h1 : (x, instObj C dx) ∈ news) (h2 : (dx, od) ∈ news) (hc : selfFirst K C = true) {f0 : Addr}
    (hs0 : findIn K (.ref C) "__mul__" = some (some (.ref f0)))
    (hs : findIn K (.ref C) "__rmul__" = some (some (.ref f))) (hf : isFn K (.ref f) = true) (hsub : subIn K (.ref C) (.type "int") = some false)
    (h : wpAny (model prog w) A (call (.ref f) [.ref x, .int a t]) (W.CmpBack Q) E s) : wpAny (model prog w) A (binaryOp .Mult (.int a t) (.ref x)) Q E s :=
  rmul_inst F X₀ (InstAt.of_news N h1 h2) (N _ h1).1 hc hs0 hs hf hsub h
end
end
noncomputable abbrev tup2 (x y : Int) (t1 t2 : Tok) : Obj := { cls := .type "tuple", data := .seq #[.int x t1, .int y t2] }
section
variable {P N : Int} {px py : Int → Int} {w : World}
theorem Crv.zz (C : Crv P N px py) {k : Int} (h : px k = 0 ∧ py k = 0) : k % N = 0 := by
  by_cases e : k % N = 0
  · exact e
  · exact absurd h.2 (C.ynz k e)
theorem Crv.nzz (C : Crv P N px py) {k : Int} (h : ¬ (px k = 0 ∧ py k = 0)) : k % N ≠ 0 := fun e => h (C.inf k e)
theorem Crv.zzB (C : Crv P N px py) {k : Int} (h : (px k == 0 && py k == 0) = true) : k % N = 0 := C.zz (by simpa using h)
theorem Crv.nzzB (C : Crv P N px py) {k : Int} (h : (px k == 0 && py k == 0) = false) : k % N ≠ 0 := C.nzz (fun e => by rw [e.1, e.2] at h; exact absurd h (by decide))
theorem Crv.infT (C : Crv P N px py) {k : Int} (h : k % N = 0) : 0 = px k ∧ 0 = py k := ⟨(C.inf k h).1.symm, (C.inf k h).2.symm⟩
theorem Crv.pmod (C : Crv P N px py) (k : Int) {a b : Int} (ha : a = px k % P) (hb : b = py k % P) : a = px k ∧ b = py k := by
  have b9 := C.bnd k
  rw [mod_id b9.1 b9.2.1] at ha
  rw [mod_id b9.2.2.1 b9.2.2.2] at hb
  exact ⟨ha, hb⟩
theorem quick_inf (C : Crv P N px py) {k X Y Z : Int} (h : k % N = 0) (hX : 0 ≤ X ∧ X < P) (hY : 0 ≤ Y ∧ Y < P) (hZ : Z = 0 % P) : PRep P N px py k X Y Z :=
  PRep.zz (by rw [hZ, Int.zero_emod]) (PRep.ofInf C h hX hY)
theorem quick_pt (C : Crv P N px py) {k X Y Z sc : Int} (kn : k % N ≠ 0) (h0 : 1 ≤ sc) (h1 : sc < P) (hX : X = (px k * sc) % P) (hY : Y = (py k * sc) % P) (hZ : Z = sc % P) : PRep P N px py k X Y Z := by
  have e : Z = sc := by rw [hZ, mod_id (by omega) h1]
  refine ⟨by rw [hX]; exact C.emod_b _, by rw [hY]; exact C.emod_b _, ⟨by omega, by omega⟩, .inr ⟨kn, by omega, ?_, ?_⟩⟩
  · rw [hX, e, Int.emod_emod]
  · rw [hY, e, Int.emod_emod]
theorem scaled_pt (C : Crv P N px py) {k X Y sc : Int} (kn : k % N ≠ 0) (h0 : 1 ≤ sc) (h1 : sc < P) (hX : X = (px k * sc * sc) % P) (hY : Y = (py k * sc * sc * sc) % P) : JRep P N px py k X Y sc := by
  refine ⟨by rw [hX]; exact C.emod_b _, by rw [hY]; exact C.emod_b _, ⟨by omega, by omega⟩, .inr ⟨kn, by omega, ?_, ?_⟩⟩
  · rw [hX, Int.emod_emod]; congr 1; grind
  · rw [hY, Int.emod_emod]; congr 1; grind
end
section
set_option maxHeartbeats 8000000
local macro_rules | `(tactic| k_all) => `(tactic| exact ne_all (by assumption))
local macro_rules | `(tactic| k_mem) => `(tactic| ((show @Membership.mem (Addr × Obj) (List (Addr × Obj)) _ _ _); first | ktr_member | (ktn_app; first | (refine List.mem_append.mpr (Or.inl ?_); k_mem) | (refine List.mem_append.mpr (Or.inr ?_); k_mem))))
local macro_rules | `(tactic| k_units) => `(tactic| ktr_units)
local macro_rules | `(tactic| k_room) => `(tactic| ktr_room)
local macro_rules | `(tactic| walk_at "binaryOp Mod int int") => `(tactic| (k_here; first | (refine mod_lit 0 (by decide) (by decide) ?_) | (refine mod_lit 1 (by decide) (by decide) ?_) | (refine mod_g (by first | assumption | omega) ?_; intro rN hrN h0N h1N)))
local macro_rules | `(tactic| walk_at "inplaceOp Mod int int") => `(tactic| (k_here; (refine imod_g (by first | assumption | omega) ?_); intro rN hrN h0N h1N))
local macro_rules | `(tactic| walk_at "binaryOp FloorDiv int int") => `(tactic| (k_here; first | (refine fdiv_lit 1 (by decide) (by decide) (by decide) ?_) | (refine fdiv_g (by omega) (by omega) (by omega) ?_; intro rN hrN h0N h1N) | (have hEI := EI.bounds (by assumption); obtain ⟨hE1, hE2, hE3, hE4, hE5⟩ := hEI; refine fdiv_g (by omega) (by omega) (by omega) ?_; intro rN hrN h0N h1N)))
local macro_rules | `(tactic| walk_at "binaryOp Mult int int") => `(tactic| (k_here; (refine mul_g (by omega) ?_)))
local macro_rules | `(tactic| walk_at "binaryOp Pow int int") => `(tactic| (k_here; k_dflt (first | (refine pow_g 2 (by decide) (by decide) (by omega) ?_) | (refine pow_g 3 (by decide) (by decide) (by omega) ?_) | (refine pow_g 4 (by decide) (by decide) (by omega) ?_))))
local macro_rules | `(tactic| walk_at "binaryOp Div") => `(tactic| (k_here; (with_reducible show wpAny _ _ (binaryOp _ (Value.ref _) (Value.ref _)) _ _ _); k_dflt (refine' binop_K ?k1 ?k2 ?k3 ?k4 ?k5 ?k6 ?k7 ?_; (case k1 => k_asm); (case k2 => k_asm); (case k3 => k_inst); (case k4 => k_typeOf); (case k5 => k_is); (case k6 => k_is); (case k7 => k_is); k_whole)))
local macro_rules | `(tactic| walk_at "binaryOp Mult int ref") => `(tactic| (k_here; (with_reducible show wpAny _ _ (binaryOp Operator.Mult (Value.int _ _) (Value.ref _)) _ _ _); k_dflt (refine' rmul_N ?k1 ?k2 ?kN ?h1 ?h2 ?k5 ?k6 ?k7 ?k8 ?k9 ?_; (case k1 => k_asm); (case k2 => k_asm); (case kN => k_asm); (case h1 => k_mem); (case h2 => k_mem); (case k5 => k_is); (case k6 => k_is); (case k7 => k_is); (case k8 => k_is); (case k9 => k_is); k_whole)))
theorem pinv {prog : Program} {w : World} {news : Led} {a n : Int} {t u : Tok} (hp : Prm n) (h0 : 0 ≤ a) (h1 : a < n) : Con prog w 2 40 112 [.int a t, .int n u] news (fun tl r => ∃ i t', r = .int i t' ∧ tl = [] ∧ IsInv n a i ∧ 0 ≤ i ∧ i < n) := by
  intro p loose mean mg mb dp un gd cn cs aa ccd cl outer A₀ base h₀ L m s Q E B F X N T hk hdp hun ret
  have hn1 := hp.1
  have hn2 := hp.2.1
  refine wpAny_call ?_
  k_dflt ktr_enter
  k_with_none
  k_with "exec While Compare cons nil" => k_while (fun _ lm hm low high => EI n a lm hm low high) (fun _ lm hm low high => low.toNat) "lm" "hm" "low" "high"
  k_with "state" => first | exact EI.startA hp h0 h1 (by assumption) (by assumption) (by assumption) | exact EI.startB hp h0 h1 (by assumption) (by assumption) | exact (EI.step (by assumption) (by omega) (by assumption)).1
  k_with "measure" => exact (EI.step (by assumption) (by omega) (by assumption)).2
  k_steps
  k_with_none
  all_goals first
    | exact ret _ [] _ _ (by k_asm) (sub_news (by k_asm) (by kcj_in)) ⟨_, _, rfl, rfl, inv3 <| IsInv.zeroA hp h0 h1 (by assumption) (by assumption)⟩
    | exact ret _ [] _ _ (by k_asm) (sub_news (by k_asm) (by kcj_in)) ⟨_, _, rfl, rfl, inv3 (by (have e : a = 0 := by omega); subst e; exact IsInv.zero (by omega))⟩
    | exact ret _ [] _ _ (by k_asm) (sub_news (by k_asm) (by kcj_in)) ⟨_, _, rfl, rfl, inv3 <| EI.finishA hp h0 h1 (by assumption) (by assumption) (by assumption) (by omega) (by assumption)⟩
    | exact ret _ [] _ _ (by k_asm) (sub_news (by k_asm) (by kcj_in)) ⟨_, _, rfl, rfl, inv3 <| EI.finishB hp h0 (by assumption) (by assumption) (by omega) (by assumption)⟩

theorem sinv {prog : Program} {w : World} {news : Led} {a n : Int} {t u : Tok} (hp : Prm n) (h0 : 0 ≤ a) (h1 : a < n) : Con prog w 2 40 28 [.int a t, .int n u] news (fun tl r => ∃ i t', r = .int i t' ∧ tl = [] ∧ IsInv n a i ∧ 0 ≤ i ∧ i < n) := by
  intro p loose mean mg mb dp un gd cn cs aa ccd cl outer A₀ base h₀ L m s Q E B F X N T hk hdp hun ret
  have hn1 := hp.1
  have hn2 := hp.2.1
  refine wpAny_call ?_
  k_dflt ktr_enter
  k_with_none
  k_with "exec While Compare cons nil" => k_while (fun _ lm hm low high => EI n a lm hm low high) (fun _ lm hm low high => low.toNat) "lm" "hm" "low" "high"
  k_with "state" => first | exact EI.startA hp h0 h1 (by assumption) (by assumption) (by assumption) | exact EI.startB hp h0 h1 (by assumption) (by assumption) | exact (EI.step (by assumption) (by omega) (by assumption)).1
  k_with "measure" => exact (EI.step (by assumption) (by omega) (by assumption)).2
  k_steps
  k_with_none
  all_goals first
    | exact ret _ [] _ _ (by k_asm) (sub_news (by k_asm) (by kcj_in)) ⟨_, _, rfl, rfl, inv3 <| IsInv.zeroA hp h0 h1 (by assumption) (by assumption)⟩
    | exact ret _ [] _ _ (by k_asm) (sub_news (by k_asm) (by kcj_in)) ⟨_, _, rfl, rfl, inv3 (by (have e : a = 0 := by omega); subst e; exact IsInv.zero (by omega))⟩
    | exact ret _ [] _ _ (by k_asm) (sub_news (by k_asm) (by kcj_in)) ⟨_, _, rfl, rfl, inv3 <| EI.finishA hp h0 h1 (by assumption) (by assumption) (by assumption) (by omega) (by assumption)⟩
    | exact ret _ [] _ _ (by k_asm) (sub_news (by k_asm) (by kcj_in)) ⟨_, _, rfl, rfl, inv3 <| EI.finishB hp h0 (by assumption) (by assumption) (by omega) (by assumption)⟩
theorem fq_new1 {prog : Program} {w : World} {news : Led} {P : Int} {v : Int} {t u : Tok} (hp : Prm P) : Con prog w 4 60 255 [.int v t, .int P u] news (NewFQ w 255 P (fun n => n = v % P)) := by
  intro p loose mean mg mb dp un gd cn cs a ccd cl outer A₀ base h₀ L m s Q E B F X N T hk hdp hun ret
  have hP := hp.pos
  have hP2 := hp.2.1
  k_dflt (refine' call_cls ?k1 ?k2 ?k3 ?k4 ?k5 ?k6 ?_; (case k1 => k_asm); (case k2 => k_asm); (case k3 => k_asm); (case k4 => k_is); (case k5 => k_is); (case k6 => k_is); k_whole; intro x' d' h' F' N' l1 l2; k_lt2 l2)
  k_dflt ktr_enter
  k_steps
  all_goals exact ret _ [_, _] _ _ (by k_asm) (by k_asm) ⟨_, _, _, _, _, _, _, rfl, rfl, by assumption, by assumption, by assumption⟩
theorem fq_new2 {prog : Program} {w : World} {news : Led} {P : Int} {v : Int} {t u : Tok} (hp : Prm P) : Con prog w 4 60 417 [.int v t, .int P u] news (NewFQ w 417 P (fun n => n = v % P)) := by
  intro p loose mean mg mb dp un gd cn cs a ccd cl outer A₀ base h₀ L m s Q E B F X N T hk hdp hun ret
  have hP := hp.pos
  have hP2 := hp.2.1
  k_dflt (refine' call_cls ?k1 ?k2 ?k3 ?k4 ?k5 ?k6 ?_; (case k1 => k_asm); (case k2 => k_asm); (case k3 => k_asm); (case k4 => k_is); (case k5 => k_is); (case k6 => k_is); k_whole; intro x' d' h' F' N' l1 l2; k_lt2 l2)
  k_dflt ktr_enter
  k_steps
  all_goals exact ret _ [_, _] _ _ (by k_asm) (by k_asm) ⟨_, _, _, _, _, _, _, rfl, rfl, by assumption, by assumption, by assumption⟩
end
section
/-! A small calculus: abstract values, mini programs, conditions, and that the conditions suffice. -/
noncomputable abbrev tupO (vs : List Value) : Obj := { cls := .type "tuple", data := .seq vs.toArray }
inductive AV where
  | int (n : Int) | bool (b : Bool) | none | fq (c : Bool) (P n : Int) | tup (l : AV) | lnil | lcons (a l : AV) | fn (f : Addr) | lst (l : AV) | opq (r : Addr)
noncomputable def clsA : Bool → Addr
  | true => 255
  | false => 417
mutual
inductive Rep (w : World) (led : Led) : Value → AV → Prop
  | int {n : Int} {t : Tok} : Rep w led (.int n t) (.int n)
  | bool {b : Bool} : Rep w led (.bool b) (.bool b)
  | none : Rep w led .none .none
  | fq {c : Bool} {P n : Int} {x d : Addr} {k1 k2 t1 t2 : Tok} : (x, instObj (clsA c) d) ∈ led → (d, fqD w P n k1 k2 t1 t2) ∈ led → Prm P → 0 ≤ n → n < P → Rep w led (.ref x) (.fq c P n)
  | tup {r : Addr} {vs : List Value} {l : AV} : (r, tupO vs) ∈ led → Reps w led vs l → Rep w led (.ref r) (.tup l)
  | fn {f : Addr} : keepIn (hd.heap_1 w.params) (.ref f) = true → Rep w led (.ref f) (.fn f)
  | lst {r : Addr} {vs : List Value} {n : Nat} {l : AV} : (r, W.listOf vs.toArray n) ∈ led → Reps w led vs l → Rep w led (.ref r) (.lst l)
  | opq {r : Addr} : Rep w led (.ref r) (.opq r)
inductive Reps (w : World) (led : Led) : List Value → AV → Prop
  | nil : Reps w led [] .lnil
  | cons {v : Value} {vs : List Value} {a l : AV} : Rep w led v a → Reps w led vs l → Reps w led (v :: vs) (.lcons a l)
end
section
variable {w : World} {led led' : Led}
theorem mono_all (s : ∀ p ∈ led, p ∈ led') : ∀ a : AV, (∀ v, Rep w led v a → Rep w led' v a) ∧ (∀ vs, Reps w led vs a → Reps w led' vs a) := by
  intro a
  induction a with
  | tup l ih => exact ⟨fun v h => (by cases h with | tup m r => exact .tup (s _ m) (ih.2 _ r)), fun vs h => (by cases h)⟩
  | lst l ih => exact ⟨fun v h => (by cases h with | lst m r => exact .lst (s _ m) (ih.2 _ r)), fun vs h => (by cases h)⟩
  | opq v => exact ⟨fun v h => (by cases h; exact .opq), fun vs h => (by cases h)⟩
  | lcons a l iha ihl => exact ⟨fun v h => (by cases h), fun vs h => (by cases h with | cons x y => exact .cons (iha.1 _ x) (ihl.2 _ y))⟩
  | lnil => exact ⟨fun v h => (by cases h), fun vs h => (by cases h; exact .nil)⟩
  | int n => exact ⟨fun v h => (by cases h; exact .int), fun vs h => (by cases h)⟩
  | bool n => exact ⟨fun v h => (by cases h; exact .bool), fun vs h => (by cases h)⟩
  | none => exact ⟨fun v h => (by cases h; exact .none), fun vs h => (by cases h)⟩
  | fn f => exact ⟨fun v h => (by cases h with | fn k => exact .fn k), fun vs h => (by cases h)⟩
  | fq c P n => exact ⟨fun v h => (by cases h with | fq a b c d e => exact .fq (s _ a) (s _ b) c d e), fun vs h => (by cases h)⟩
theorem Rep.mono {v : Value} {a : AV} (h : Rep w led v a) (s : ∀ p ∈ led, p ∈ led') : Rep w led' v a := (mono_all s a).1 v h
theorem Reps.mono {v : List Value} {a : AV} (h : Reps w led v a) (s : ∀ p ∈ led, p ∈ led') : Reps w led' v a := (mono_all s a).2 v h
end
noncomputable def AV.len : AV → Nat
  | .lcons _ l => l.len + 1
  | _ => 0
noncomputable def AV.nth : AV → Nat → Option AV
  | .lcons a _, 0 => some a
  | .lcons _ l, n + 1 => l.nth n
  | _, _ => Option.none
theorem Reps.len {w : World} {led : Led} : ∀ {l : AV} {vs : List Value}, Reps w led vs l → vs.length = l.len := by
  intro l
  induction l with
  | lcons a l iha ihl => intro vs h; cases h with | cons x y => simp [AV.len, ihl y]
  | lnil => intro vs h; cases h; rfl
  | _ => intro vs h; cases h
theorem Reps.nth {w : World} {led : Led} : ∀ {l : AV} {vs : List Value}, Reps w led vs l → ∀ {j : Nat} {a : AV}, l.nth j = some a → ∃ v, vs[j]? = some v ∧ Rep w led v a := by
  intro l
  induction l with
  | lcons a l iha ihl =>
    intro vs h j b e
    cases h with
    | cons x y =>
      cases j with
      | zero => cases e; exact ⟨_, rfl, x⟩
      | succ j => exact ihl y e
  | lnil => intro vs h j b e; cases e
  | _ => intro vs h; cases h
noncomputable def AV.app : AV → AV → AV
  | .lcons a l, b => .lcons a (l.app b)
  | _, b => b
noncomputable def AV.snoc (l a : AV) : AV := l.app (.lcons a .lnil)
noncomputable def AV.noLst : AV → Bool
  | .lst _ => false
  | .tup l => l.noLst
  | .lcons a l => a.noLst && l.noLst
  | _ => true
theorem Reps.app {w : World} {led : Led} : ∀ {l : AV} {vs : List Value}, Reps w led vs l → ∀ {l' : AV} {us : List Value}, Reps w led us l' → Reps w led (vs ++ us) (l.app l') := by
  intro l
  induction l with
  | lcons a l iha ihl => intro vs h l' us g; cases h with | cons x y => exact .cons x (ihl y g)
  | lnil => intro vs h l' us g; cases h; exact g
  | _ => intro vs h; cases h
/-- a def's contract over abstract values -/
structure ACon (prog : Program) (w : World) (d u : Nat) (f : Addr) (l : AV) (Φ : AV → Prop) : Prop where
  run : ∀ (vs : List Value) (led : Led), Reps w led vs l → Con prog w d u f vs led (fun tl r => ∃ av, Rep w (tl ++ led) r av ∧ Φ av)
theorem Con.post {prog : Program} {w : World} {d u : Nat} {f : Addr} {vs : List Value} {news : Led} {Post Post' : Led → Value → Prop} (h : Con prog w d u f vs news Post) (hp : ∀ tl r, Post tl r → Post' tl r) : Con prog w d u f vs news Post' :=
  fun p loose mean mg mb dp un gd cn cs a ccd cl outer A₀ base h₀ L m s Q E B F X N T hk hdp hun ret => h p loose mean mg mb dp un gd cn cs a ccd cl outer A₀ base h₀ L m s Q E B F X N T hk hdp hun (fun r tl h' tk' F' N' P => ret r tl h' tk' F' N' (hp _ _ P))
theorem ACon.use {prog : Program} {w : World} {d u d' u' : Nat} {f : Addr} {l : AV} {Φ Ψ : AV → Prop} (h : ACon prog w d u f l Ψ) (hd : d ≤ d') (hu : u ≤ u') (hp : ∀ av, Ψ av → Φ av) : ACon prog w d' u' f l Φ :=
  ⟨fun vs led hr => ((h.run vs led hr).weaken hd hu).post fun tl r ⟨av, a, b⟩ => ⟨av, a, hp _ b⟩⟩

noncomputable abbrev Rho := List (Nat × AV)
noncomputable def lk : Rho → Nat → Option AV
  | [], _ => none
  | (i, a) :: r, j => match Nat.beq i j with | true => some a | false => lk r j
inductive ME where
  | v (i : Nat) | lit (n : Int) | none | bin (op : Operator) (a b : ME) | pow (a : ME) (k : Nat) | neg (a : ME) | item (a : ME) (i : Int)
  | tup (l : ME) | lnil | lcons (a l : ME) | call (f : Addr) (l : ME) | callv (i : Nat) (l : ME) | toint (a : ME) | totup (a : ME) | cmp (op : CmpOp) (a b : ME) | isnone (a : ME)
  | ite (c a b : ME) | not (a : ME) | or (a b : ME) | and (a b : ME) | meth (a : ME) (nm : Nat) (l : ME) | attr (a : ME) (nm : Nat) | isint (a : ME) | iscls (a : ME) (C : Addr) | idx (a b : ME) | lst (l : ME) | call0 (f : Addr) | fnv (f : Addr)
inductive MS where
  | nil | asg (i : Nat) (e : ME) (k : MS) | unp (is : List Nat) (e : ME) (k : MS) | swp (i j : Nat) (e : ME) (k : MS) | iff (c : ME) (a b k : MS) | ret (e : ME) | fail
structure big (x : Int) : Prop where
  lo : -4294967296 < x
  hi : x < 4294967296
theorem big_of {x P : Int} (h0 : 0 ≤ x) (h1 : x < P) (hP : P < 1000) : big x := ⟨by omega, by omega⟩
theorem big_sub {x y P : Int} (h0 : 0 ≤ x) (h1 : x < P) (g0 : 0 ≤ y) (g1 : y < P) (hP : P < 1000) : big (x - y) := ⟨by omega, by omega⟩
theorem big_lit {x : Int} (h0 : -4294967296 < x) (h1 : x < 4294967296) : big x := ⟨h0, h1⟩
/-- where the class keeps the method -/
noncomputable def opA : Bool → Operator → Option Addr
  | true, .Add => some 133 | true, .Mult => some 140 | true, .Sub => some 168 | true, .Div => some 175
  | false, .Mult => some 287 | false, .Sub => some 315 | false, .Div => some 329
  | _, _ => none
noncomputable def mulA : Bool → Addr
  | true => 140 | false => 287
noncomputable def rmulA : Bool → Addr
  | true => 147 | false => 294
noncomputable def powA : Bool → Option Addr
  | true => some 189 | false => none
noncomputable def eqA : Bool → Addr
  | true => 196 | false => 350
noncomputable def negA : Bool → Option Addr
  | true => some 210 | false => none
/-- 0 made, 1 one, 2 zero -/
noncomputable def methA : Bool → Nat → Option Addr
  | true, 0 => some 238 | false, 0 => some 400 | false, 1 => some 407 | false, 2 => some 414 | _, _ => none
section
variable (CO : Addr → AV → (AV → Prop) → Prop)
noncomputable def ibin (op : Operator) (x y : Int) (Φ : AV → Prop) : Prop := match op with
  | .Add => Φ (.int (x + y))
  | .Sub => Φ (.int (x - y))
  | .Mult => (big x ∨ big y) ∧ Φ (.int (x * y))
  | .Mod => 0 < y ∧ ∀ r, r = x % y → 0 ≤ r → r < y → Φ (.int r)
  | .FloorDiv => (0 < y ∧ y < 1073741824 ∧ 0 ≤ x) ∧ ∀ r, r = x / y → 0 ≤ r → r ≤ x → Φ (.int r)
  | _ => False
noncomputable def binw (op : Operator) (x y : AV) (Φ : AV → Prop) : Prop := match x with
  | .int k => match y with
    | .int b => ibin op k b Φ
    | .fq c P x => match op with
      | .Mult => CO (rmulA c) (.lcons (.fq c P x) (.lcons (.int k) .lnil)) Φ
      | _ => False
    | _ => False
  | .fq c P x => match y with
    | .int k => match op with
      | .Mult => CO (mulA c) (.lcons (.fq c P x) (.lcons (.int k) .lnil)) Φ
      | .Pow => match powA c with
        | some f => CO f (.lcons (.fq c P x) (.lcons (.int k) .lnil)) Φ
        | none => False
      | _ => False
    | .fq c' P' y => match opA c op with
      | some f => c = c' ∧ CO f (.lcons (.fq c P x) (.lcons (.fq c' P' y) .lnil)) Φ
      | none => False
    | _ => False
  | .lst a => match y with
    | .lst b => match op with
      | .Add => (a.len + b.len < 1000) ∧ Φ (.lst (a.app b))
      | _ => False
    | _ => False
  | _ => False
noncomputable def poww : AV → Nat → (AV → Prop) → Prop
  | .int x, k, Φ => (k ≤ 1000 ∧ big x) ∧ Φ (.int (x ^ k))
  | .fq c P x, k, Φ => match powA c with
    | some f => CO f (.lcons (.fq c P x) (.lcons (.int k) .lnil)) Φ
    | none => False
  | _, _, _ => False
noncomputable def negw : AV → (AV → Prop) → Prop
  | .int x, Φ => Φ (.int (-x))
  | .fq c P x, Φ => match negA c with
    | some f => CO f (.lcons (.fq c P x) .lnil) Φ
    | none => False
  | _, _ => False
noncomputable def itemw : AV → Int → (AV → Prop) → Prop
  | .tup l, i, Φ => match seqIndex? i l.len with
    | some j => match l.nth j with
      | some a => Φ a
      | none => False
    | none => False
  | .lst l, i, Φ => match l.nth i.toNat with
    | some a => (0 ≤ i ∧ i < 1000) ∧ Φ a
    | none => False
  | _, _, _ => False
noncomputable def idxw : AV → AV → (AV → Prop) → Prop
  | .lst l, .int i, Φ => (0 ≤ i ∧ i < l.len ∧ i < 1000) ∧ ∀ v, l.nth i.toNat = some v → Φ v
  | _, _, _ => False
noncomputable def icmp (op : CmpOp) (x y : Int) (Φ : AV → Prop) : Prop := match op with
  | .Eq => (x = y → Φ (.bool true)) ∧ (x ≠ y → Φ (.bool false))
  | .NotEq => (x = y → Φ (.bool false)) ∧ (x ≠ y → Φ (.bool true))
  | .Lt => (x < y → Φ (.bool true)) ∧ (y ≤ x → Φ (.bool false))
  | .GtE => (y ≤ x → Φ (.bool true)) ∧ (x < y → Φ (.bool false))
  | _ => False
noncomputable def AV.two : AV → Option (Int × Int)
  | .lcons a l => match a with
    | .int x => match l with
      | .lcons b r => match b with
        | .int y => match r with
          | .lnil => some (x, y)
          | _ => Option.none
        | _ => Option.none
      | _ => Option.none
    | _ => Option.none
  | _ => Option.none
noncomputable def cmpw (op : CmpOp) (x y : AV) (Φ : AV → Prop) : Prop := match x with
  | .int a => match y with
    | .int b => icmp op a b Φ
    | _ => False
  | .fq c P x => match y with
    | .fq c' P' y => match op with
      | .Eq => c = c' ∧ CO (eqA c) (.lcons (.fq c P x) (.lcons (.fq c' P' y) .lnil)) Φ
      | _ => False
    | _ => False
  | .tup l => match y with
    | .tup l' => match op with
      | .Eq => match l.two, l'.two with
        | some p, some q => ((p.1 = q.1 ∧ p.2 = q.2) → Φ (.bool true)) ∧ (¬(p.1 = q.1 ∧ p.2 = q.2) → Φ (.bool false))
        | _, _ => False
      | _ => False
    | _ => False
  | _ => False
noncomputable def truw : AV → Prop → Prop → Prop
  | .bool true, T, _ => T
  | .bool false, _, F => F
  | .int x, T, F => (x ≠ 0 → T) ∧ (x = 0 → F)
  | _, _, _ => False
noncomputable def isnw : AV → (AV → Prop) → Prop
  | .none, Φ => Φ (.bool true)
  | .tup _, Φ => Φ (.bool false)
  | _, _ => False
noncomputable def attrw : AV → Nat → (AV → Prop) → Prop
  | .fq _ _ x, 0, Φ => Φ (.int x)
  | .fq _ P _, 1, Φ => Φ (.int P)
  | _, _, _ => False
structure Wp where
  e : Rho → (AV → Prop) → Prop
  c : Rho → Prop → Prop → Prop
noncomputable def pl (e : Rho → (AV → Prop) → Prop) : Wp := ⟨e, fun ρ T F => e ρ fun av => truw av T F⟩
noncomputable def W : ME → Wp
  | .v i => pl fun ρ Φ => match lk ρ i with | some a => Φ a | none => False
  | .lit n => pl fun _ Φ => Φ (.int n)
  | .none => pl fun _ Φ => Φ .none
  | .bin op a b => pl fun ρ Φ => (W a).e ρ fun x => (W b).e ρ fun y => binw CO op x y Φ
  | .pow a k => pl fun ρ Φ => (W a).e ρ fun x => poww CO x k Φ
  | .neg a => pl fun ρ Φ => (W a).e ρ fun x => negw CO x Φ
  | .item a i => pl fun ρ Φ => (W a).e ρ fun x => itemw x i Φ
  | .tup l => pl fun ρ Φ => (W l).e ρ fun x => Φ (.tup x)
  | .lnil => pl fun _ Φ => Φ .lnil
  | .lcons a l => pl fun ρ Φ => (W a).e ρ fun x => (W l).e ρ fun y => Φ (.lcons x y)
  | .call f l => pl fun ρ Φ => (W l).e ρ fun x => CO f x Φ
  | .callv i l => pl fun ρ Φ => match lk ρ i with | some (.fn f) => (W l).e ρ fun x => CO f x Φ | _ => False
  | .toint a => pl fun ρ Φ => (W a).e ρ fun x => match x with | .int n => Φ (.int n) | _ => False
  | .totup a => pl fun ρ Φ => (W a).e ρ fun x => match x with | .tup n => Φ (.tup n) | _ => False
  | .cmp op a b => pl fun ρ Φ => (W a).e ρ fun x => (W b).e ρ fun y => cmpw CO op x y Φ
  | .isnone a => pl fun ρ Φ => (W a).e ρ fun x => isnw x Φ
  | .ite c a b => ⟨fun ρ Φ => (W c).c ρ ((W a).e ρ Φ) ((W b).e ρ Φ), fun _ _ _ => False⟩
  | .idx a b => pl fun ρ Φ => (W a).e ρ fun x => (W b).e ρ fun y => idxw x y Φ
  | .lst l => pl fun ρ Φ => (W l).e ρ fun x => Φ (.lst x)
  | .call0 f => pl fun _ Φ => CO f .lnil Φ
  | .fnv f => pl fun _ Φ => Φ (.fn f)
  | .not a => ⟨fun _ _ => False, fun ρ T F => (W a).c ρ F T⟩
  | .or a b => ⟨fun _ _ => False, fun ρ T F => (W a).c ρ T ((W b).c ρ T F)⟩
  | .and a b => ⟨fun _ _ => False, fun ρ T F => (W a).c ρ ((W b).c ρ T F) F⟩
  | .meth a nm l => pl fun ρ Φ => (W a).e ρ fun x => match x with
    | .fq c P n => match methA c nm with
      | some f => (W l).e ρ fun y => CO f (.lcons (.fq c P n) y) Φ
      | none => False
    | _ => False
  | .attr a nm => pl fun ρ Φ => (W a).e ρ fun x => attrw x nm Φ
  | .isint a => pl fun ρ Φ => (W a).e ρ fun x => match x with | .int _ => Φ (.bool true) | _ => False
  | .iscls a C => pl fun ρ Φ => (W a).e ρ fun x => match x with | .int _ => Φ (.bool false) | .fq c _ _ => clsA c = C ∧ Φ (.bool true) | _ => False
noncomputable def unpw : List Nat → AV → Rho → (Rho → Prop) → Prop
  | [], .lnil, ρ, N => N ρ
  | i :: is, .lcons a l, ρ, N => unpw is l ((i, a) :: ρ) N
  | _, _, _, _ => False
noncomputable def xw : MS → Rho → (AV → Prop) → (Rho → Prop) → Prop
  | .nil, ρ, _, N => N ρ
  | .asg i e k, ρ, R, N => (W CO e).e ρ fun av => xw k ((i, av) :: ρ) R N
  | .unp is e k, ρ, R, N => (W CO e).e ρ fun av => match av with
    | .tup l => unpw is l ρ fun ρ' => xw k ρ' R N
    | _ => False
  | .swp i j e k, ρ, R, N => (W CO e).e ρ fun av => match av with
    | .tup (.lcons x (.lcons y .lnil)) => xw k ((i, x) :: (j, y) :: ρ) R N
    | _ => False
  | .iff c a b k, ρ, R, N => (W CO c).c ρ (xw a ρ R fun ρ' => xw k ρ' R N) (xw b ρ R fun ρ' => xw k ρ' R N)
  | .ret e, ρ, R, _ => (W CO e).e ρ R
  | .fail, _, _, _ => False
end
end
section
structure Here where
  p : Program
  loose : List Str
  mean : ExcName → Option Value
  mg : Str → Option Value
  mb : Str → Option Value
  dp : Nat
  un : Nat
  gd : Option (List Code)
  cn : Str
  cs : Scope
  a : Addr
  ccd : Value
  outer : List Env
  A₀ : Around
  base : Heap
  h₀ : Heap
  L : Addr
  cl : List (Str × Addr) := []
noncomputable abbrev Here.env (H : Here) : Env := envX H.cn H.cs H.L H.a H.ccd H.cl
noncomputable abbrev Here.A (H : Here) : Around := ktrTop H.dp H.un H.gd H.cn H.cs H.L H.a H.ccd H.cl H.outer
noncomputable def Cont (H : Here) (w : World) (m : Str → Option Value) (led : Led) (s : Shared) (Φ : AV → Prop) (Q : Value → Shared → Prop) : Prop :=
  ∀ v av h' tk' led', Fr H.h₀ H.L h' m → News H.h₀ H.L h' led' → (∀ p ∈ led, p ∈ led') → Rep w led' v av → Φ av → Q v { s with heap := h', toks := tk' }
structure Here.Ok (H : Here) (prog : Program) (w : World) (CO : Addr → AV → (AV → Prop) → Prop) : Prop where
  X : (hd.heap_1 w.params).In H.h₀
  T : Top H.p H.loose H.mean H.mg H.mb H.h₀
  hk : H.cs.kind = .function
  hu : H.un < 9000
  co : ∀ {f : Addr} {l : AV} {Φ : AV → Prop}, CO f l Φ → ∀ {vs : List Value} {led : Led} {s : Shared} {m : Str → Option Value} {Q E : Value → Shared → Prop}, Fr H.h₀ H.L s.heap m → News H.h₀ H.L s.heap led → Reps w led vs l → Cont H w m led s Φ Q → wpAny (model prog w) H.A (call (.ref f) vs) Q E s
noncomputable def idx (x : Str) : List Str → Option Nat
  | [] => none
  | y :: r => if y = x then some 0 else (idx x r).map (· + 1)
noncomputable def EnvR (w : World) (ns : List Str) (led : Led) (m : Str → Option Value) (ρ : Rho) : Prop :=
  ∀ x i a, idx x ns = some i → lk ρ i = some a → ∃ v, m x = some v ∧ Rep w led v a
section
variable {H : Here} {prog : Program} {w : World} {CO : Addr → AV → (AV → Prop) → Prop} {ns : List Str} {m : Str → Option Value} {led : Led} {s : Shared} {ρ : Rho} {Φ : AV → Prop} {Q E : Value → Shared → Prop}
theorem cmpBack_of {r : Value} {av : AV} {led' : Led} {s' : Shared} (h : Rep w led' r av) (q : Q r s') : W.CmpBack Q r s' := by
  cases h <;> exact q
theorem acon_ok (O : H.Ok prog w CO) {f : Addr} {l : AV} {vs : List Value} (hA : CO f l Φ) (F : Fr H.h₀ H.L s.heap m) (N : News H.h₀ H.L s.heap led) (hr : Reps w led vs l) (k : Cont H w m led s Φ Q) :
    wpAny (model prog w) H.A (call (.ref f) vs) Q E s := O.co hA F N hr k
theorem acon_co {D U : Nat} (B : Below H.A₀ H.base H.outer H.h₀) (X : (hd.heap_1 w.params).In H.h₀) (T : Top H.p H.loose H.mean H.mg H.mb H.h₀) (hk : H.cs.kind = .function) (hd : H.dp + D < 900) (hu : H.un + U < 9000) {f : Addr} {l : AV} {vs : List Value} (hA : ACon prog w D U f l Φ) (F : Fr H.h₀ H.L s.heap m) (N : News H.h₀ H.L s.heap led) (hr : Reps w led vs l) (k : Cont H w m led s Φ Q) :
    wpAny (model prog w) H.A (call (.ref f) vs) Q E s :=
  con_use (hA.run _ _ hr) B F X N T hk hd hu (fun r tl h' tk' F' N' ⟨av, R, P⟩ => k r av h' tk' _ F' N' (fun p hp => List.mem_append_right _ hp) R P)
theorem Cont.cmpBack (k : Cont H w m led s Φ Q) : Cont H w m led s Φ (W.CmpBack Q) := fun v av h' tk' led' F N hs R P => cmpBack_of R (k v av h' tk' led' F N hs R P)
theorem Cont.keep (k : Cont H w m led s Φ Q) {v : Value} {av : AV} {tk' : Nat} (F : Fr H.h₀ H.L s.heap m) (N : News H.h₀ H.L s.heap led) (R : Rep w led v av) (P : Φ av) : Q v { s with toks := tk' } :=
  k v av s.heap tk' led F N (fun _ h => h) R P
theorem Cont.keep' (k : Cont H w m led s Φ Q) {v : Value} {av : AV} (F : Fr H.h₀ H.L s.heap m) (N : News H.h₀ H.L s.heap led) (R : Rep w led v av) (P : Φ av) : Q v s :=
  k v av s.heap s.toks led F N (fun _ h => h) R P
theorem selfFirst_c (w : World) : ∀ c, selfFirst (hd.heap_1 w.params) (clsA c) = true := by intro c; cases c <;> kernel_rfl
theorem opA_find (w : World) {c : Bool} {op : Operator} {f : Addr} (h : opA c op = some f) : findIn (hd.heap_1 w.params) (.ref (clsA c)) (dunder op.info.snd) = some (some (.ref f)) ∧ isFn (hd.heap_1 w.params) (.ref f) = true := by
  cases c <;> cases op <;> first | (cases h; exact ⟨by kernel_rfl, by kernel_rfl⟩) | (cases h; done)
theorem powA_find (w : World) {c : Bool} {f : Addr} (h : powA c = some f) : findIn (hd.heap_1 w.params) (.ref (clsA c)) (dunder Operator.Pow.info.snd) = some (some (.ref f)) ∧ isFn (hd.heap_1 w.params) (.ref f) = true := by
  cases c <;> first | (cases h; exact ⟨by kernel_rfl, by kernel_rfl⟩) | (cases h; done)
theorem negA_find (w : World) {c : Bool} {f : Addr} (h : negA c = some f) : findIn (hd.heap_1 w.params) (.ref (clsA c)) (Str.ofString "__neg__") = some (some (.ref f)) ∧ isFn (hd.heap_1 w.params) (.ref f) = true := by
  cases c <;> first | (cases h; exact ⟨by kernel_rfl, by kernel_rfl⟩) | (cases h; done)
theorem eqA_find (w : World) (c : Bool) : findIn (hd.heap_1 w.params) (.ref (clsA c)) (cmpInfo .Eq).snd.fst = some (some (.ref (eqA c))) ∧ isFn (hd.heap_1 w.params) (.ref (eqA c)) = true ∧ notFirst (hd.heap_1 w.params) (clsA c) (.ref (clsA c)) = true := by
  cases c <;> exact ⟨by kernel_rfl, by kernel_rfl, by kernel_rfl⟩
theorem mulA_find (w : World) (c : Bool) : ∃ f0, findIn (hd.heap_1 w.params) (.ref (clsA c)) "__mul__" = some (some (.ref f0)) ∧ findIn (hd.heap_1 w.params) (.ref (clsA c)) "__rmul__" = some (some (.ref (rmulA c))) ∧ isFn (hd.heap_1 w.params) (.ref (rmulA c)) = true ∧ subIn (hd.heap_1 w.params) (.ref (clsA c)) (.type "int") = some false := by
  cases c
  · exact ⟨287, by kernel_rfl, by kernel_rfl, by kernel_rfl, by kernel_rfl⟩
  · exact ⟨140, by kernel_rfl, by kernel_rfl, by kernel_rfl, by kernel_rfl⟩
theorem Rep.inst {v : Value} {c : Bool} {P n : Int} {h₀ h : Heap} {L : Addr} (R : Rep w led v (.fq c P n)) (N : News h₀ L h led) : ∃ x d k1 k2 t1 t2, v = .ref x ∧ W.InstAt h x (instObj (clsA c) d) (clsA c) (some (fqD w P n k1 k2 t1 t2)) ∧ (x, instObj (clsA c) d) ∈ led ∧ (d, fqD w P n k1 k2 t1 t2) ∈ led := by
  cases R with
  | fq h1 h2 hp h0 h1' => exact ⟨_, _, _, _, _, _, rfl, InstAt.of_news N h1 h2, h1, h2⟩
theorem Reps.one {v : Value} {a : AV} (h : Rep w led v a) : Reps w led [v] (.lcons a .lnil) := .cons h .nil
theorem Reps.two {v u : Value} {a b : AV} (h : Rep w led v a) (g : Rep w led u b) : Reps w led [v, u] (.lcons a (.lcons b .lnil)) := .cons h (.cons g .nil)
theorem opfq_ok (O : H.Ok prog w CO) {op : Operator} {c : Bool} {P n : Int} {f : Addr} {y : AV} {vx vy : Value} (ho : opA c op = some f) (hA : CO f (.lcons (.fq c P n) (.lcons y .lnil)) Φ)
    (F : Fr H.h₀ H.L s.heap m) (N : News H.h₀ H.L s.heap led) (hx : Rep w led vx (.fq c P n)) (hy : Rep w led vy y) (ht : Looks (model prog w) s.heap (typeOf vy) (.ref (clsA c))) (k : Cont H w m led s Φ Q) :
    wpAny (model prog w) H.A (binaryOp op vx vy) Q E s := by
  obtain ⟨x, d, k1, k2, t1, t2, rfl, I, m1, m2⟩ := hx.inst N
  obtain ⟨g1, g2⟩ := opA_find w ho
  exact binop_K F O.X I ht (selfFirst_c w c) g1 g2 (acon_ok O hA F N (.two hx hy) k.cmpBack)
theorem intR_find (w : World) (c : Bool) : ∃ rc fo ro, findIn (hd.heap_1 w.params) (.ref (clsA c)) (PySem.dunder Operator.Mult.info.snd) = some (some (.ref (mulA c))) ∧ isFn (hd.heap_1 w.params) (.ref (mulA c)) = true ∧ findIn (hd.heap_1 w.params) (.ref (clsA c)) (dunderR Operator.Mult.info.snd) = some rc ∧ (rc = none ∨ ∃ g, rc = some (Value.ref g)) ∧
    findIn (hd.heap_1 w.params) (.type "int") (PySem.dunder Operator.Mult.info.snd) = some fo ∧ findIn (hd.heap_1 w.params) (.type "int") (dunderR Operator.Mult.info.snd) = some ro := by
  have a : (findIn (hd.heap_1 w.params) (.type "int") (PySem.dunder Operator.Mult.info.snd)).isSome = true := by kernel_rfl
  have b : (findIn (hd.heap_1 w.params) (.type "int") (dunderR Operator.Mult.info.snd)).isSome = true := by kernel_rfl
  obtain ⟨fo, a⟩ := Option.isSome_iff_exists.mp a
  obtain ⟨ro, b⟩ := Option.isSome_iff_exists.mp b
  refine ⟨some (.ref (rmulA c)), fo, ro, ?_, ?_, ?_, .inr ⟨_, rfl⟩, a, b⟩ <;> (cases c <;> kernel_rfl)
theorem powR_find (w : World) {c : Bool} {f : Addr} (h : powA c = some f) : ∃ rc fo ro, findIn (hd.heap_1 w.params) (.ref (clsA c)) (PySem.dunder Operator.Pow.info.snd) = some (some (.ref f)) ∧ isFn (hd.heap_1 w.params) (.ref f) = true ∧ findIn (hd.heap_1 w.params) (.ref (clsA c)) (dunderR Operator.Pow.info.snd) = some rc ∧ (rc = none ∨ ∃ g, rc = some (Value.ref g)) ∧
    findIn (hd.heap_1 w.params) (.type "int") (PySem.dunder Operator.Pow.info.snd) = some fo ∧ findIn (hd.heap_1 w.params) (.type "int") (dunderR Operator.Pow.info.snd) = some ro := by
  have a : (findIn (hd.heap_1 w.params) (.type "int") (PySem.dunder Operator.Pow.info.snd)).isSome = true := by kernel_rfl
  have b : (findIn (hd.heap_1 w.params) (.type "int") (dunderR Operator.Pow.info.snd)).isSome = true := by kernel_rfl
  obtain ⟨fo, a⟩ := Option.isSome_iff_exists.mp a
  obtain ⟨ro, b⟩ := Option.isSome_iff_exists.mp b
  cases c
  · cases h
  · cases h
    exact ⟨none, fo, ro, by kernel_rfl, by kernel_rfl, by kernel_rfl, .inl rfl, a, b⟩
theorem subInt (w : World) (c : Bool) : subIn (hd.heap_1 w.params) (.type "int") (.ref (clsA c)) = some false := by cases c <;> kernel_rfl
theorem binw_ok (O : H.Ok prog w CO) {op : Operator} {x y : AV} {vx vy : Value} (hW : binw CO op x y Φ)
    (F : Fr H.h₀ H.L s.heap m) (N : News H.h₀ H.L s.heap led) (hx : Rep w led vx x) (hy : Rep w led vy y) (k : Cont H w m led s Φ Q) :
    wpAny (model prog w) H.A (binaryOp op vx vy) Q E s := by
  cases x with
  | int a =>
    cases y with
    | int b =>
      cases hx; cases hy
      cases op with
      | Add => exact add_int (k.keep F N .int hW)
      | Sub => exact sub_int (k.keep F N .int hW)
      | Mult => exact mul_g (hW.1.imp (fun h => ⟨h.lo, h.hi⟩) fun h => ⟨h.lo, h.hi⟩) (k.keep F N .int hW.2)
      | Mod => exact mod_g hW.1 fun r e h0 h1 => k.keep F N .int (hW.2 r e h0 h1)
      | FloorDiv => exact fdiv_g hW.1.1 hW.1.2.1 hW.1.2.2 fun r e h0 h1 => k.keep F N .int (hW.2 r e h0 h1)
      | _ => exact hW.elim
    | fq c P n =>
      cases hx
      obtain ⟨x, d, k1, k2, t1, t2, rfl, I, m1, m2⟩ := hy.inst N
      obtain ⟨f0, a1, a2, a3, a4⟩ := mulA_find w c
      cases op with
      | Mult => exact rmul_N F O.X N m1 m2 (selfFirst_c w c) a1 a2 a3 a4 (acon_ok O hW F N (.two hy .int) k.cmpBack)
      | _ => exact hW.elim
    | _ => exact hW.elim
  | fq c P n =>
    cases y with
    | int kk =>
      cases hy
      obtain ⟨x, d, k1, k2, t1, t2, rfl, I, m1, m2⟩ := hx.inst N
      cases op with
      | Mult =>
        obtain ⟨rc, fo, ro, a1, a2, a3, a4, a5, a6⟩ := intR_find w c
        exact ksp_binT F O.X I rfl (selfFirst_c w c) a1 a2 a3 a4 a5 a6 (subInt w c) (acon_ok O hW F N (.two hx .int) k.cmpBack)
      | Pow =>
        cases c with
        | false => exact hW.elim
        | true =>
          obtain ⟨rc, fo, ro, a1, a2, a3, a4, a5, a6⟩ := powR_find w (c := true) rfl
          exact ksp_binT F O.X I rfl (selfFirst_c w true) a1 a2 a3 a4 a5 a6 (subInt w true) (acon_ok O hW F N (.two hx .int) k.cmpBack)
      | _ => exact hW.elim
    | fq c' P' n' =>
      cases ho : opA c op with
      | none =>
        change (match opA c op with | some f => c = c' ∧ CO f (.lcons (.fq c P n) (.lcons (.fq c' P' n') .lnil)) Φ | none => False) at hW
        rw [ho] at hW
        exact hW.elim
      | some f =>
        change (match opA c op with | some f => c = c' ∧ CO f (.lcons (.fq c P n) (.lcons (.fq c' P' n') .lnil)) Φ | none => False) at hW
        rw [ho] at hW
        obtain ⟨rfl, hA⟩ := hW
        obtain ⟨y, d, k1, k2, t1, t2, rfl, I, m1, m2⟩ := hy.inst N
        exact opfq_ok O ho hA F N hx hy I.type k
    | _ => exact hW.elim
  | lst la =>
    cases y with
    | lst lb =>
      cases op with
      | Add =>
        cases hx with
        | lst ha ra => cases hy with
          | lst hb rb =>
            refine kmk_add_lit F N (News.isList N ha) (News.isList N hb) rfl (fun D' h' F' N' _ => ?_) ?_
            · exact k _ _ h' _ _ F' N' (fun p hp => List.mem_cons_of_mem _ hp) (.lst (List.mem_cons_self ..) ((ra.app rb).mono fun p hp => List.mem_cons_of_mem _ hp)) hW.2
            · have h1 := ra.len
              have h2 := rb.len
              have h3 : (1000 : Nat) ≤ sizeLine := by decide
              have h4 := hW.1
              simp only [List.toList_toArray]
              omega
      | _ => exact hW.elim
    | _ => exact hW.elim
  | _ => exact hW.elim
theorem poww_ok (O : H.Ok prog w CO) {x : AV} {vx : Value} {kk : Nat} {tk : Tok} (hW : poww CO x kk Φ)
    (F : Fr H.h₀ H.L s.heap m) (N : News H.h₀ H.L s.heap led) (hx : Rep w led vx x) (k : Cont H w m led s Φ Q) :
    wpAny (model prog w) H.A (binaryOp .Pow vx (.int kk tk)) Q E s := by
  cases x with
  | int a => cases hx; exact pow_g kk rfl hW.1.1 ⟨hW.1.2.lo, hW.1.2.hi⟩ (k.keep F N .int hW.2)
  | fq c P n =>
    obtain ⟨x, d, k1, k2, t1, t2, rfl, I, m1, m2⟩ := hx.inst N
    cases c with
    | false => exact hW.elim
    | true =>
      obtain ⟨rc, fo, ro, a1, a2, a3, a4, a5, a6⟩ := powR_find w (c := true) rfl
      exact ksp_binT F O.X I rfl (selfFirst_c w true) a1 a2 a3 a4 a5 a6 (subInt w true) (acon_ok O hW F N (.two hx .int) k.cmpBack)
  | _ => exact hW.elim
theorem negw_ok (O : H.Ok prog w CO) {x : AV} {vx : Value} (hW : negw CO x Φ)
    (F : Fr H.h₀ H.L s.heap m) (N : News H.h₀ H.L s.heap led) (hx : Rep w led vx x) (k : Cont H w m led s Φ Q) :
    wpAny (model prog w) H.A (unaryOp .USub vx) Q E s := by
  cases x with
  | int a => cases hx; exact PyProof.Rows.neg_int (k.keep F N .int hW)
  | fq c P n =>
    obtain ⟨x, d, k1, k2, t1, t2, rfl, I, m1, m2⟩ := hx.inst N
    cases c with
    | false => exact hW.elim
    | true =>
      obtain ⟨g1, g2⟩ := negA_find w (c := true) rfl
      exact ksp_neg F O.X I g1 g2 (acon_ok O hW F N (.one hx) k)
  | _ => exact hW.elim
theorem units_lt (O : H.Ok prog w CO) : H.A.units + 64 < cLine := by
  have h := O.hu
  have e : H.A.units = H.un := rfl
  have c := cLine_is
  rw [e]; omega
theorem reads2 {h₀ h : Heap} {L : Addr} {v : Value} {l : AV} {p : Int × Int} (R : Rep w led v (.tup l)) (hl : l.two = some p) (N : News h₀ L h led) : Reads h v (.tuple [.int p.1, .int p.2]) [] := by
  cases R with
  | tup hm hr =>
    cases hr with
    | nil => cases hl
    | cons a b => cases a <;> first | (cases hl; done) | skip
                  cases b with
      | nil => cases hl
      | cons c d => cases c <;> first | (cases hl; done) | skip
                    cases d with
        | nil => cases hl; exact reads_tuple_at (N.get hm) rfl rfl (.cons (.int ..) (.cons (.int ..) .nil))
        | cons => cases hl
theorem cmpw_ok (O : H.Ok prog w CO) {op : CmpOp} {x y : AV} {vx vy : Value} (hW : cmpw CO op x y Φ)
    (F : Fr H.h₀ H.L s.heap m) (N : News H.h₀ H.L s.heap led) (hx : Rep w led vx x) (hy : Rep w led vy y) (k : Cont H w m led s Φ Q) :
    wpAny (model prog w) H.A (compareOp op vx vy) Q E s := by
  cases x with
  | int x =>
    cases y with
    | int y =>
      cases hx; cases hy
      cases op with
      | Eq =>
        refine eq_int (k.keep' F N .bool ?_)
        by_cases e : x = y
        · rw [beq_iff_eq.mpr e]; exact hW.1 e
        · rw [beq_false_of_ne e]; exact hW.2 e
      | NotEq =>
        refine ne_int (k.keep' F N .bool ?_)
        by_cases e : x = y
        · rw [show (x != y) = false by rw [bne, beq_iff_eq.mpr e]; rfl]; exact hW.1 e
        · rw [show (x != y) = true by rw [bne, beq_false_of_ne e]; rfl]; exact hW.2 e
      | Lt =>
        refine lt_int (k.keep' F N .bool ?_)
        by_cases e : x < y
        · rw [decide_eq_true e]; exact hW.1 e
        · rw [decide_eq_false e]; exact hW.2 (by omega)
      | GtE =>
        refine ge_int (k.keep' F N .bool ?_)
        by_cases e : y ≤ x
        · rw [decide_eq_true e]; exact hW.1 e
        · rw [decide_eq_false e]; exact hW.2 (by omega)
      | _ => exact hW.elim
    | _ => exact hW.elim
  | fq c P n =>
    cases y with
    | fq c' P' n' =>
      cases op with
      | Eq =>
        obtain ⟨rfl, hA⟩ := hW
        obtain ⟨x, d, k1, k2, t1, t2, rfl, I, m1, m2⟩ := hx.inst N
        obtain ⟨y, d', k1', k2', t1', t2', rfl, I', m1', m2'⟩ := hy.inst N
        obtain ⟨g1, g2, g3⟩ := eqA_find w c
        exact cmp_ofEq (cmp_K (by have h := units_lt O; omega) F O.X I I'.type g3 g1 g2 (acon_ok O hA F N (.two hx hy) k.cmpBack))
      | _ => exact hW.elim
    | _ => exact hW.elim
  | tup l =>
    cases y with
    | tup l' =>
      cases op with
      | Eq =>
        change (match l.two, l'.two with | some p, some q => ((p.1 = q.1 ∧ p.2 = q.2) → Φ (.bool true)) ∧ (¬(p.1 = q.1 ∧ p.2 = q.2) → Φ (.bool false)) | _, _ => False) at hW
        cases h1 : l.two with
        | none => rw [h1] at hW; exact hW.elim
        | some p =>
          cases h2 : l'.two with
          | none => rw [h1, h2] at hW; exact hW.elim
          | some q =>
            rw [h1, h2] at hW
            obtain ⟨x, y⟩ := p
            obtain ⟨x', y'⟩ := q
            refine eq_dataH (reads2 hx h1 N) (reads2 hy h2 N) (by rfl) (by rfl) (units_lt O) (k.keep' F N .bool ?_)
            by_cases e : x = x' ∧ y = y'
            · rw [show PyData.eqv (.tuple [.int x, .int y]) (.tuple [.int x', .int y']) = true by simp [PyData.eqv, PyData.eqvAll, e.1, e.2]]
              exact hW.1 e
            · rw [show PyData.eqv (.tuple [.int x, .int y]) (.tuple [.int x', .int y']) = false by
                simp [PyData.eqv, PyData.eqvAll]; omega]
              exact hW.2 e
      | _ => exact hW.elim
    | _ => exact hW.elim
  | _ => exact hW.elim
end
end
section
/-- the compiler of expressions -/
noncomputable def gname (K : Frag) (cs : Scope) (x : Str) : Option Value :=
  if cs.names.lookup x = some .globalImplicit ∧ (x == Str.ofString "__debug__") = false then
    match nsIn K mainGlobals x with
    | some (some v) => some v
    | some none => if x = Str.ofString "__name__" then none else bootBuiltins x
    | none => none
  else none
noncomputable def lname (cs : Scope) (ns : List Str) (x : Str) : Option Nat :=
  if cs.names.lookup x = some .local ∧ (x == Str.ofString "__debug__") = false then idx x ns else none
noncomputable def cl (c : PySem.Expr → Option ME) : List PySem.Expr → Option ME
  | [] => some .lnil
  | e :: r => match c e, cl c r with
    | some a, some l => some (.lcons a l)
    | _, _ => none
noncomputable def simpleBase : PySem.Expr → Bool
  | .Name .. => true
  | .Subscript .. => true
  | _ => false
noncomputable def mname (x : Str) : Option Nat := if x = Str.ofString "made" then some 0 else if x = Str.ofString "one" then some 1 else if x = Str.ofString "zero" then some 2 else none
noncomputable def aname (x : Str) : Option Nat := if x = Str.ofString "n" then some 0 else if x = Str.ofString "field_modulus" then some 1 else none
noncomputable def intC : PySem.Expr → Option Int
  | .Constant c _ _ => match c with
    | .int i => some i
    | _ => none
  | _ => none
noncomputable def litI : PySem.Expr → Option Int
  | .UnaryOp op e _ => match op with
    | .USub => (intC e).map fun i => -i
    | _ => none
  | e => intC e
noncomputable def oMap2 (f : ME → ME → ME) (x y : Option ME) : Option ME := x.bind fun a => y.map (f a)
theorem oMap2_some {f : ME → ME → ME} {x y : Option ME} {m : ME} (h : oMap2 f x y = some m) : ∃ a b, x = some a ∧ y = some b ∧ f a b = m := by
  obtain ⟨a, ha, h⟩ := Option.bind_eq_some_iff.mp h
  obtain ⟨b, hb, h⟩ := Option.map_eq_some_iff.mp h
  exact ⟨a, b, ha, hb, h⟩
noncomputable def oIf (c : Prop) [Decidable c] {α : Type} (x : Option α) : Option α := if c then x else none
theorem oIf_some {c : Prop} [Decidable c] {α : Type} {x : Option α} {m : α} (h : oIf c x = some m) : c ∧ x = some m := by
  unfold oIf at h
  by_cases hc : c
  · rw [if_pos hc] at h; exact ⟨hc, h⟩
  · rw [if_neg hc] at h; cases h
/-- two by two: what was found, or what to say else -/
noncomputable def callObj (K : Frag) (c : PySem.Expr → Option ME) (es : List PySem.Expr) (f : Addr) : Option ME := oIf (keepIn K (.ref f) = true) (match es with
  | [] => some (.call0 f)
  | e :: r => (cl c (e :: r)).map (.call f))
noncomputable def callTyp (c : PySem.Expr → Option ME) (e : PySem.Expr) (T : String) : Option ME := if T = "int" then (c e).map .toint else oIf (T = "tuple") ((c e).map .totup)
noncomputable def isiOf (c : PySem.Expr → Option ME) (e : PySem.Expr) (v : Value) : Option ME := match v with
  | .ref C => oIf (C = 255 ∨ C = 417) ((c e).map (.iscls · C))
  | .type T => oIf (T = "int") ((c e).map .isint)
  | _ => none
noncomputable def nameOf : PySem.Expr → Option Str
  | .Name y _ => some y
  | _ => none
noncomputable def callVal (K : Frag) (cs : Scope) (c : PySem.Expr → Option ME) (es : List PySem.Expr) (v : Value) : Option ME := match v with
  | .ref f => callObj K c es f
  | .type T => match es with
    | [e] => callTyp c e T
    | _ => none
  | .builtin b => match es with
    | [e, n] => oIf (b = "isinstance") ((nameOf n).bind fun y => (gname K cs y).bind (isiOf c e))
    | _ => none
  | _ => none
noncomputable def callKind (K : Frag) (cs : Scope) (ns : List Str) (x : Str) (c : PySem.Expr → Option ME) (es : List PySem.Expr) : Option ME :=
  match lname cs ns x with
  | some i => oIf (es ≠ []) ((cl c es).map (.callv i))
  | none => (gname K cs x).bind (callVal K cs c es)
noncomputable def compName (K : Frag) (cs : Scope) (ns : List Str) (x : Str) : Option ME := match lname cs ns x with
  | some i => some (.v i)
  | none => (gname K cs x).bind fun v => match v with
    | .ref f => oIf (keepIn K (.ref f) = true) (some (.fnv f))
    | _ => none
noncomputable def compBin (c : PySem.Expr → Option ME) (op : Operator) (l r : PySem.Expr) : Option ME := match litI r with
  | some i => if op = .Pow then oIf (0 ≤ i) ((c l).map (.pow · i.toNat)) else oMap2 (.bin op) (c l) (c r)
  | none => oMap2 (.bin op) (c l) (c r)
noncomputable def compSub (c : PySem.Expr → Option ME) (v i : PySem.Expr) : Option ME := match litI i with
  | some i => oIf (-100 < i ∧ i < 100) ((c v).map (.item · i))
  | none => oMap2 .idx (c v) (c i)
noncomputable def isNone : ME → Bool
  | .none => true
  | _ => false
noncomputable def compCmp (c : PySem.Expr → Option ME) (op : CmpOp) (l r : PySem.Expr) : Option ME := (c l).bind fun a => (c r).map fun b => if op = .Is ∧ isNone b = true then .isnone a else .cmp op a b
noncomputable def compMeth (c : PySem.Expr → Option ME) (o : PySem.Expr) (nm : Str) (line line' : Nat) (es : List PySem.Expr) : Option ME := (mname nm).bind fun k => oIf (simpleBase o = true ∧ (line == line') = true ∧ es.length < 10) (oMap2 (.meth · k ·) (c o) (cl c es))
noncomputable def comp (K : Frag) (cs : Scope) (ns : List Str) : Nat → PySem.Expr → Option ME
  | 0, _ => none
  | n + 1, e => match e with
    | .Name x _ => compName K cs ns x
    | .Constant c _ _ => match c with
      | .int i => some (.lit i)
      | .none => some .none
      | _ => none
    | .BinOp l op r _ => compBin (comp K cs ns n) op l r
    | .UnaryOp op x _ => match op with
      | .USub => (comp K cs ns n x).map .neg
      | .Not => (comp K cs ns n x).map .not
      | _ => none
    | .Subscript v i _ => compSub (comp K cs ns n) v i
    | .List es _ => oIf (es.length < 100) ((cl (comp K cs ns n) es).map .lst)
    | .Tuple es _ _ => oIf (es.length < 100) ((cl (comp K cs ns n) es).map .tup)
    | .Compare l ops rs _ => match ops with
      | [op] => match rs with
        | [r] => compCmp (comp K cs ns n) op l r
        | _ => none
      | _ => none
    | .BoolOp op es _ => match es with
      | [x, y] => oMap2 (match op with | .Or => .or | .And => .and) (comp K cs ns n x) (comp K cs ns n y)
      | _ => none
    | .IfExp t a b _ => (comp K cs ns n t).bind fun t => oMap2 (.ite t) (comp K cs ns n a) (comp K cs ns n b)
    | .Call f es kws pos => match kws with
      | [] => match f with
        | .Name x _ => callKind K cs ns x (comp K cs ns n) es
        | .Attribute o nm apos => compMeth (comp K cs ns n) o nm apos.endLine pos.line es
        | _ => none
      | _ => none
    | .Attribute o nm _ => (aname nm).bind fun k => oIf (simpleBase o = true) ((comp K cs ns n o).map (.attr · k))
    | _ => none

section
variable (H : Here) (prog : Program) (w : World) (CO : Addr → AV → (AV → Prop) → Prop) (ns : List Str)
noncomputable def Ev (e : PySem.Expr) (me : ME) : Prop := ∀ {ρ : Rho} {Φ : AV → Prop} {s : Shared} {led : Led} {m : Str → Option Value} {Q E : Value → Shared → Prop}, (W CO me).e ρ Φ → Fr H.h₀ H.L s.heap m → News H.h₀ H.L s.heap led → EnvR w ns led m ρ →
  Cont H w m led s Φ Q → wpAny (model prog w) H.A (eval e H.env) Q E s
noncomputable def ContB (m : Str → Option Value) (led : Led) (s : Shared) (T F : Prop) (Q : Bool → Shared → Prop) : Prop :=
  ∀ h' tk' led', Fr H.h₀ H.L h' m → News H.h₀ H.L h' led' → (∀ p ∈ led, p ∈ led') → (T → Q true { s with heap := h', toks := tk' }) ∧ (F → Q false { s with heap := h', toks := tk' })
noncomputable def Cv (e : PySem.Expr) (me : ME) : Prop := ∀ {ρ : Rho} {T F : Prop} {s : Shared} {led : Led} {m : Str → Option Value} {Q : Bool → Shared → Prop} {E : Value → Shared → Prop}, (W CO me).c ρ T F → Fr H.h₀ H.L s.heap m → News H.h₀ H.L s.heap led → EnvR w ns led m ρ →
  ContB H m led s T F Q → wpAny (model prog w) H.A (PySem.isTrue e H.env (eval e H.env)) Q E s
noncomputable def Lv (es : List PySem.Expr) (me : ME) : Prop := ∀ {pos : Pos} {ρ : Rho} {Φ : AV → Prop} {s : Shared} {led : Led} {m : Str → Option Value} {Q : List Value → Shared → Prop} {E : Value → Shared → Prop}, (W CO me).e ρ Φ → Fr H.h₀ H.L s.heap m → News H.h₀ H.L s.heap led → EnvR w ns led m ρ →
  (∀ vs av h' tk' led', Fr H.h₀ H.L h' m → News H.h₀ H.L h' led' → (∀ p ∈ led, p ∈ led') → Reps w led' vs av → vs.length = es.length → Φ av → Q vs { s with heap := h', toks := tk' }) → wpAny (model prog w) H.A (spliced (backTo pos (starEach es H.env))) Q E s
end
section
variable {H : Here} {prog : Program} {w : World} {CO : Addr → AV → (AV → Prop) → Prop} {ns : List Str}
theorem EnvR.mono {led led' : Led} {m : Str → Option Value} {ρ : Rho} (h : EnvR w ns led m ρ) (s : ∀ p ∈ led, p ∈ led') : EnvR w ns led' m ρ := fun x i a e1 e2 => let ⟨v, e, r⟩ := h x i a e1 e2; ⟨v, e, r.mono s⟩
theorem sub_trans {a b c : Led} (h : ∀ p ∈ a, p ∈ b) (g : ∀ p ∈ b, p ∈ c) : ∀ p ∈ a, p ∈ c := fun p hp => g p (h p hp)
theorem ev_name (O : H.Ok prog w CO) {x : Str} {pos : Pos} {i : Nat} (h : lname H.cs ns x = some i) : Ev H prog w CO ns (.Name x pos) (.v i) := by
  intro ρ Φ s led m Q E hW F N R k
  unfold lname at h
  split at h
  · rename_i hc
    change (match lk ρ i with | some a => Φ a | none => False) at hW
    split at hW
    · rename_i a ha
      obtain ⟨v, hv, hr⟩ := R x i a h ha
      exact nameX_L F hv (k.keep' F N hr hW) O.hk hc.1 hc.2
    · exact hW.elim
  · cases h
theorem ev_lit {i : Int} {kk : Nat} {pos : Pos} : Ev H prog w CO ns (.Constant (.int i) kk pos) (.lit i) := by
  intro ρ Φ s led m Q E hW F N R k
  exact wpAny_Constant_int (k.keep F N .int hW)
theorem ev_none {kk : Nat} {pos : Pos} : Ev H prog w CO ns (.Constant .none kk pos) .none := by
  intro ρ Φ s led m Q E hW F N R k
  exact wpAny_Constant_none (k.keep' F N .none hW)
theorem ev_bin (O : H.Ok prog w CO) {l r : PySem.Expr} {op : Operator} {pos : Pos} {a b : ME} (hl : Ev H prog w CO ns l a) (hr : Ev H prog w CO ns r b) : Ev H prog w CO ns (.BinOp l op r pos) (.bin op a b) := by
  intro ρ Φ s led m Q E hW F N R k
  refine wpAny_BinOp (hl hW F N R fun v av h' tk' led' F' N' hs hv hq => ?_)
  refine hr hq F' N' (R.mono hs) fun u bv h2 tk2 led2 F2 N2 hs2 hu hq2 => ?_
  exact binw_ok O hq2 F2 N2 (hv.mono hs2) hu fun v3 av3 h3 tk3 led3 F3 N3 hs3 hr3 hq3 => k v3 av3 h3 tk3 led3 F3 N3 (sub_trans hs (sub_trans hs2 hs3)) hr3 hq3
theorem intC_is {r : PySem.Expr} {i : Int} (h : intC r = some i) : ∃ k p, r = .Constant (.int i) k p := by
  cases r with
  | Constant c k p => cases c with
    | int j => cases h; exact ⟨_, _, rfl⟩
    | _ => cases h
  | _ => cases h
theorem litI_is {r : PySem.Expr} {i : Int} (h : litI r = some i) : (∃ k p, r = .Constant (.int i) k p) ∨ ∃ j k p q, i = -j ∧ r = .UnaryOp .USub (.Constant (.int j) k p) q := by
  cases r with
  | Constant c k p => exact .inl (intC_is h)
  | UnaryOp op e q => cases op with
    | USub =>
      obtain ⟨j, hj, rfl⟩ := Option.map_eq_some_iff.mp (show (intC e).map (fun i => -i) = some i from h)
      obtain ⟨k, p, rfl⟩ := intC_is hj
      exact .inr ⟨j, k, p, q, rfl, rfl⟩
    | _ => cases h
  | _ => cases h
theorem ev_litI {r : PySem.Expr} {i : Int} (h : litI r = some i) {s : Shared} {Q E : Value → Shared → Prop} (k : ∀ t tk', Q (.int i t) { s with toks := tk' }) : wpAny (model prog w) H.A (eval r H.env) Q E s := by
  rcases litI_is h with ⟨_, _, rfl⟩ | ⟨j, _, _, _, rfl, rfl⟩
  · exact wpAny_Constant_int (k _ _)
  · exact UnaryOp_ (wpAny_Constant_int (PyProof.Rows.neg_int (k _ _)))
theorem ev_pow (O : H.Ok prog w CO) {l r : PySem.Expr} {i : Int} {pos : Pos} {a : ME} (hl : Ev H prog w CO ns l a) (hr : litI r = some i) (h0 : 0 ≤ i) : Ev H prog w CO ns (.BinOp l .Pow r pos) (.pow a i.toNat) := by
  intro ρ Φ s led m Q E hW F N R k
  refine wpAny_BinOp (hl hW F N R fun v av h' tk' led' F' N' hs hv hq => ?_)
  refine ev_litI hr fun t tk2 => ?_
  have e : i = ((i.toNat : Nat) : Int) := by omega
  rw [e]
  exact poww_ok O hq F' N' hv fun v3 av3 h3 tk3 led3 F3 N3 hs3 hr3 hq3 => k v3 av3 h3 tk3 led3 F3 N3 (sub_trans hs hs3) hr3 hq3
theorem ev_neg (O : H.Ok prog w CO) {l : PySem.Expr} {pos : Pos} {a : ME} (hl : Ev H prog w CO ns l a) : Ev H prog w CO ns (.UnaryOp .USub l pos) (.neg a) := by
  intro ρ Φ s led m Q E hW F N R k
  refine UnaryOp_ (hl hW F N R fun v av h' tk' led' F' N' hs hv hq => ?_)
  exact negw_ok O hq F' N' hv fun v3 av3 h3 tk3 led3 F3 N3 hs3 hr3 hq3 => k v3 av3 h3 tk3 led3 F3 N3 (sub_trans hs hs3) hr3 hq3
theorem ev_item {l r : PySem.Expr} {i : Int} {pos : Pos} {a : ME} (hl : Ev H prog w CO ns l a) (hr : litI r = some i) (h0 : -100 < i ∧ i < 100) : Ev H prog w CO ns (.Subscript l r pos) (.item a i) := by
  intro ρ Φ s led m Q E hW F N R k
  refine Subscript_ (hl hW F N R fun v av h' tk' led' F' N' hs hv hq => ?_)
  refine ev_litI hr fun t tk2 => ?_
  unfold itemw at hq
  split at hq
  · rename_i l i' 
    split at hq
    · rename_i j hj
      split at hq
      · rename_i b hb
        cases hv with
        | tup hm hrs =>
          obtain ⟨u, hu, hru⟩ := hrs.nth hb
          have hl := hrs.len
          refine item_tupleT (News.isTup N' hm) (by omega) (by omega) (by rw [hl]; exact hj) hu (k _ _ h' _ led' F' N' hs hru hq) ?_
          rcases litI_is hr with ⟨_, _, rfl⟩ | ⟨_, _, _, _, rfl, rfl⟩ <;> rfl
      · exact hq.elim
    · exact hq.elim
  · rename_i l i'
    split at hq
    · rename_i b hb
      cases hv with
      | lst hm hrs =>
        obtain ⟨u, hu, hru⟩ := hrs.nth hb
        refine item_litK (News.isList N' hm) hq.1.1 (by omega) hu (k _ _ h' _ led' F' N' hs hru hq.2) ?_
        rcases litI_is hr with ⟨_, _, rfl⟩ | ⟨_, _, _, _, rfl, rfl⟩ <;> rfl
    · exact hq.elim
  · exact hq.elim
theorem AV.nth_lt : ∀ {l : AV} {j : Nat}, j < l.len → ∃ c, l.nth j = some c := by
  intro l
  induction l with
  | lcons a l _ ih => intro j h; cases j with
    | zero => exact ⟨_, rfl⟩
    | succ j => exact ih (by simpa [AV.len] using h)
  | _ => intro j h; exact absurd h (Nat.not_lt_zero _)
theorem ev_idx {l r : PySem.Expr} {pos : Pos} {a b : ME} (hl : Ev H prog w CO ns l a) (hr : Ev H prog w CO ns r b) (hsl : ∀ t k u, subscripted r false (.ref t) (.int k u) = operate [.ref t, .int k u] (getItem (.ref t) (.int k u))) : Ev H prog w CO ns (.Subscript l r pos) (.idx a b) := by
  intro ρ Φ s led m Q E hW F N R k
  refine Subscript_ (hl hW F N R fun v av h' tk' led' F' N' hs hv hq => ?_)
  refine hr hq F' N' (R.mono hs) fun u bv h2 tk2 led2 F2 N2 hs2 hu hq2 => ?_
  unfold idxw at hq2
  split at hq2
  · rename_i l i
    cases hu
    cases hv with
    | lst hm hrs =>
      have hlen := hrs.len
      obtain ⟨⟨h0, h1, h2'⟩, hq3⟩ := hq2
      have hlt : i.toNat < l.len := by omega
      obtain ⟨c, hc⟩ := AV.nth_lt hlt
      obtain ⟨x, hx, hrx⟩ := hrs.nth hc
      exact item_litK (News.isList N2 (hs2 _ hm)) h0 (by omega) hx (k _ _ h2 _ led2 F2 N2 (sub_trans hs hs2) (hrx.mono hs2) (hq3 _ hc)) (hsl _ _ _)
  · exact hq2.elim
theorem ev_lst {es : List PySem.Expr} {pos : Pos} {a : ME} (hl : Lv H prog w CO ns es a) (hlen : es.length < 100) : Ev H prog w CO ns (.List es pos) (.lst a) := by
  intro ρ Φ s led m Q E hW F N R k
  refine List_ (hl hW F N R fun v av h' tk' led' F' N' hs hv hle hq => ?_)
  refine newList_K F' N' (fun D' h2 F2 N2 _ => ?_) ?_
  · exact k _ _ h2 _ _ F2 N2 (fun p hp => List.mem_cons_of_mem _ (hs p hp)) (.lst (List.mem_cons_self ..) (hv.mono fun p hp => List.mem_cons_of_mem _ hp)) hq
  · have : (100 : Nat) ≤ sizeLine := by decide
    omega
theorem ev_tup {es : List PySem.Expr} {kk : Nat} {pos : Pos} {a : ME} (hl : Lv H prog w CO ns es a) (hlen : es.length < 100) : Ev H prog w CO ns (.Tuple es kk pos) (.tup a) := by
  intro ρ Φ s led m Q E hW F N R k
  refine Tuple_ (hl hW F N R fun v av h' tk' led' F' N' hs hv hle hq => ?_)
  refine kup_newTuple F' N' (fun D' h2 F2 N2 _ => ?_) ?_
  · exact k _ _ h2 _ _ F2 N2 (fun p hp => List.mem_cons_of_mem _ (hs p hp)) (.tup (List.mem_cons_self ..) (hv.mono fun p hp => List.mem_cons_of_mem _ hp)) hq
  · have : (100 : Nat) ≤ sizeLine := by decide
    omega
theorem not_star {c : PySem.Expr → Option ME} (hc : ∀ e p, c (.Starred e p) = none) {e : PySem.Expr} {a : ME} (h : c e = some a) (rest : List PySem.Expr) (env : Env) : starEach (e :: rest) env = (false, eval e env) :: starEach rest env := by
  cases e <;> first | rfl | (rw [hc] at h; cases h)
theorem lv_nil : Lv H prog w CO ns [] .lnil := by
  intro pos ρ Φ s led m Q E hW F N R k
  exact args_nil (k [] .lnil s.heap s.toks led F N (fun _ h => h) .nil rfl hW)
theorem lv_cons {e : PySem.Expr} {es : List PySem.Expr} {a l : ME} (hs : ∀ env, starEach (e :: es) env = (false, eval e env) :: starEach es env) (hl : Ev H prog w CO ns e a) (hr : Lv H prog w CO ns es l) : Lv H prog w CO ns (e :: es) (.lcons a l) := by
  intro pos ρ Φ s led m Q E hW F N R k
  refine args_cons (hl hW F N R fun v av h' tk' led' F' N' hs hv hq => ?_) (hs _)
  refine hr hq F' N' (R.mono hs) fun u bv h2 tk2 led2 F2 N2 hs2 hu hle hq2 => ?_
  exact k _ _ h2 tk2 led2 F2 N2 (sub_trans hs hs2) (.cons (hv.mono hs2) hu) (by simp [hle]) hq2
theorem lv_all {c : PySem.Expr → Option ME} (hc : ∀ e p, c (.Starred e p) = none) (h : ∀ e me, c e = some me → Ev H prog w CO ns e me) : ∀ es l, cl c es = some l → Lv H prog w CO ns es l ∧ (∀ env pos, (backTo pos (starEach es env)).any (·.1) = false) := by
  intro es
  induction es with
  | nil => intro l e; cases e; exact ⟨lv_nil, fun _ _ => rfl⟩
  | cons e r ih =>
    intro l hcl
    simp only [cl] at hcl
    split at hcl
    · rename_i a b ha hb
      cases hcl
      obtain ⟨h1, h2⟩ := ih _ hb
      have hs := fun env => not_star hc ha r env
      exact ⟨lv_cons hs (h _ _ ha) h1, fun env pos => by rw [hs]; simpa [backTo] using h2 env pos⟩
    · cases hcl
theorem truw_ok {x : AV} {v : Value} {T F' : Prop} {s : Shared} {led : Led} {m : Str → Option Value} {Q : Bool → Shared → Prop} {E : Value → Shared → Prop} (hW : truw x T F') (hx : Rep w led v x) (F : Fr H.h₀ H.L s.heap m) (N : News H.h₀ H.L s.heap led) (k : ContB H m led s T F' Q) :
    wpAny (model prog w) H.A (truthy v) Q E s := by
  have k' := k s.heap s.toks led F N (fun _ h => h)
  unfold truw at hW
  split at hW
  · cases hx; exact wpAny_truthy_bool (k'.1 hW)
  · cases hx; exact wpAny_truthy_bool (k'.2 hW)
  · rename_i x1 x2 x
    cases hx
    refine truthy_int ?_
    by_cases e : x = 0
    · rw [show (x != 0) = false by rw [bne, beq_iff_eq.mpr e]; rfl]; exact k'.2 (hW.2 e)
    · rw [show (x != 0) = true by rw [bne, beq_false_of_ne e]; rfl]; exact k'.1 (hW.1 e)
  · exact hW.elim
theorem ContB.trans {s : Shared} {m : Str → Option Value} {led led' : Led} {T F : Prop} {Q : Bool → Shared → Prop} {h' : Heap} {tk' : Nat} (k : ContB H m led s T F Q) (hs : ∀ p ∈ led, p ∈ led') : ContB H m led' { s with heap := h', toks := tk' } T F Q :=
  fun h2 tk2 led2 F2 N2 hs2 => k h2 tk2 led2 F2 N2 (sub_trans hs hs2)
/-- the plain truth of an expression -/
theorem cv_plain {e : PySem.Expr} {me : ME} (hp : ∀ env, PySem.isTrue e env (eval e env) = do let v ← eval e env; standAt e.pos; holding [v] (truthy v)) (hme : ∀ ρ T F, (W CO me).c ρ T F → (W CO me).e ρ fun av => truw av T F) (h : Ev H prog w CO ns e me) : Cv H prog w CO ns e me := by
  intro ρ T F' s led m Q E hW F N R k
  exact isTrue_plain (h (hme _ _ _ hW) F N R fun v av h' tk' led' F' N' hs hv hq => truw_ok hq hv F' N' (k.trans hs)) (hp _)
theorem behind_none {op : CmpOp} {r : PySem.Expr} {c : PySem.Expr → Option ME} (hc : ∀ a b d, c (.Set a b d) = none) {a : ME} (h : c r = some a) : behindInMarks op r = false := by
  cases r <;> first | rfl | (rw [hc] at h; cases h)
theorem ev_cmp (O : H.Ok prog w CO) {l r : PySem.Expr} {op : CmpOp} {pos : Pos} {a b : ME} (hb : behindInMarks op r = false) (hl : Ev H prog w CO ns l a) (hr : Ev H prog w CO ns r b) : Ev H prog w CO ns (.Compare l [op] [r] pos) (.cmp op a b) := by
  intro ρ Φ s led m Q E hW F N R k
  refine wpAny_Compare1 (hl hW F N R fun v av h' tk' led' F' N' hs hv hq => ?_) hb
  refine hr hq F' N' (R.mono hs) fun u bv h2 tk2 led2 F2 N2 hs2 hu hq2 => ?_
  exact cmpw_ok O hq2 F2 N2 (hv.mono hs2) hu fun v3 av3 h3 tk3 led3 F3 N3 hs3 hr3 hq3 => k v3 av3 h3 tk3 led3 F3 N3 (sub_trans hs (sub_trans hs2 hs3)) hr3 hq3
theorem cv_cmp (O : H.Ok prog w CO) {l r : PySem.Expr} {op : CmpOp} {pos : Pos} {a b : ME} (hb : behindInMarks op r = false) (hl : Ev H prog w CO ns l a) (hr : Ev H prog w CO ns r b) : Cv H prog w CO ns (.Compare l [op] [r] pos) (.cmp op a b) := by
  intro ρ T F' s led m Q E hW F N R k
  refine wpAny_isTrue_Compare1 (hl hW F N R fun v av h' tk' led' F' N' hs hv hq => ?_) hb
  refine hr hq F' N' (R.mono hs) fun u bv h2 tk2 led2 F2 N2 hs2 hu hq2 => ?_
  exact cmpw_ok O hq2 F2 N2 (hv.mono hs2) hu fun v3 av3 h3 tk3 led3 F3 N3 hs3 hr3 hq3 => truw_ok hq3 hr3 F3 N3 (k.trans (sub_trans hs (sub_trans hs2 hs3)))
theorem isnw_ok {x : AV} {v : Value} {Φ : AV → Prop} {s : Shared} {led : Led} {m : Str → Option Value} {Q E : Value → Shared → Prop} (hW : isnw x Φ) (F : Fr H.h₀ H.L s.heap m) (N : News H.h₀ H.L s.heap led) (hx : Rep w led v x) (k : Cont H w m led s Φ Q) :
    wpAny (model prog w) H.A (compareOp .Is v .none) Q E s := by
  unfold isnw at hW
  split at hW
  · cases hx; exact is_none_none (k.keep' F N .bool hW)
  · cases hx; exact is_ref_none (k.keep' F N .bool hW)
  · exact hW.elim
theorem ev_isnone {l r : PySem.Expr} {pos : Pos} {a : ME} (hb : behindInMarks .Is r = false) (hl : Ev H prog w CO ns l a) (hr : Ev H prog w CO ns r .none) : Ev H prog w CO ns (.Compare l [.Is] [r] pos) (.isnone a) := by
  intro ρ Φ s led m Q E hW F N R k
  refine wpAny_Compare1 (hl hW F N R fun v av h' tk' led' F' N' hs hv hq => ?_) hb
  refine hr (Φ := fun a => a = .none) rfl F' N' (R.mono hs) fun u bv h2 tk2 led2 F2 N2 hs2 hu hq2 => ?_
  subst hq2
  cases hu
  exact isnw_ok hq F2 N2 (hv.mono hs2) fun v3 av3 h3 tk3 led3 F3 N3 hs3 hr3 hq3 => k v3 av3 h3 tk3 led3 F3 N3 (sub_trans hs (sub_trans hs2 hs3)) hr3 hq3
theorem cv_isnone {l r : PySem.Expr} {pos : Pos} {a : ME} (hb : behindInMarks .Is r = false) (hl : Ev H prog w CO ns l a) (hr : Ev H prog w CO ns r .none) : Cv H prog w CO ns (.Compare l [.Is] [r] pos) (.isnone a) := by
  intro ρ T F' s led m Q E hW F N R k
  refine wpAny_isTrue_Compare1 (hl hW F N R fun v av h' tk' led' F' N' hs hv hq => ?_) hb
  refine hr (Φ := fun a => a = .none) rfl F' N' (R.mono hs) fun u bv h2 tk2 led2 F2 N2 hs2 hu hq2 => ?_
  subst hq2
  cases hu
  exact isnw_ok hq F2 N2 (hv.mono hs2) fun v3 av3 h3 tk3 led3 F3 N3 hs3 hr3 hq3 => truw_ok hq3 hr3 F3 N3 (k.trans (sub_trans hs (sub_trans hs2 hs3)))
theorem cv_not {l : PySem.Expr} {pos : Pos} {a : ME} (hl : Cv H prog w CO ns l a) : Cv H prog w CO ns (.UnaryOp .Not l pos) (.not a) := by
  intro ρ T F' s led m Q E hW F N R k
  exact isTrue_not (hl hW F N R fun h' tk' led' F' N' hs => ⟨(k h' tk' led' F' N' hs).2, (k h' tk' led' F' N' hs).1⟩)
theorem cv_or {x y : PySem.Expr} {pos : Pos} {a b : ME} (hx : Cv H prog w CO ns x a) (hy : Cv H prog w CO ns y b) : Cv H prog w CO ns (.BoolOp .Or [x, y] pos) (.or a b) := by
  intro ρ T F' s led m Q E hW F N R k
  refine isTrue_or (hx hW F N R fun h' tk' led' F' N' hs => ⟨fun t => ?_, fun f => ?_⟩)
  · exact (k h' tk' led' F' N' hs).1 t
  · refine isTrue_or (hy f F' N' (R.mono hs) fun h2 tk2 led2 F2 N2 hs2 => ⟨fun t => ?_, fun f => ?_⟩)
    · exact (k h2 tk2 led2 F2 N2 (sub_trans hs hs2)).1 t
    · exact isTrue_or_nil ((k h2 tk2 led2 F2 N2 (sub_trans hs hs2)).2 f)
theorem cv_and {x y : PySem.Expr} {pos : Pos} {a b : ME} (hx : Cv H prog w CO ns x a) (hy : Cv H prog w CO ns y b) : Cv H prog w CO ns (.BoolOp .And [x, y] pos) (.and a b) := by
  intro ρ T F' s led m Q E hW F N R k
  refine isTrue_and (hx hW F N R fun h' tk' led' F' N' hs => ⟨fun t => ?_, fun f => ?_⟩)
  · refine isTrue_and (hy t F' N' (R.mono hs) fun h2 tk2 led2 F2 N2 hs2 => ⟨fun t => ?_, fun f => ?_⟩)
    · exact isTrue_and_nil ((k h2 tk2 led2 F2 N2 (sub_trans hs hs2)).1 t)
    · exact (k h2 tk2 led2 F2 N2 (sub_trans hs hs2)).2 f
  · exact (k h' tk' led' F' N' hs).2 f
theorem ev_ite {t x y : PySem.Expr} {pos : Pos} {c a b : ME} (ht : Cv H prog w CO ns t c) (hx : Ev H prog w CO ns x a) (hy : Ev H prog w CO ns y b) : Ev H prog w CO ns (.IfExp t x y pos) (.ite c a b) := by
  intro ρ Φ s led m Q E hW F N R k
  refine IfExp_ (ht hW F N R fun h' tk' led' F' N' hs => ⟨fun t => ?_, fun f => ?_⟩)
  · exact hx t F' N' (R.mono hs) fun v3 av3 h3 tk3 led3 F3 N3 hs3 hr3 hq3 => k v3 av3 h3 tk3 led3 F3 N3 (sub_trans hs hs3) hr3 hq3
  · exact hy f F' N' (R.mono hs) fun v3 av3 h3 tk3 led3 F3 N3 hs3 hr3 hq3 => k v3 av3 h3 tk3 led3 F3 N3 (sub_trans hs hs3) hr3 hq3
theorem ev_gname (O : H.Ok prog w CO) {x : Str} {pos : Pos} {v : Value} {s : Shared} {m : Str → Option Value} {Q E : Value → Shared → Prop} (h : gname (hd.heap_1 w.params) H.cs x = some v) (F : Fr H.h₀ H.L s.heap m) (q : Q v s) : wpAny (model prog w) H.A (eval (.Name x pos) H.env) Q E s := by
  unfold gname at h
  split at h
  · rename_i hc
    split at h
    · rename_i hn
      cases h
      exact nameX_K F O.X (topRead_of O.T) hn q O.hk hc.1 hc.2
    · rename_i hn
      split at h
      · cases h
      · rename_i hne
        exact nameX_B F O.X (topRead_of O.T) hn h hne q O.hk hc.1 hc.2
    · cases h
  · cases h
theorem ev_call (O : H.Ok prog w CO) {x : Str} {np pos : Pos} {f : Addr} {e : PySem.Expr} {es : List PySem.Expr} {l : ME} (hg : gname (hd.heap_1 w.params) H.cs x = some (.ref f)) (hk : keepIn (hd.heap_1 w.params) (.ref f) = true)
    (hs : ∀ env, starEach (e :: es) env = (false, eval e env) :: starEach es env) (hp : ∀ env pos, (backTo pos (starEach es env)).any (·.1) = false) (hl : Lv H prog w CO ns (e :: es) l) : Ev H prog w CO ns (.Call (.Name x np) (e :: es) [] pos) (.call f l) := by
  intro ρ Φ s led m Q E hW F N R k
  refine Call_ (ev_gname O hg F ?_)
  refine callWith_K O.X hk (hl hW F N R fun vs av h' tk' led' F' N' hs hv _ hq => ?_) (hs _) (hp _ _)
  exact ⟨O.X.keeps F'.keep, acon_ok O hq F' N' hv fun v3 av3 h3 tk3 led3 F3 N3 hs3 hr3 hq3 => k v3 av3 h3 tk3 led3 F3 N3 (sub_trans hs hs3) hr3 hq3⟩
theorem ev_call0 (O : H.Ok prog w CO) {x : Str} {np pos : Pos} {f : Addr} (hg : gname (hd.heap_1 w.params) H.cs x = some (.ref f)) (hk : keepIn (hd.heap_1 w.params) (.ref f) = true) : Ev H prog w CO ns (.Call (.Name x np) [] [] pos) (.call0 f) := by
  intro ρ Φ s led m Q E hW F N R k
  exact Call_ (ev_gname O hg F (callWith_K0 (O.X.keeps F.keep) hk (acon_ok O hW F N .nil k)))
theorem ev_fnv (O : H.Ok prog w CO) {x : Str} {pos : Pos} {f : Addr} (hg : gname (hd.heap_1 w.params) H.cs x = some (.ref f)) (hk : keepIn (hd.heap_1 w.params) (.ref f) = true) : Ev H prog w CO ns (.Name x pos) (.fnv f) := by
  intro ρ Φ s led m Q E hW F N R k
  exact ev_gname O hg F (k.keep' F N (.fn hk) hW)
theorem ev_callv (O : H.Ok prog w CO) {x : Str} {np pos : Pos} {i : Nat} {e : PySem.Expr} {es : List PySem.Expr} {l : ME} (hx : lname H.cs ns x = some i)
    (hs : ∀ env, starEach (e :: es) env = (false, eval e env) :: starEach es env) (hp : ∀ env pos, (backTo pos (starEach es env)).any (·.1) = false) (hl : Lv H prog w CO ns (e :: es) l) : Ev H prog w CO ns (.Call (.Name x np) (e :: es) [] pos) (.callv i l) := by
  intro ρ Φ s led m Q E hW F N R k
  change (match lk ρ i with | some (.fn f) => (W CO l).e ρ fun x => CO f x Φ | _ => False) at hW
  split at hW
  · rename_i f hf
    refine Call_ (ev_name (prog := prog) (CO := CO) O hx (Φ := fun a => a = .fn f) (by show (match lk ρ i with | some a => a = .fn f | none => False); rw [hf]) F N R fun v av h' tk' led' F' N' hs1 hv hq => ?_)
    subst hq
    cases hv with
    | fn hk =>
      refine callWith_K O.X hk (hl hW F' N' (R.mono hs1) fun vs av h2 tk2 led2 F2 N2 hs2 hv2 _ hq => ?_) (hs _) (hp _ _)
      exact ⟨O.X.keeps F2.keep, acon_ok O hq F2 N2 hv2 fun v3 av3 h3 tk3 led3 F3 N3 hs3 hr3 hq3 => k v3 av3 h3 tk3 led3 F3 N3 (sub_trans hs1 (sub_trans hs2 hs3)) hr3 hq3⟩
  · exact hW.elim
theorem isIn_c (w : World) (c : Bool) : isIn (hd.heap_1 w.params) (.ref (clsA c)) (clsA c) = true := by cases c <;> kernel_rfl
theorem isNotIn_c (w : World) {C : Addr} (h : C = 255 ∨ C = 417) : isNotIn (hd.heap_1 w.params) "int" C = true := by rcases h with rfl | rfl <;> kernel_rfl
theorem ev_iscls (O : H.Ok prog w CO) {x y : Str} {np nq pos : Pos} {C : Addr} {e : PySem.Expr} {a : ME} (hg : gname (hd.heap_1 w.params) H.cs x = some (.builtin "isinstance")) (hc : gname (hd.heap_1 w.params) H.cs y = some (.ref C)) (hC : C = 255 ∨ C = 417)
    (hs : ∀ env, starEach [e, .Name y nq] env = (false, eval e env) :: starEach [.Name y nq] env) (hl : Ev H prog w CO ns e a) : Ev H prog w CO ns (.Call (.Name x np) [e, .Name y nq] [] pos) (.iscls a C) := by
  intro ρ Φ s led m Q E hW F N R k
  refine Call_ (ev_gname O hg F ?_)
  refine PyProof.Rows.callWith_builtin1 (args_cons (hl hW F N R fun v av h' tk' led' F' N' hs hv hq => args_cons (ev_gname O hc F' (args_nil ?_))) (hs _)) (hs _) rfl
  cases av with
  | int n => cases hv; exact isn_call (P := fun _ => True) (O.X.keeps F'.keep) (fun M => Looks.of_pure rfl) (isNotIn_c w hC) (by intro e; cases e) trivial int_cls (k _ _ h' _ led' F' N' hs .bool hq)
  | fq c P n =>
    obtain ⟨rfl, hq⟩ := (hq : clsA c = C ∧ Φ (.bool true))
    obtain ⟨x, d, k1, k2, t1, t2, rfl, I, m1, m2⟩ := hv.inst N'
    exact isi_call (O.X.keeps F'.keep) (fun M => I.type) (isIn_c w c) (by intro e; cases e) (k _ _ h' _ led' F' N' hs .bool hq)
  | _ => exact hq.elim
theorem ev_isint (O : H.Ok prog w CO) {x y : Str} {np nq pos : Pos} {e : PySem.Expr} {a : ME} (hg : gname (hd.heap_1 w.params) H.cs x = some (.builtin "isinstance")) (hc : gname (hd.heap_1 w.params) H.cs y = some (.type "int"))
    (hs : ∀ env, starEach [e, .Name y nq] env = (false, eval e env) :: starEach [.Name y nq] env) (hl : Ev H prog w CO ns e a) : Ev H prog w CO ns (.Call (.Name x np) [e, .Name y nq] [] pos) (.isint a) := by
  intro ρ Φ s led m Q E hW F N R k
  refine Call_ (ev_gname O hg F ?_)
  refine PyProof.Rows.callWith_builtin1 (args_cons (hl hW F N R fun v av h' tk' led' F' N' hs hv hq => args_cons (ev_gname O hc F' (args_nil ?_))) (hs _)) (hs _) rfl
  cases av with
  | int n => cases hv; exact IsiPair.int_int (k _ _ h' _ led' F' N' hs .bool hq)
  | _ => exact hq.elim
theorem ev_toint (O : H.Ok prog w CO) {x : Str} {np pos : Pos} {e : PySem.Expr} {a : ME} (hg : gname (hd.heap_1 w.params) H.cs x = some (.type "int"))
    (hs : ∀ env, starEach [e] env = (false, eval e env) :: starEach [] env) (hl : Ev H prog w CO ns e a) : Ev H prog w CO ns (.Call (.Name x np) [e] [] pos) (.toint a) := by
  intro ρ Φ s led m Q E hW F N R k
  refine Call_ (ev_gname O hg F ?_)
  refine PyProof.Rows.callWith_type1 (args_cons (hl hW F N R fun v av h' tk' led' F' N' hs hv hq => args_nil ?_) (hs _)) (hs _) rfl
  cases av with
  | int n => cases hv; exact call_int_int (k _ _ h' tk' led' F' N' hs .int hq)
  | _ => exact hq.elim
theorem ev_totup (O : H.Ok prog w CO) {x : Str} {np pos : Pos} {e : PySem.Expr} {a : ME} (hg : gname (hd.heap_1 w.params) H.cs x = some (.type "tuple"))
    (hs : ∀ env, starEach [e] env = (false, eval e env) :: starEach [] env) (hl : Ev H prog w CO ns e a) : Ev H prog w CO ns (.Call (.Name x np) [e] [] pos) (.totup a) := by
  intro ρ Φ s led m Q E hW F N R k
  refine Call_ (ev_gname O hg F ?_)
  refine PyProof.Rows.callWith_type1 (args_cons (hl hW F N R fun v av h' tk' led' F' N' hs hv hq => args_nil ?_) (hs _)) (hs _) rfl
  cases av with
  | tup n => cases hv with | tup hm hr => exact call_tuple_tup (News.isTup N' hm) (k _ _ h' tk' led' F' N' hs (.tup hm hr) hq)
  | _ => exact hq.elim
theorem mname_is {x : Str} {k : Nat} (h : mname x = some k) : (x = Str.ofString "made" ∧ k = 0) ∨ (x = Str.ofString "one" ∧ k = 1) ∨ (x = Str.ofString "zero" ∧ k = 2) := by
  unfold mname at h
  split at h
  · cases h; exact .inl ⟨by assumption, rfl⟩
  · split at h
    · cases h; exact .inr (.inl ⟨by assumption, rfl⟩)
    · split at h
      · cases h; exact .inr (.inr ⟨by assumption, rfl⟩)
      · cases h
theorem aname_is {x : Str} {k : Nat} (h : aname x = some k) : (x = Str.ofString "n" ∧ k = 0) ∨ (x = Str.ofString "field_modulus" ∧ k = 1) := by
  unfold aname at h
  split at h
  · cases h; exact .inl ⟨by assumption, rfl⟩
  · split at h
    · cases h; exact .inr ⟨by assumption, rfl⟩
    · cases h
noncomputable abbrev fqE (w : World) (P n : Int) (k1 k2 t1 t2 : Tok) : List DictEntry := [⟨PyData.keyHash w.params "field_modulus", .str "field_modulus" k1, .int P t1⟩, ⟨PyData.keyHash w.params "n", .str "n" k2, .int n t2⟩]
theorem meth_find (w : World) {x : Str} {c : Bool} {k : Nat} {f : Addr} (hx : mname x = some k) (hf : methA c k = some f) : plainGet (hd.heap_1 w.params) (clsA c) x = true ∧ findIn (hd.heap_1 w.params) (.ref (clsA c)) x = some (some (.ref f)) ∧ isFn (hd.heap_1 w.params) (.ref f) = true ∧ keepIn (hd.heap_1 w.params) (.ref f) = true ∧
    ∀ P n k1 k2 t1 t2, getL x (fqE w P n k1 k2 t1 t2) = some none := by
  rcases mname_is hx with ⟨rfl, rfl⟩ | ⟨rfl, rfl⟩ | ⟨rfl, rfl⟩ <;> cases c <;> first | (cases hf; done) | (cases hf; exact ⟨by kernel_rfl, by kernel_rfl, by kernel_rfl, by kernel_rfl, fun _ _ _ _ _ _ => by kernel_rfl⟩)
theorem attr_find (w : World) {x : Str} {k : Nat} (hx : aname x = some k) (c : Bool) : plainGet (hd.heap_1 w.params) (clsA c) x = true ∧ hasDictIn (hd.heap_1 w.params) (clsA c) = true ∧ findIn (hd.heap_1 w.params) (.ref (clsA c)) x = some none := by
  rcases aname_is hx with ⟨rfl, rfl⟩ | ⟨rfl, rfl⟩ <;> cases c <;> exact ⟨by kernel_rfl, by kernel_rfl, by kernel_rfl⟩
noncomputable def HeadStar (es : List PySem.Expr) (env : Env) : Prop := match es with
  | [] => True
  | e :: es' => starEach (e :: es') env = (false, eval e env) :: starEach es' env
theorem ev_meth (O : H.Ok prog w CO) {o : PySem.Expr} {nm : Str} {apos pos : Pos} {es : List PySem.Expr} {a l : ME} {k : Nat} (hn : mname nm = some k) (hb : simpleBase o = true) (hline : (apos.endLine == pos.line) = true) (hlen : es.length < 10)
    (ho : Ev H prog w CO ns o a) (hl : Lv H prog w CO ns es l) (hp : ∀ env pos, (backTo pos (starEach es env)).any (·.1) = false)
    (hs : ∀ env, HeadStar es env) (hnil : es = [] → l = .lnil) : Ev H prog w CO ns (.Call (.Attribute o nm apos) es [] pos) (.meth a k l) := by
  intro ρ Φ s led m Q E hW F N R kk
  have hall : ∀ env pos, (backTo pos (starEach es env)).all (fun x => !x.1) = true := fun env pos => by
    have := hp env pos
    rw [List.all_eq_not_any_not]; simpa using this
  have he : eval (.Call (.Attribute o nm apos) es [] pos) H.env = (do
      let ov ← eval o H.env
      standAt apos.atName
      let (f, first) ← holding [ov] (getMethod ov nm (do return (← importBound o H.env).getD true))
      callWith pos f first (backTo pos (starEach es H.env)) []) := by
    have e1 : attributeBase o nm H.env (eval o H.env) = eval o H.env := by
      cases o <;> first | rfl | (cases hb; done)
    have e2 : methodCallForm (es.length + 0) (backTo pos (starEach es H.env)) [] = true := by
      simp [methodCallForm, hall]
      omega
    show (do
      let ov ← attributeBase o nm H.env (eval o H.env)
      standAt apos.atName
      methodCall o nm apos pos H.env ov (es.length + 0) (backTo pos (starEach es H.env)) []) = _
    rw [e1]
    simp only [methodCall, e2, calleeOf, methodCallPos, hline]
    rfl
  refine MethodCall_ ?_ he
  refine ho hW F N R fun v av h' tk' led' F' N' hs1 hv hq => ?_
  cases av with
  | fq c P n =>
    change (match methA c k with | some f => (W CO l).e ρ fun y => CO f (.lcons (.fq c P n) y) Φ | none => False) at hq
    split at hq
    · rename_i f hf
      obtain ⟨g1, g2, g3, g4, g5⟩ := meth_find w hn hf
      obtain ⟨x, d, k1, k2, t1, t2, rfl, I, m1, m2⟩ := hv.inst N'
      refine method_inst F' O.X (I : W.InstAt _ _ _ _ (some (dictOf (fqE w P n k1 k2 t1 t2) 2))) g1 g2 g3 (g5 P n k1 k2 t1 t2) ?_
      cases es with
      | nil =>
        refine callWith_K0 (O.X.keeps F'.keep) g4 ?_
        have e := hnil rfl
        subst e
        exact acon_ok O hq F' N' (.one hv) fun v3 av3 h3 tk3 led3 F3 N3 hs3 hr3 hq3 => kk v3 av3 h3 tk3 led3 F3 N3 (sub_trans hs1 hs3) hr3 hq3
      | cons e es' =>
        have hs2 := fun env => (hs env)
        have he2 : ∀ env, starEach (e :: es') env = (false, eval e env) :: starEach es' env := fun env => hs env
        refine callWith_K O.X g4 (hl hq F' N' (R.mono hs1) fun vs y h2 tk2 led2 F2 N2 hs2 hv2 _ hA => ?_) (he2 _) ?_
        · exact ⟨O.X.keeps F2.keep, acon_ok O hA F2 N2 (.cons (hv.mono hs2) hv2) fun v3 av3 h3 tk3 led3 F3 N3 hs3 hr3 hq3 => kk v3 av3 h3 tk3 led3 F3 N3 (sub_trans hs1 (sub_trans hs2 hs3)) hr3 hq3⟩
        · have := hp H.env pos
          rw [he2] at this
          simpa [backTo] using this
    · exact hq.elim
  | _ => exact hq.elim
theorem ev_attr (O : H.Ok prog w CO) {o : PySem.Expr} {nm : Str} {pos : Pos} {a : ME} {k : Nat} (hn : aname nm = some k) (hb : simpleBase o = true) (ho : Ev H prog w CO ns o a) : Ev H prog w CO ns (.Attribute o nm pos) (.attr a k) := by
  intro ρ Φ s led m Q E hW F N R kk
  have he : eval (.Attribute o nm pos) H.env = (do
      let o' ← eval o H.env
      standAt pos.atName
      let r ← holding [o'] (getAttr o' nm true)
      letTemporaryGo o o' r
      pure r) := by
    have e1 : attributeBase o nm H.env (eval o H.env) = eval o H.env := by
      cases o <;> first | rfl | (cases hb; done)
    show (do
      let o' ← attributeBase o nm H.env (eval o H.env)
      standAt pos.atName
      let r ← holding [o'] (getAttr o' nm true)
      letTemporaryGo o o' r
      pure r) = _
    rw [e1]
  refine Attribute_any_ (ho hW F N R fun v av h' tk' led' F' N' hs hv hq => ?_) he
  obtain ⟨g1, g2, g3⟩ := attr_find w hn (match av with | .fq c _ _ => c | _ => true)
  unfold attrw at hq
  split at hq
  · rename_i c P n
    obtain ⟨x, d, k1, k2, t1, t2, rfl, I, m1, m2⟩ := hv.inst N'
    rcases aname_is hn with ⟨rfl, e⟩ | ⟨rfl, e⟩
    · exact get_own F' O.X (I : W.InstAt _ _ _ _ (some (dictOf (fqE w P n k1 k2 t1 t2) 2))) g1 g2 g3 rfl rfl rfl (kk _ _ h' _ led' F' N' hs .int hq)
    · cases e
  · rename_i c P n
    obtain ⟨x, d, k1, k2, t1, t2, rfl, I, m1, m2⟩ := hv.inst N'
    rcases aname_is hn with ⟨rfl, e⟩ | ⟨rfl, e⟩
    · cases e
    · exact get_own F' O.X (I : W.InstAt _ _ _ _ (some (dictOf (fqE w P n k1 k2 t1 t2) 2))) g1 g2 g3 rfl rfl rfl (kk _ _ h' _ led' F' N' hs .int hq)
  · exact hq.elim
theorem comp_set {K : Frag} {cs : Scope} : ∀ n a b d, comp K cs ns n (.Set a b d) = none := by intro n; cases n <;> intros <;> rfl
theorem comp_star {K : Frag} {cs : Scope} : ∀ n e p, comp K cs ns n (.Starred e p) = none := by intro n; cases n <;> intros <;> rfl
theorem star_all {c : PySem.Expr → Option ME} (hc : ∀ e p, c (.Starred e p) = none) : ∀ {es : List PySem.Expr} {l : ME}, cl c es = some l → ∀ env, HeadStar es env
  | [], _, _, _ => trivial
  | e :: es', l, h, env => by
    simp only [cl] at h
    split at h
    · rename_i h1 h2
      exact not_star hc h1 es' env
    · cases h
theorem call_ok (O : H.Ok prog w CO) {c : PySem.Expr → Option ME} (hst : ∀ e p, c (.Starred e p) = none) (h : ∀ e me, c e = some me → Ev H prog w CO ns e me) {x : Str} {np pos : Pos} {es : List PySem.Expr} {me : ME} (hc : callKind (hd.heap_1 w.params) H.cs ns x c es = some me) :
    Ev H prog w CO ns (.Call (.Name x np) es [] pos) me ∧ ∀ ρ T F, (W CO me).c ρ T F → (W CO me).e ρ fun av => truw av T F := by
  have lv := lv_all (H := H) (prog := prog) (w := w) (CO := CO) (ns := ns) hst h
  have two : ∀ {e : PySem.Expr} {es : List PySem.Expr} {a : ME}, cl c (e :: es) = some a → (∀ env, starEach (e :: es) env = (false, eval e env) :: starEach es env) ∧ ∀ env pos, (backTo pos (starEach es env)).any (·.1) = false := by
    intro e es a ha
    have hs : ∀ env, starEach (e :: es) env = (false, eval e env) :: starEach es env := fun env => star_all hst ha env
    refine ⟨hs, fun env pos => ?_⟩
    have := (lv _ _ ha).2 env pos
    rw [hs] at this
    simpa [backTo] using this
  cases hl : lname H.cs ns x with
  | some i =>
    have hc : oIf (es ≠ []) ((cl c es).map (.callv i)) = some me := by unfold callKind at hc; rw [hl] at hc; exact hc
    obtain ⟨hne, hc⟩ := oIf_some hc
    obtain ⟨a, ha, rfl⟩ := Option.map_eq_some_iff.mp hc
    cases es with
    | nil => exact absurd rfl hne
    | cons e es =>
      obtain ⟨h1, h2⟩ := two ha
      exact ⟨ev_callv O hl h1 h2 (lv _ _ ha).1, fun _ _ _ h => h⟩
  | none =>
    have hc : (gname (hd.heap_1 w.params) H.cs x).bind (callVal (hd.heap_1 w.params) H.cs c es) = some me := by unfold callKind at hc; rw [hl] at hc; exact hc
    obtain ⟨v, hg, hc⟩ := Option.bind_eq_some_iff.mp hc
    cases v with
    | ref f =>
      obtain ⟨hk, hc⟩ := oIf_some (show callObj _ c es f = some me from hc)
      cases es with
      | nil => cases hc; exact ⟨ev_call0 O hg hk, fun _ _ _ h => h⟩
      | cons e es =>
        obtain ⟨a, ha, rfl⟩ := Option.map_eq_some_iff.mp (show (cl c (e :: es)).map (.call f) = some me from hc)
        obtain ⟨h1, h2⟩ := two ha
        exact ⟨ev_call O hg hk h1 h2 (lv _ _ ha).1, fun _ _ _ h => h⟩
    | type T =>
      cases es with
      | nil => cases hc
      | cons e es => cases es with
        | cons => cases hc
        | nil =>
          have hc : (if T = "int" then (c e).map .toint else oIf (T = "tuple") ((c e).map .totup)) = some me := hc
          by_cases eT : T = "int"
          · rw [if_pos eT] at hc
            subst eT
            obtain ⟨a, ha, rfl⟩ := Option.map_eq_some_iff.mp hc
            exact ⟨ev_toint O hg (fun env => not_star hst ha [] env) (h _ _ ha), fun _ _ _ h => h⟩
          · rw [if_neg eT] at hc
            obtain ⟨eT, hc⟩ := oIf_some hc
            subst eT
            obtain ⟨a, ha, rfl⟩ := Option.map_eq_some_iff.mp hc
            exact ⟨ev_totup O hg (fun env => not_star hst ha [] env) (h _ _ ha), fun _ _ _ h => h⟩
    | builtin b =>
      cases es with
      | nil => cases hc
      | cons e es => cases es with
        | nil => cases hc
        | cons n es => cases es with
          | cons => cases hc
          | nil =>
            obtain ⟨eb, hc⟩ := oIf_some (show oIf (b = "isinstance") ((nameOf n).bind fun y => (gname (hd.heap_1 w.params) H.cs y).bind (isiOf c e)) = some me from hc)
            subst eb
            obtain ⟨y, hn, hc⟩ := Option.bind_eq_some_iff.mp hc
            obtain ⟨u, hy, hc⟩ := Option.bind_eq_some_iff.mp hc
            cases n with
            | Name y' q =>
              cases hn
              cases u with
              | ref C =>
                obtain ⟨hC, hc⟩ := oIf_some (show oIf (C = 255 ∨ C = 417) ((c e).map (.iscls · C)) = some me from hc)
                obtain ⟨a, ha, rfl⟩ := Option.map_eq_some_iff.mp hc
                exact ⟨ev_iscls O hg hy hC (fun env => not_star hst ha _ env) (h _ _ ha), fun _ _ _ h => h⟩
              | type T =>
                obtain ⟨eT, hc⟩ := oIf_some (show oIf (T = "int") ((c e).map .isint) = some me from hc)
                subst eT
                obtain ⟨a, ha, rfl⟩ := Option.map_eq_some_iff.mp hc
                exact ⟨ev_isint O hg hy (fun env => not_star hst ha _ env) (h _ _ ha), fun _ _ _ h => h⟩
              | _ => cases hc
            | _ => cases hn
    | _ => cases hc
theorem comp_sub {K : Frag} {cs : Scope} (n : Nat) {e : PySem.Expr} {me : ME} (h : comp K cs ns n e = some me) (t : Addr) (k : Int) (u : Tok) : subscripted e false (.ref t) (.int k u) = operate [.ref t, .int k u] (getItem (.ref t) (.int k u)) := by
  cases e <;> first | rfl | (cases n <;> cases h)
theorem isNone_eq {b : ME} (h : isNone b = true) : b = .none := by cases b <;> first | rfl | cases h
theorem comp_ok (O : H.Ok prog w CO) : ∀ n e me, comp (hd.heap_1 w.params) H.cs ns n e = some me → Ev H prog w CO ns e me ∧ Cv H prog w CO ns e me := by
  intro n
  induction n with
  | zero => intro e me h; cases h
  | succ n ih =>
    intro e me h
    have ihE : ∀ e me, comp (hd.heap_1 w.params) H.cs ns n e = some me → Ev H prog w CO ns e me := fun e me h => @And.left _ _ (ih e me h)
    have ihC : ∀ e me, comp (hd.heap_1 w.params) H.cs ns n e = some me → Cv H prog w CO ns e me := fun e me h => @And.right _ _ (ih e me h)
    have lv := lv_all (H := H) (prog := prog) (w := w) (CO := CO) (ns := ns) (comp_star (ns := ns) (K := hd.heap_1 w.params) (cs := H.cs) n) ihE
    have pln : ∀ {e : PySem.Expr} {me : ME}, (∀ env, PySem.isTrue e env (eval e env) = do let v ← eval e env; standAt e.pos; holding [v] (truthy v)) → (∀ ρ T F, (W CO me).c ρ T F → (W CO me).e ρ fun av => truw av T F) → Ev H prog w CO ns e me → Ev H prog w CO ns e me ∧ Cv H prog w CO ns e me := fun a b c => ⟨c, cv_plain a b c⟩
    cases e with
    | Name x p =>
      have h : compName (hd.heap_1 w.params) H.cs ns x = some me := h
      unfold compName at h
      cases hl : lname H.cs ns x with
      | some i => rw [hl] at h; cases h; exact pln (fun _ => rfl) (fun _ _ _ h => h) (ev_name O hl)
      | none =>
        rw [hl] at h
        obtain ⟨v, hg, h⟩ := Option.bind_eq_some_iff.mp h
        cases v with
        | ref f =>
          obtain ⟨hk, h⟩ := oIf_some (show oIf (keepIn (hd.heap_1 w.params) (.ref f) = true) (some (ME.fnv f)) = some me from h)
          cases h
          exact pln (fun _ => rfl) (fun _ _ _ h => h) (ev_fnv O hg hk)
        | _ => cases h
    | Constant c k p =>
      cases c with
      | int i => cases h; exact pln (fun _ => rfl) (fun _ _ _ h => h) ev_lit
      | none => cases h; exact pln (fun _ => rfl) (fun _ _ _ h => h) ev_none
      | _ => cases h
    | BinOp l op r p =>
      have h : compBin (comp (hd.heap_1 w.params) H.cs ns n) op l r = some me := h
      unfold compBin at h
      have gen : oMap2 (.bin op) (comp (hd.heap_1 w.params) H.cs ns n l) (comp (hd.heap_1 w.params) H.cs ns n r) = some me → Ev H prog w CO ns (.BinOp l op r p) me ∧ Cv H prog w CO ns (.BinOp l op r p) me := fun h => by
        obtain ⟨a, b, ha, hb, rfl⟩ := oMap2_some h
        exact pln (fun _ => rfl) (fun _ _ _ h => h) (ev_bin O (ihE _ _ ha) (ihE _ _ hb))
      cases hi : litI r with
      | none => rw [hi] at h; exact gen h
      | some i =>
        rw [hi] at h
        by_cases ho : op = .Pow
        · have h := (if_pos ho).symm.trans h
          obtain ⟨h0, h⟩ := oIf_some h
          obtain ⟨a, ha, rfl⟩ := Option.map_eq_some_iff.mp h
          subst ho
          exact pln (fun _ => rfl) (fun _ _ _ h => h) (ev_pow O (ihE _ _ ha) hi h0)
        · exact gen ((if_neg ho).symm.trans h)
    | UnaryOp op x p =>
      cases op with
      | USub =>
        obtain ⟨a, ha, rfl⟩ := Option.map_eq_some_iff.mp (show (comp (hd.heap_1 w.params) H.cs ns n x).map .neg = some me from h)
        exact pln (fun _ => rfl) (fun _ _ _ h => h) (ev_neg O (ihE _ _ ha))
      | Not =>
        obtain ⟨a, ha, rfl⟩ := Option.map_eq_some_iff.mp (show (comp (hd.heap_1 w.params) H.cs ns n x).map .not = some me from h)
        exact ⟨fun h => h.elim, cv_not (ihC _ _ ha)⟩
      | _ => cases h
    | Subscript v i p =>
      have h : compSub (comp (hd.heap_1 w.params) H.cs ns n) v i = some me := h
      unfold compSub at h
      cases hi : litI i with
      | some k =>
        rw [hi] at h
        obtain ⟨h0, h⟩ := oIf_some h
        obtain ⟨a, ha, rfl⟩ := Option.map_eq_some_iff.mp h
        exact pln (fun _ => rfl) (fun _ _ _ h => h) (ev_item (ihE _ _ ha) hi h0)
      | none =>
        rw [hi] at h
        obtain ⟨a, b, ha, hb, rfl⟩ := oMap2_some h
        exact pln (fun _ => rfl) (fun _ _ _ h => h) (ev_idx (ihE _ _ ha) (ihE _ _ hb) (comp_sub n hb))
    | List es p =>
      obtain ⟨h0, h⟩ := oIf_some (show oIf (es.length < 100) ((cl (comp (hd.heap_1 w.params) H.cs ns n) es).map .lst) = some me from h)
      obtain ⟨a, ha, rfl⟩ := Option.map_eq_some_iff.mp h
      exact pln (fun _ => rfl) (fun _ _ _ h => h) (ev_lst (lv _ _ ha).1 h0)
    | Tuple es k p =>
      obtain ⟨h0, h⟩ := oIf_some (show oIf (es.length < 100) ((cl (comp (hd.heap_1 w.params) H.cs ns n) es).map .tup) = some me from h)
      obtain ⟨a, ha, rfl⟩ := Option.map_eq_some_iff.mp h
      exact pln (fun _ => rfl) (fun _ _ _ h => h) (ev_tup (lv _ _ ha).1 h0)
    | Compare l ops rs p =>
      cases ops with
      | nil => cases h
      | cons op ops => cases ops with
        | cons => cases h
        | nil => cases rs with
          | nil => cases h
          | cons r rs => cases rs with
            | cons => cases h
            | nil =>
              obtain ⟨a, ha, h⟩ := Option.bind_eq_some_iff.mp (show compCmp (comp (hd.heap_1 w.params) H.cs ns n) op l r = some me from h)
              obtain ⟨b, hb, h⟩ := Option.map_eq_some_iff.mp h
              by_cases hn : op = .Is ∧ isNone b = true
              · have h := (if_pos hn).symm.trans h
                obtain ⟨rfl, hn⟩ := hn
                have := isNone_eq hn
                subst this
                subst h
                have hbm := behind_none (op := .Is) (comp_set n) hb
                exact ⟨ev_isnone hbm (ihE _ _ ha) (ihE _ _ hb), cv_isnone hbm (ihE _ _ ha) (ihE _ _ hb)⟩
              · have h := (if_neg hn).symm.trans h
                subst h
                have hbm := behind_none (op := op) (comp_set n) hb
                exact ⟨ev_cmp O hbm (ihE _ _ ha) (ihE _ _ hb), cv_cmp O hbm (ihE _ _ ha) (ihE _ _ hb)⟩
    | BoolOp op es p =>
      cases es with
      | nil => cases h
      | cons x es => cases es with
        | nil => cases h
        | cons y es => cases es with
          | cons => cases h
          | nil =>
            cases op with
            | Or =>
              obtain ⟨a, b, ha, hb, rfl⟩ := oMap2_some (f := .or) h
              exact ⟨fun h => h.elim, cv_or (ihC _ _ ha) (ihC _ _ hb)⟩
            | And =>
              obtain ⟨a, b, ha, hb, rfl⟩ := oMap2_some (f := .and) h
              exact ⟨fun h => h.elim, cv_and (ihC _ _ ha) (ihC _ _ hb)⟩
    | IfExp t a b p =>
      obtain ⟨mt, ht, h⟩ := Option.bind_eq_some_iff.mp (show ((comp (hd.heap_1 w.params) H.cs ns n t).bind fun t => oMap2 (.ite t) (comp (hd.heap_1 w.params) H.cs ns n a) (comp (hd.heap_1 w.params) H.cs ns n b)) = some me from h)
      obtain ⟨ma, mb, ha, hb, rfl⟩ := oMap2_some h
      exact ⟨ev_ite (ihC _ _ ht) (ihE _ _ ha) (ihE _ _ hb), fun h => h.elim⟩
    | Call f es kws pos =>
      cases kws with
      | cons => cases h
      | nil => cases f with
        | Name x np =>
          obtain ⟨h1, h2⟩ := call_ok (np := np) (pos := pos) O (comp_star n) ihE (show callKind (hd.heap_1 w.params) H.cs ns x (comp (hd.heap_1 w.params) H.cs ns n) es = some me from h)
          exact pln (fun _ => rfl) h2 h1
        | Attribute o nm apos =>
          obtain ⟨k, hk, h⟩ := Option.bind_eq_some_iff.mp (show compMeth (comp (hd.heap_1 w.params) H.cs ns n) o nm apos.endLine pos.line es = some me from h)
          obtain ⟨hc, h⟩ := oIf_some h
          obtain ⟨a, l, ha, hl, rfl⟩ := oMap2_some h
          refine pln (fun _ => rfl) (fun _ _ _ h => h) (ev_meth O hk hc.1 hc.2.1 hc.2.2 (ihE _ _ ha) (lv _ _ hl).1 (lv _ _ hl).2 (star_all (comp_star n) hl) ?_)
          intro e
          subst e
          cases hl
          rfl
        | _ => cases h
    | Attribute o nm p =>
      obtain ⟨k, hk, h⟩ := Option.bind_eq_some_iff.mp (show ((aname nm).bind fun k => oIf (simpleBase o = true) ((comp (hd.heap_1 w.params) H.cs ns n o).map (.attr · k))) = some me from h)
      obtain ⟨hb, h⟩ := oIf_some h
      obtain ⟨a, ha, rfl⟩ := Option.map_eq_some_iff.mp h
      exact pln (fun _ => rfl) (fun _ _ _ h => h) (ev_attr O hk hb (ihE _ _ ha))
    | _ => cases h
end
end
section
noncomputable def nm1 : PySem.Expr → Option (Str × Pos)
  | .Name x p => some (x, p)
  | _ => none
theorem nm1_is {e : PySem.Expr} {x : Str × Pos} (h : nm1 e = some x) : e = .Name x.1 x.2 := by cases e <;> first | (cases h; rfl) | cases h
noncomputable def tupOf : PySem.Expr → Option (List PySem.Expr × Nat × Pos)
  | .Tuple es k p => some (es, k, p)
  | _ => none
theorem tupOf_is {e : PySem.Expr} {x : List PySem.Expr × Nat × Pos} (h : tupOf e = some x) : e = .Tuple x.1 x.2.1 x.2.2 := by cases e <;> first | (cases h; rfl) | cases h
noncomputable def two {α : Type} : List α → Option (α × α)
  | [] => none
  | a :: r => match r with
    | [] => none
    | b :: r => match r with
      | [] => some (a, b)
      | _ :: _ => none
theorem two_is {α : Type} {l : List α} {x : α × α} (h : two l = some x) : l = [x.1, x.2] := by
  cases l with
  | nil => cases h
  | cons a r => cases r with
    | nil => cases h
    | cons b r => cases r with
      | nil => cases h; rfl
      | cons => cases h
noncomputable def tnames (cs : Scope) (ns : List Str) : List PySem.Expr → Option (List Nat)
  | [] => some []
  | e :: r => (nm1 e).bind fun x => (lname cs ns x.1).bind fun i => (tnames cs ns r).map (i :: ·)
theorem tnames_is {cs : Scope} {ns : List Str} {e : PySem.Expr} {r : List PySem.Expr} {is : List Nat} (h : tnames cs ns (e :: r) = some is) : ∃ x p i l, e = .Name x p ∧ is = i :: l ∧ lname cs ns x = some i ∧ tnames cs ns r = some l := by
  obtain ⟨x, hx, h⟩ := Option.bind_eq_some_iff.mp h
  obtain ⟨i, hi, h⟩ := Option.bind_eq_some_iff.mp h
  obtain ⟨l, hl, rfl⟩ := Option.map_eq_some_iff.mp h
  exact ⟨x.1, x.2, i, l, nm1_is hx, rfl, hi, hl⟩
noncomputable def isTupE (e : PySem.Expr) : Bool := (tupOf e).isSome
noncomputable def compA (K : Frag) (cs : Scope) (ns : List Str) (t v : PySem.Expr) (k : Option MS) : Option MS := match nm1 t with
  | some x => (lname cs ns x.1).bind fun i => (comp K cs ns 30 v).bind fun e => k.map (.asg i e)
  | none => (tupOf t).bind fun ts => match tupOf v with
    | none => (tnames cs ns ts.1).bind fun is => (comp K cs ns 30 v).bind fun e => k.map (.unp is e)
    | some vs => (two ts.1).bind fun xy => (nm1 xy.1).bind fun x => (nm1 xy.2).bind fun y => (two vs.1).bind fun ab =>
      oIf ((x.1 == y.1) = false ∧ (y.2.line == x.2.line) = true ∧ [ab.1, ab.2].all (foldedForSure 8) = false ∧ [ab.1, ab.2].all (constantsAlone 8) = false)
        ((lname cs ns x.1).bind fun i => (lname cs ns y.1).bind fun j => (comp K cs ns 30 v).bind fun e => k.map (.swp i j e))
noncomputable def compS (K : Frag) (cs : Scope) (ns : List Str) : Nat → List Stmt → Option MS
  | 0, _ => none
  | n + 1, ss => match ss with
    | [] => some .nil
    | s :: r => match s with
      | .Assign ts v _ => match ts with
        | [] => none
        | t :: ts => match ts with
          | [] => compA K cs ns t v (compS K cs ns n r)
          | _ :: _ => none
      | .If t a b _ => (comp K cs ns 30 t).bind fun t => (compS K cs ns n a).bind fun a => (compS K cs ns n b).bind fun b => (compS K cs ns n r).map (.iff t a b)
      | .Return e _ => e.bind fun e => (comp K cs ns 30 e).map .ret
      | .Raise .. => some .fail
      | _ => none
section
variable (H : Here) (prog : Program) (w : World) (CO : Addr → AV → (AV → Prop) → Prop) (ns : List Str)
noncomputable def Sv (ss : List Stmt) (ms : MS) : Prop := ∀ {ρ : Rho} {R : AV → Prop} {Nx : Rho → Prop} {s : Shared} {led : Led} {m : Str → Option Value} {Q : Flow → Shared → Prop} {E : Value → Shared → Prop}, xw CO ms ρ R Nx → Fr H.h₀ H.L s.heap m → News H.h₀ H.L s.heap led → EnvR w ns led m ρ →
  (∀ v av h' tk' led' m', Fr H.h₀ H.L h' m' → News H.h₀ H.L h' led' → (∀ p ∈ led, p ∈ led') → Rep w led' v av → R av → Q (.ret v) { s with heap := h', toks := tk' }) →
  (∀ ρ' h' tk' led' m', Fr H.h₀ H.L h' m' → News H.h₀ H.L h' led' → (∀ p ∈ led, p ∈ led') → EnvR w ns led' m' ρ' → Nx ρ' → Q .next { s with heap := h', toks := tk' }) →
  wpAny (model prog w) H.A (execs ss H.env) Q E s
end
section
variable {H : Here} {prog : Program} {w : World} {CO : Addr → AV → (AV → Prop) → Prop} {ns : List Str}
theorem idx_inj : ∀ {ns : List Str} {x y : Str} {i : Nat}, idx x ns = some i → idx y ns = some i → x = y := by
  intro ns
  induction ns with
  | nil => intro x y i h; cases h
  | cons z r ih =>
    intro x y i h g
    unfold idx at h g
    split at h
    · rename_i e
      cases h
      split at g
      · rename_i e'
        exact e.symm.trans e'
      · obtain ⟨j, _, e⟩ := Option.map_eq_some_iff.mp g
        exact absurd e (Nat.succ_ne_zero _)
    · split at g
      · cases g
        obtain ⟨j, _, e⟩ := Option.map_eq_some_iff.mp h
        exact absurd e (Nat.succ_ne_zero _)
      · obtain ⟨j, h1, e1⟩ := Option.map_eq_some_iff.mp h
        obtain ⟨j', h2, e2⟩ := Option.map_eq_some_iff.mp g
        have : j = j' := by omega
        subst this
        exact ih h1 h2
theorem EnvR.store {led : Led} {m : Str → Option Value} {ρ : Rho} {x : Str} {i : Nat} {v : Value} {av : AV} (h : EnvR w ns led m ρ) (hx : idx x ns = some i) (hv : Rep w led v av) : EnvR w ns led (fun y => if y = x then some v else m y) ((i, av) :: ρ) := by
  intro y j a hy ha
  unfold lk at ha
  split at ha
  · rename_i e
    cases ha
    have e := Nat.eq_of_beq_eq_true e
    subst e
    have := idx_inj hy hx
    subst this
    exact ⟨v, by simp, hv⟩
  · rename_i e
    have hne : i ≠ j := Nat.ne_of_beq_eq_false e
    have hyx : y ≠ x := fun e => by subst e; rw [hx] at hy; exact hne (Option.some.inj hy)
    obtain ⟨u, hu, hr⟩ := h y j a hy ha
    exact ⟨u, by simp [hyx, hu], hr⟩
theorem lname_idx {cs : Scope} {x : Str} {i : Nat} (h : lname cs ns x = some i) : cs.names.lookup x = some .local ∧ idx x ns = some i := by
  unfold lname at h
  split at h
  · rename_i hc; exact ⟨hc.1, h⟩
  · cases h
theorem st_ok (O : H.Ok prog w CO) {x : Str} {i : Nat} (hx : lname H.cs ns x = some i) {v : Value} {av : AV} {s : Shared} {led : Led} {m : Str → Option Value} {ρ : Rho} {Q : Unit → Shared → Prop} {E : Value → Shared → Prop} (F : Fr H.h₀ H.L s.heap m) (N : News H.h₀ H.L s.heap led) (R : EnvR w ns led m ρ) (hv : Rep w led v av)
    (k : ∀ h' tk' m', Fr H.h₀ H.L h' m' → News H.h₀ H.L h' led → EnvR w ns led m' ((i, av) :: ρ) → Q () { s with heap := h', toks := tk' }) : wpAny (model prog w) H.A (storeName H.env x v) Q E s :=
  storeX_L F N (fun h' F' N' => k h' _ _ F' N' (R.store (lname_idx hx).2 hv)) O.hk (lname_idx hx).1
theorem comp_swap {K : Frag} {cs : Scope} {n : Nat} {e : PySem.Expr} {me : ME} (h : comp K cs ns n e = some me) (t : Option PySem.Expr) (l : Nat) (env : Env) : swapsWith e t l env = pure false := by
  cases e <;> first | rfl | (cases n <;> cases h)
theorem unp_names {env : Env} : ∀ {ts : List PySem.Expr} {is : List Nat}, tnames H.cs ns ts = some is → (assignEach ts env).length = ts.length ∧ List.findIdx? (fun x => x.fst) (assignEach ts env) = none := by
  intro ts
  induction ts with
  | nil => intro is _; exact ⟨rfl, rfl⟩
  | cons e r ih =>
    intro is h
    obtain ⟨x, p, i, l, rfl, rfl, _, h2⟩ := tnames_is h
    obtain ⟨a, b⟩ := ih h2
    refine ⟨show (assignEach r env).length + 1 = _ by simp [a], ?_⟩
    show List.findIdx? (fun x => x.fst) ((false, assign (.Name x p) env) :: assignEach r env) = none
    rw [List.findIdx?_cons]; simp [b]
theorem unp_len {led : Led} {Nx : Rho → Prop} : ∀ {ts : List PySem.Expr} {is : List Nat}, tnames H.cs ns ts = some is → ∀ {l : AV} {vs : List Value} {ρ : Rho}, Reps w led vs l → unpw is l ρ Nx → vs.length = ts.length := by
  intro ts
  induction ts with
  | nil => intro is h l vs ρ hr hu; cases h; cases l <;> first | exact hu.elim | (cases hr; rfl)
  | cons t ts ih =>
    intro is h l vs ρ hr hu
    obtain ⟨x, p, i, l', rfl, rfl, _, h2⟩ := tnames_is h
    cases l with
    | lcons a l => cases hr with | cons x y => simp [ih h2 y hu]
    | _ => exact hu.elim
theorem unp_ok (O : H.Ok prog w CO) {E : Value → Shared → Prop} : ∀ {ts : List PySem.Expr} {is : List Nat}, tnames H.cs ns ts = some is → ∀ {vs : List Value} {l : AV} {ρ : Rho} {Nx : Rho → Prop} {s : Shared} {led : Led} {m : Str → Option Value} {Q : Unit → Shared → Prop}, Reps w led vs l → unpw is l ρ Nx → Fr H.h₀ H.L s.heap m → News H.h₀ H.L s.heap led → EnvR w ns led m ρ →
    (∀ ρ' h' tk' m', Fr H.h₀ H.L h' m' → News H.h₀ H.L h' led → EnvR w ns led m' ρ' → Nx ρ' → Q () { s with heap := h', toks := tk' }) →
    wpAny (model prog w) H.A (assignInOrder (List.map (fun x => x.snd) (assignEach ts H.env)) vs) Q E s := by
  intro ts
  induction ts with
  | nil =>
    intro is h vs l ρ Nx s led m Q hr hu F N R k
    cases h
    cases l with
    | lnil => cases hr; exact assignInOrder_nil (k ρ s.heap s.toks m F N R hu)
    | _ => exact hu.elim
  | cons t ts ih =>
    intro is h vs l ρ Nx s led m Q hr hu F N R k
    obtain ⟨x, p, i, l', rfl, rfl, hi, hl'⟩ := tnames_is h
    cases l with
    | lcons a l =>
      cases hr with
      | cons ha hr =>
        show wpAny _ _ (assignInOrder (assign (.Name x p) H.env :: List.map (fun x => x.snd) (assignEach ts H.env)) _) Q E s
        refine assignInOrder_cons (PyProof.Rows.assign_Name (st_ok O hi F N R ha fun h' tk' m' F' N' R' => ?_))
        exact ih hl' hr hu F' N' R' fun ρ' h2 tk2 m2 F2 N2 R2 q => k ρ' h2 tk2 m2 F2 N2 R2 q
    | _ => exact hu.elim
theorem swap_none {ts : List PySem.Expr} {k : Nat} {p : Pos} {v : PySem.Expr} {env : Env} (h : isTupE v = false) : swappedStores [.Tuple ts k p] v env = pure none := by
  cases v <;> first | rfl | cases h
noncomputable def isStar : PySem.Expr → Bool
  | .Starred .. => true
  | _ => false
theorem swap_some {x y : Str} {p q tp : Pos} {k k' : Nat} {a b : PySem.Expr} {vp : Pos} {env : Env} (hk : env.scope.kind = .function) (hx : env.kindOf x = some .local) (hy : env.kindOf y = some .local) (hne : (x == y) = false) (hl : (q.line == p.line) = true)
    (h1 : [a, b].all (foldedForSure 8) = false) (h2 : [a, b].all (constantsAlone 8) = false) (hs : isStar a = false ∧ isStar b = false) : swappedStores [.Tuple [.Name x p, .Name y q] k tp] (.Tuple [a, b] k' vp) env = pure (some [x, y]) := by
  have hb : env.blockKind = .function := by simp [Env.blockKind, hk, ScopeKind.isAnnotationScope]
  have hxy : x ≠ y := by simpa using hne
  have hyx : (y == x) = false := by simpa using Ne.symm hxy
  have hp1 : (PySem.Expr.Name x p).pos = p := rfl
  have hp2 : (PySem.Expr.Name y q).pos = q := rfl
  have hq : q.line = p.line := by simpa using hl
  unfold swappedStores
  simp [hb, h1, h2, hx, hy, hp1, hp2, hq, List.eraseDups_cons, hxy, Ne.symm hxy]
  intro h
  rcases h with h | h
  · cases a <;> first | (cases h; done) | (cases hs.1; done)
  · cases b <;> first | (cases h; done) | (cases hs.2; done)
theorem bindName_ok {x : Str} {v : Value} {s : Shared} {Q : Unit → Shared → Prop} {E : Value → Shared → Prop} (h : wpAny (model prog w) H.A (storeName H.env x v) Q E s) : wpAny (model prog w) H.A (bindName H.env x v) Q E s := bindName_ h
theorem noStar1 {K : Frag} {cs : Scope} {a : PySem.Expr} {l : ME} {n : Nat} (h : comp K cs ns n a = some l) : isStar a = false := by
  cases a <;> first | rfl | (rw [comp_star] at h; cases h)
theorem noStar {K : Frag} {cs : Scope} {a b : PySem.Expr} {l : ME} {n : Nat} (h : cl (comp K cs ns n) [a, b] = some l) : isStar a = false ∧ isStar b = false := by
  simp only [cl] at h
  split at h
  · rename_i ha hl
    split at hl
    · rename_i hb _
      exact ⟨noStar1 ha, noStar1 hb⟩
    · cases hl
  · cases h
theorem sv_nil : Sv H prog w CO ns [] .nil := by
  intro ρ R Nx s led m Q E hW F N Rn kr kn
  exact wpAny_execs_nil (kn ρ s.heap s.toks led m F N (fun _ h => h) Rn hW)
theorem sv_asg (O : H.Ok prog w CO) {x : Str} {p pos : Pos} {v : PySem.Expr} {r : List Stmt} {i : Nat} {e : ME} {k : MS} (hi : lname H.cs ns x = some i) (he : comp (hd.heap_1 w.params) H.cs ns 30 v = some e) (hk : Sv H prog w CO ns r k) : Sv H prog w CO ns (.Assign [.Name x p] v pos :: r) (.asg i e k) := by
  intro ρ R Nx s led m Q E hW F N Rn kr kn
  have hv := @And.left _ _ (comp_ok (prog := prog) (CO := CO) O _ _ _ he)
  refine wpAny_execs_cons (wpAny_Assign_Name (hv hW F N Rn fun v av h' tk' led' F' N' hs hr hq => ?_) (comp_swap he _ _ _))
  refine st_ok O hi F' N' (Rn.mono hs) hr fun h2 tk2 m2 F2 N2 R2 => ?_
  exact hk hq F2 N2 R2 (fun v av h3 tk3 led3 m3 F3 N3 hs3 hr3 q3 => kr v av h3 tk3 led3 m3 F3 N3 (sub_trans hs hs3) hr3 q3) (fun ρ' h3 tk3 led3 m3 F3 N3 hs3 hr3 q3 => kn ρ' h3 tk3 led3 m3 F3 N3 (sub_trans hs hs3) hr3 q3)
theorem sv_unp (O : H.Ok prog w CO) {ts : List PySem.Expr} {tk : Nat} {p pos : Pos} {v : PySem.Expr} {r : List Stmt} {is : List Nat} {e : ME} {k : MS} (hv : isTupE v = false) (hi : tnames H.cs ns ts = some is) (he : comp (hd.heap_1 w.params) H.cs ns 30 v = some e) (hk : Sv H prog w CO ns r k) : Sv H prog w CO ns (.Assign [.Tuple ts tk p] v pos :: r) (.unp is e k) := by
  intro ρ R Nx s led m Q E hW F N Rn kr kn
  have hv' := @And.left _ _ (comp_ok (prog := prog) (CO := CO) O _ _ _ he)
  refine wpAny_execs_cons (Assign_Tuple (hv' hW F N Rn fun v av h' tk' led' F' N' hs hr hq => ?_) (show swapsWithSole _ _ _ _ = _ from comp_swap he (some (.Tuple ts tk p)) pos.line H.env) (swap_none hv))
  cases av with
  | tup l =>
    cases hr with
    | tup hm hrs =>
      have hlen := unp_len (H := H) hi hrs hq
      obtain ⟨h1, h2⟩ := unp_names (H := H) (ns := ns) (env := H.env) hi
      refine unpackN_ F' N' (News.isTup N' hm) rfl (by simp [h1, hlen]) h2 fun h2' F2 N2 => ?_
      refine unp_ok O hi hrs hq F2 N2 (Rn.mono hs) fun ρ' h3 tk3 m3 F3 N3 R3 q3 => ?_
      exact hk q3 F3 N3 R3 (fun v av h4 tk4 led4 m4 F4 N4 hs4 hr4 q4 => kr v av h4 tk4 led4 m4 F4 N4 (sub_trans hs hs4) hr4 q4) (fun ρ' h4 tk4 led4 m4 F4 N4 hs4 hr4 q4 => kn ρ' h4 tk4 led4 m4 F4 N4 (sub_trans hs hs4) hr4 q4)
  | _ => exact hq.elim
theorem sv_swp (O : H.Ok prog w CO) {x y : Str} {p q tp vp pos : Pos} {tk tk' : Nat} {a b : PySem.Expr} {r : List Stmt} {i j : Nat} {e : ME} {k : MS} (hne : (x == y) = false) (hl : (q.line == p.line) = true) (h1 : [a, b].all (foldedForSure 8) = false) (h2 : [a, b].all (constantsAlone 8) = false)
    (hi : lname H.cs ns x = some i) (hj : lname H.cs ns y = some j) (he : comp (hd.heap_1 w.params) H.cs ns 30 (.Tuple [a, b] tk' vp) = some e) (hk : Sv H prog w CO ns r k) : Sv H prog w CO ns (.Assign [.Tuple [.Name x p, .Name y q] tk tp] (.Tuple [a, b] tk' vp) pos :: r) (.swp i j e k) := by
  intro ρ R Nx s led m Q E hW F N Rn kr kn
  have hv' := @And.left _ _ (comp_ok (prog := prog) (CO := CO) O _ _ _ he)
  have hst : isStar a = false ∧ isStar b = false := by
    obtain ⟨_, he'⟩ := oIf_some (show oIf ([a, b].length < 100) ((cl (comp (hd.heap_1 w.params) H.cs ns 29) [a, b]).map .tup) = some e from he)
    obtain ⟨l, hl, _⟩ := Option.map_eq_some_iff.mp he'
    exact noStar hl
  refine wpAny_execs_cons (Assign_Tuple_swapped (names := [x, y]) (hv' hW F N Rn fun v av h' tk' led' F' N' hs hr hq => ?_) (show swapsWithSole _ _ _ _ = _ from comp_swap he (some (.Tuple [.Name x p, .Name y q] tk tp)) pos.line H.env) (swap_some O.hk (lname_idx hi).1 (lname_idx hj).1 hne hl h1 h2 hst))
  cases hr with
  | @tup _ us l hm hrs =>
    cases hrs with
    | @cons v0 us0 a0 l0 ha hb =>
      cases hb with
      | @cons v1 us1 a1 l1 hb hc =>
        cases hc with
        | nil =>
          refine unpackItemsN_ F' N' (News.isTup N' hm) rfl rfl fun h2' F2 N2 => ?_
          show wpAny _ _ (assignInOrder [fun v => bindName H.env y v, fun v => bindName H.env x v] [v1, v0]) _ _ _
          refine assignInOrder_cons (bindName_ (st_ok O hj F2 N2 (Rn.mono hs) hb fun h3 tk3 m3 F3 N3 R3 => ?_))
          refine assignInOrder_cons (bindName_ (st_ok O hi F3 N3 R3 ha fun h4 tk4 m4 F4 N4 R4 => assignInOrder_nil ?_))
          exact hk hq F4 N4 R4 (fun v av h5 tk5 led5 m5 F5 N5 hs5 hr5 q5 => kr v av h5 tk5 led5 m5 F5 N5 (sub_trans hs hs5) hr5 q5) (fun ρ' h5 tk5 led5 m5 F5 N5 hs5 hr5 q5 => kn ρ' h5 tk5 led5 m5 F5 N5 (sub_trans hs hs5) hr5 q5)
        | cons => exact hq.elim
      | nil => exact hq.elim
    | nil => exact hq.elim
  | _ => exact hq.elim
theorem sv_ret (O : H.Ok prog w CO) {v : PySem.Expr} {pos : Pos} {r : List Stmt} {e : ME} (he : comp (hd.heap_1 w.params) H.cs ns 30 v = some e) : Sv H prog w CO ns (.Return (some v) pos :: r) (.ret e) := by
  intro ρ R Nx s led m Q E hW F N Rn kr kn
  have hv := @And.left _ _ (comp_ok (prog := prog) (CO := CO) O _ _ _ he)
  exact wpAny_execs_cons (wpAny_Return_some (hv hW F N Rn fun v av h' tk' led' F' N' hs hr hq => kr v av h' tk' led' m F' N' hs hr hq))
theorem sv_if (O : H.Ok prog w CO) {t : PySem.Expr} {a b r : List Stmt} {pos : Pos} {c : ME} {ma mb mk : MS} (ht : comp (hd.heap_1 w.params) H.cs ns 30 t = some c) (ha : Sv H prog w CO ns a ma) (hb : Sv H prog w CO ns b mb) (hk : Sv H prog w CO ns r mk) : Sv H prog w CO ns (.If t a b pos :: r) (.iff c ma mb mk) := by
  intro ρ R Nx s led m Q E hW F N Rn kr kn
  have hc := @And.right _ _ (comp_ok (prog := prog) (CO := CO) O _ _ _ ht)
  have arm : ∀ {ss : List Stmt} {ms : MS} {h' : Heap} {tk' : Nat} {led' : Led}, Sv H prog w CO ns ss ms → xw CO ms ρ R (fun ρ' => xw CO mk ρ' R Nx) → Fr H.h₀ H.L h' m → News H.h₀ H.L h' led' → (∀ p ∈ led, p ∈ led') →
      wpAny (model prog w) H.A (execs ss H.env) (fun f s' => match f with | Flow.next => wpAny (model prog w) H.A (execs r H.env) Q E s' | f => Q f s') E { s with heap := h', toks := tk' } := by
    intro ss ms h' tk' led' hS hX F' N' hs
    refine hS hX F' N' (Rn.mono hs) (fun v av h3 tk3 led3 m3 F3 N3 hs3 hr3 q3 => kr v av h3 tk3 led3 m3 F3 N3 (sub_trans hs hs3) hr3 q3) fun ρ' h3 tk3 led3 m3 F3 N3 hs3 R3 q3 => ?_
    exact hk q3 F3 N3 R3 (fun v av h4 tk4 led4 m4 F4 N4 hs4 hr4 q4 => kr v av h4 tk4 led4 m4 F4 N4 (sub_trans hs (sub_trans hs3 hs4)) hr4 q4) (fun ρ' h4 tk4 led4 m4 F4 N4 hs4 hr4 q4 => kn ρ' h4 tk4 led4 m4 F4 N4 (sub_trans hs (sub_trans hs3 hs4)) hr4 q4)
  refine wpAny_execs_cons (wpAny_If (hc hW F N Rn fun h' tk' led' F' N' hs => ⟨fun hT => ?_, fun hF => ?_⟩))
  · exact arm ha hT F' N' hs
  · exact arm hb hF F' N' hs
theorem sv_all (O : H.Ok prog w CO) : ∀ n ss ms, compS (hd.heap_1 w.params) H.cs ns n ss = some ms → Sv H prog w CO ns ss ms := by
  intro n
  induction n with
  | zero => intro ss ms h; cases h
  | succ n ih =>
    intro ss ms h
    cases ss with
    | nil => cases h; exact sv_nil
    | cons st r =>
      cases st with
      | Assign ts v p =>
        cases ts with
        | nil => cases h
        | cons t ts => cases ts with
          | cons => cases h
          | nil =>
            have h : compA (hd.heap_1 w.params) H.cs ns t v (compS (hd.heap_1 w.params) H.cs ns n r) = some ms := h
            unfold compA at h
            cases hx : nm1 t with
            | some x =>
              rw [hx] at h
              obtain ⟨i, hi, h⟩ := Option.bind_eq_some_iff.mp (show ((lname H.cs ns x.1).bind fun i => (comp (hd.heap_1 w.params) H.cs ns 30 v).bind fun e => (compS (hd.heap_1 w.params) H.cs ns n r).map (.asg i e)) = some ms from h)
              obtain ⟨e, he, h⟩ := Option.bind_eq_some_iff.mp h
              obtain ⟨k, hk, rfl⟩ := Option.map_eq_some_iff.mp h
              have := nm1_is hx
              subst this
              exact @sv_asg H prog w CO ns O x.1 x.2 p v r i e k hi he (ih _ _ hk)
            | none =>
              rw [hx] at h
              obtain ⟨ts, ht, h⟩ := Option.bind_eq_some_iff.mp h
              have := tupOf_is ht
              subst this
              cases hv : tupOf v with
              | none =>
                rw [hv] at h
                obtain ⟨is, hi, h⟩ := Option.bind_eq_some_iff.mp (show ((tnames H.cs ns ts.1).bind fun is => (comp (hd.heap_1 w.params) H.cs ns 30 v).bind fun e => (compS (hd.heap_1 w.params) H.cs ns n r).map (.unp is e)) = some ms from h)
                obtain ⟨e, he, h⟩ := Option.bind_eq_some_iff.mp h
                obtain ⟨k, hk, rfl⟩ := Option.map_eq_some_iff.mp h
                exact @sv_unp H prog w CO ns O ts.1 ts.2.1 ts.2.2 p v r is e k (by rw [isTupE, hv]; rfl) hi he (ih _ _ hk)
              | some vs =>
                rw [hv] at h
                obtain ⟨xy, hxy, h⟩ := Option.bind_eq_some_iff.mp (show ((two ts.1).bind fun xy => (nm1 xy.1).bind fun x => (nm1 xy.2).bind fun y => (two vs.1).bind fun ab => oIf ((x.1 == y.1) = false ∧ (y.2.line == x.2.line) = true ∧ [ab.1, ab.2].all (foldedForSure 8) = false ∧ [ab.1, ab.2].all (constantsAlone 8) = false) ((lname H.cs ns x.1).bind fun i => (lname H.cs ns y.1).bind fun j => (comp (hd.heap_1 w.params) H.cs ns 30 v).bind fun e => (compS (hd.heap_1 w.params) H.cs ns n r).map (.swp i j e))) = some ms from h)
                obtain ⟨x, hx1, h⟩ := Option.bind_eq_some_iff.mp h
                obtain ⟨y, hy1, h⟩ := Option.bind_eq_some_iff.mp h
                obtain ⟨ab, hab, h⟩ := Option.bind_eq_some_iff.mp h
                obtain ⟨hc, h⟩ := oIf_some h
                obtain ⟨i, hi, h⟩ := Option.bind_eq_some_iff.mp h
                obtain ⟨j, hj, h⟩ := Option.bind_eq_some_iff.mp h
                obtain ⟨e, he, h⟩ := Option.bind_eq_some_iff.mp h
                obtain ⟨k, hk, rfl⟩ := Option.map_eq_some_iff.mp h
                have e1 := tupOf_is hv
                have e2 := two_is hxy
                have e3 := two_is hab
                have e4 := nm1_is hx1
                have e5 := nm1_is hy1
                rw [e3] at e1
                subst e1
                rw [e2, e4, e5]
                exact @sv_swp H prog w CO ns O x.1 y.1 x.2 y.2 ts.2.2 vs.2.2 p ts.2.1 vs.2.1 ab.1 ab.2 r i j e k hc.1 hc.2.1 hc.2.2.1 hc.2.2.2 hi hj he (ih _ _ hk)
      | If t a b p =>
        obtain ⟨c, hc, h⟩ := Option.bind_eq_some_iff.mp (show ((comp (hd.heap_1 w.params) H.cs ns 30 t).bind fun t => (compS (hd.heap_1 w.params) H.cs ns n a).bind fun a => (compS (hd.heap_1 w.params) H.cs ns n b).bind fun b => (compS (hd.heap_1 w.params) H.cs ns n r).map (.iff t a b)) = some ms from h)
        obtain ⟨ma, ha, h⟩ := Option.bind_eq_some_iff.mp h
        obtain ⟨mb, hb, h⟩ := Option.bind_eq_some_iff.mp h
        obtain ⟨mk, hk, rfl⟩ := Option.map_eq_some_iff.mp h
        exact sv_if O hc (ih _ _ ha) (ih _ _ hb) (ih _ _ hk)
      | Return e p =>
        obtain ⟨e', rfl, h⟩ := Option.bind_eq_some_iff.mp (show (e.bind fun e => (comp (hd.heap_1 w.params) H.cs ns 30 e).map .ret) = some ms from h)
        obtain ⟨me, he, rfl⟩ := Option.map_eq_some_iff.mp h
        exact sv_ret O he
      | Raise =>
        cases h
        intro ρ R Nx s led m Q E hW F N Rn kr kn
        exact hW.elim
      | _ => cases h
end
end
section
noncomputable def rho0 : Nat → AV → Rho
  | k, .lcons a l => (k, a) :: rho0 (k + 1) l
  | _, _ => []
noncomputable def fdOf (K : Frag) (f : Addr) : FuncData := match K.lookup f with
  | some ⟨_, _, .func fd, _⟩ => fd
  | _ => default
noncomputable def psOf (K : Frag) (f : Addr) : List Str := (fdOf K f).params.args.map (·.arg)
noncomputable def fetch (K : Frag) (f : Addr) : Option (Nat × MS) := match K.lookup f with
  | some ⟨_, _, .func fd, _⟩ => match fd.body with
    | .stmts body =>
      if fd.globals = mainGlobals ∧ fd.closure = [] ∧ fd.builtins = builtinsNs ∧ codeIn K fd.code fd.qualname = true ∧ fd.scope.isCoroutine = false ∧ fd.scope.isGenerator = false ∧ fd.scope.kind = .function ∧
          (fd.scope.names.all fun x => x.2 != .cell) = true ∧ ((fd.params.args.map (·.arg)).all fun x => fd.scope.names.lookup x == some .local) = true ∧ (fd.params.args.map (·.arg)).Nodup then
        (compS K fd.scope (fd.params.args.map (·.arg) ++ fd.scope.names.map (·.1)) 40 body).map (fd.params.args.length, ·)
      else none
    | _ => none
  | _ => none
section
variable {w : World} {led : Led}
theorem lookup_mem {y : Str} {v : Value} : ∀ {l : List (Str × Value)}, (l.map (·.1)).Nodup → (y, v) ∈ l → l.lookup y = some v
  | [], _, h => nomatch h
  | (x, u) :: r, nd, h => by
    obtain ⟨n1, n2⟩ := List.nodup_cons.mp nd
    rw [List.lookup_cons]
    rcases List.mem_cons.mp h with e | h'
    · cases e; simp
    · have : y ≠ x := fun e => by subst e; exact n1 (List.mem_map.mpr ⟨(y, v), h', rfl⟩)
      rw [show (y == x) = false from by simpa using this]
      exact lookup_mem n2 h'
theorem init_aux : ∀ {ps : List Str} {vs : List Value} {l : AV} {k : Nat} {rest : List Str}, Reps w led vs l → vs.length = ps.length → ∀ {y i a}, idx y (ps ++ rest) = some i → lk (rho0 k l) (k + i) = some a → ∃ v, (y, v) ∈ ps.zip vs ∧ Rep w led v a := by
  intro ps
  induction ps with
  | nil =>
    intro vs l k rest hr hl y i a h1 h2
    cases vs with
    | nil => cases hr; cases h2
    | cons => cases hl
  | cons p ps ih =>
    intro vs l k rest hr hl y i a h1 h2
    cases hr with
    | nil => cases hl
    | @cons v vs b l hb hr =>
      simp only [List.cons_append, idx] at h1
      simp only [rho0, lk] at h2
      split at h1
      · rename_i e
        cases h1
        rw [Nat.add_zero, show Nat.beq k k = true from Nat.beq_refl k] at h2
        cases h2
        exact ⟨v, by rw [e]; exact List.mem_cons_self .., hb⟩
      · obtain ⟨j, hj, rfl⟩ := Option.map_eq_some_iff.mp h1
        rw [show Nat.beq k (k + (j + 1)) = false from by
          cases q : Nat.beq k (k + (j + 1)) with
          | false => rfl
          | true => have := Nat.eq_of_beq_eq_true q; omega] at h2
        rw [show k + (j + 1) = (k + 1) + j by omega] at h2
        obtain ⟨u, hu, hr'⟩ := ih (k := k + 1) hr (by simpa using hl) hj h2
        exact ⟨u, List.mem_cons_of_mem _ hu, hr'⟩
theorem init_env {ps : List Str} {vs : List Value} {l : AV} {rest : List Str} (nd : ps.Nodup) (hr : Reps w led vs l) (hl : vs.length = ps.length) : EnvR w (ps ++ rest) led (fun y => List.lookup y (ps.zip vs).reverse) (rho0 0 l) := by
  intro y i a h1 h2
  obtain ⟨v, hv, hr'⟩ := init_aux (k := 0) hr hl h1 (by rw [Nat.zero_add]; exact h2)
  refine ⟨v, lookup_mem ?_ (List.mem_reverse.mpr hv), hr'⟩
  rw [List.map_reverse, List.map_fst_zip (by omega)]
  exact List.pairwise_reverse.mpr (nd.imp Ne.symm)
end
section
variable {prog : Program} {w : World} {D U : Nat}
theorem fn_ok {f : Addr} {l : AV} {Φ : AV → Prop} {n : Nat} {ms : MS} (hf : fetch (hd.heap_1 w.params) f = some (n, ms)) (hlen : l.len = n)
    (hb : ∀ vs : List Value, vs.length = n → bindArgs (fdOf (hd.heap_1 w.params) f) ⟨vs, []⟩ = pure ((psOf (hd.heap_1 w.params) f).zip vs)) (hv : xw (ACon prog w D U) ms (rho0 0 l) Φ (fun _ => Φ .none)) : ACon prog w (D + 1) (U + 3) f l Φ := by
  refine ⟨?_⟩
  intro vs led hr p loose mean mg mb dp un gd cn cs a ccd cl outer A₀ base h₀ L m s Q E B F X N T hk hdp hun ret
  unfold fetch at hf
  split at hf
  · rename_i oc od fd osl hK
    split at hf
    · rename_i body hbody
      split at hf
      · rename_i hc
        obtain ⟨c1, c2, c3, c4, c5, c6, c7, c8, c9, c10⟩ := hc
        obtain ⟨ms', hms, e⟩ := Option.map_eq_some_iff.mp hf
        obtain ⟨rfl, rfl⟩ := Prod.mk.inj e
        have hfd : fd = fnOf fd.name fd.qualname fd.params body fd.scope fd.defaults fd.kwdefaults fd.doc fd.pyModule fd.annotations fd.code fd.closureTuple := by
          obtain ⟨a1, a2, a3, a4, a5, a6, a7, a8, a9, a10, a11, a12, a13, a14, a15⟩ := fd
          simp only at c1 c2 c3 hbody
          subst c1 c2 c3 hbody
          rfl
        have hfo : fdOf (hd.heap_1 w.params) f = fd := by unfold fdOf; rw [hK]
        have hvl : vs.length = (fd.params.args.map (·.arg)).length := by rw [List.length_map]; exact hr.len.trans hlen
        refine wpAny_call ?_
        refine code_def B F X N T rfl rfl hk (hK.trans (by rw [← hfd])) c4 (by show dp < _; have : recursionLimit = 1000 := rfl; omega) (BindsTo.of_eq (binds := (fd.params.args.map (·.arg)).zip vs) (by rw [← hfd, ← hfo]; exact hb vs (hr.len.trans hlen))) ?_ ?_ c5 c6 c7 ?_
        · intro y hy
          have := List.of_mem_zip (a := y.1) (b := y.2) hy
          have h9 := List.all_eq_true.mp c9 _ this.1
          exact beq_iff_eq.mp h9
        · intro g L' h₁ FG F' N' B' X' T'
          let H : Here := { p := p, loose := loose, mean := mean, mg := mg, mb := mb, dp := dp + 1, un := un + 3, gd := gd, cn := fd.qualname, cs := fd.scope, a := f, ccd := fd.code, outer := envX cn cs L a ccd cl :: outer, A₀ := ktrTop dp un gd cn cs L a ccd cl outer, base := base, h₀ := g, L := L' }
          have O : H.Ok prog w (ACon prog w D U) := ⟨X', T', c7, by show un + 3 < 9000; omega, fun hA => acon_co (H := H) B' X' T' c7 (by show dp + 1 + D < 900; omega) (by show un + 3 + U < 9000; omega) hA⟩
          have hS : Sv H prog w (ACon prog w D U) (fd.params.args.map (·.arg) ++ fd.scope.names.map (·.1)) body ms' := @sv_all H prog w (ACon prog w D U) _ O _ _ _ hms
          refine hS hv F' N' (init_env c10 hr hvl) ?_ ?_
          · intro v av h' tk' led' m' F2 N2 hs hR hP
            refine leaveK_ F2 N2 fun F3 N3 => ?_
            exact ret v led' h' tk' F3 (fun p hp => N3 p ((List.mem_append.mp hp).elim (fun h => h) fun h => hs p h)) ⟨av, hR.mono fun p hp => List.mem_append_left _ hp, hP⟩
          · intro ρ' h' tk' led' m' F2 N2 hs hR hP
            refine leaveK_ F2 N2 fun F3 N3 => ?_
            exact ret .none led' h' tk' F3 (fun p hp => N3 p ((List.mem_append.mp hp).elim (fun h => h) fun h => hs p h)) ⟨.none, .none, hP⟩
        · intro x hx e
          have := List.all_eq_true.mp c8 x hx
          rw [e] at this
          cases this
      · cases hf
    · cases hf
  · cases hf
theorem bind1 {fd : FuncData} {ps : List Str} (h : ∀ a, bindArgs fd ⟨[a], []⟩ = pure (ps.zip [a])) : ∀ vs : List Value, vs.length = 1 → bindArgs fd ⟨vs, []⟩ = pure (ps.zip vs)
  | [a], _ => h a
theorem bind2 {fd : FuncData} {ps : List Str} (h : ∀ a b, bindArgs fd ⟨[a, b], []⟩ = pure (ps.zip [a, b])) : ∀ vs : List Value, vs.length = 2 → bindArgs fd ⟨vs, []⟩ = pure (ps.zip vs)
  | [a, b], _ => h a b
theorem bind3 {fd : FuncData} {ps : List Str} (h : ∀ a b c, bindArgs fd ⟨[a, b, c], []⟩ = pure (ps.zip [a, b, c])) : ∀ vs : List Value, vs.length = 3 → bindArgs fd ⟨vs, []⟩ = pure (ps.zip vs)
  | [a, b, c], _ => h a b c
end
end
section
/-! single statements, for the law -/
inductive XS where
  | asg (i : Nat) (e : ME) | swp2 (i j : Nat) (e : ME) | swp3 (i j k : Nat) (e : ME) | cell (x : Str) (e : ME) | app (i : Nat) (e : ME)
noncomputable def okSwap (xs : List Str) (ps : List Pos) (vs : List PySem.Expr) : Bool := decide xs.Nodup && ps.all (fun q => q.line == (ps.headD ⟨0, 0, 0, 0⟩).line) && !(vs.all (foldedForSure 8)) && !(vs.all (constantsAlone 8))
noncomputable def three {α : Type} : List α → Option (α × α × α)
  | [] => none
  | a :: r => (two r).map fun p => (a, p.1, p.2)
theorem three_is {α : Type} {l : List α} {x : α × α × α} (h : three l = some x) : l = [x.1, x.2.1, x.2.2] := by
  cases l with
  | nil => cases h
  | cons a r =>
    obtain ⟨p, hp, rfl⟩ := Option.map_eq_some_iff.mp (show (two r).map (fun p => (a, p.1, p.2)) = some x from h)
    rw [two_is hp]
noncomputable def one1 {α : Type} : List α → Option α
  | [] => none
  | a :: r => match r with
    | [] => some a
    | _ :: _ => none
theorem one1_is {α : Type} {l : List α} {x : α} (h : one1 l = some x) : l = [x] := by
  cases l with
  | nil => cases h
  | cons a r => cases r with
    | nil => cases h; rfl
    | cons => cases h
noncomputable def attrOf : PySem.Expr → Option (PySem.Expr × Str × Pos)
  | .Attribute e n p => some (e, n, p)
  | _ => none
theorem attrOf_is {e : PySem.Expr} {x : PySem.Expr × Str × Pos} (h : attrOf e = some x) : e = .Attribute x.1 x.2.1 x.2.2 := by cases e <;> first | (cases h; rfl) | cases h
noncomputable def callOf : PySem.Expr → Option (PySem.Expr × List PySem.Expr × Pos)
  | .Call f as ks p => match ks with
    | [] => some (f, as, p)
    | _ :: _ => none
  | _ => none
theorem callOf_is {e : PySem.Expr} {x : PySem.Expr × List PySem.Expr × Pos} (h : callOf e = some x) : e = .Call x.1 x.2.1 [] x.2.2 := by
  cases e with
  | Call f as ks p => cases ks with
    | nil => cases h; rfl
    | cons => cases h
  | _ => cases h
section
variable (K : Frag) (cs : Scope) (ns : List Str)
noncomputable def compX1 (x : Str) (v : PySem.Expr) : Option XS := (comp K cs ns 30 v).bind fun e => match lname cs ns x with
  | some i => some (.asg i e)
  | none => oIf (cs.names.lookup x = some .cell) (some (.cell x e))
noncomputable def compX2 (t v : PySem.Expr) : Option XS := (tupOf t).bind fun ts => (tupOf v).bind fun vs => (two ts.1).bind fun xy => (nm1 xy.1).bind fun x => (nm1 xy.2).bind fun y => (two vs.1).bind fun ab =>
  oIf (okSwap [x.1, y.1] [x.2, y.2] [ab.1, ab.2] = true) ((lname cs ns x.1).bind fun i => (lname cs ns y.1).bind fun j => (comp K cs ns 30 v).map (.swp2 i j))
noncomputable def compX3 (t v : PySem.Expr) : Option XS := (tupOf t).bind fun ts => (tupOf v).bind fun vs => (three ts.1).bind fun xy => (nm1 xy.1).bind fun x => (nm1 xy.2.1).bind fun y => (nm1 xy.2.2).bind fun z => (three vs.1).bind fun ab =>
  oIf (okSwap [x.1, y.1, z.1] [x.2, y.2, z.2] [ab.1, ab.2.1, ab.2.2] = true) ((lname cs ns x.1).bind fun i => (lname cs ns y.1).bind fun j => (lname cs ns z.1).bind fun k => (comp K cs ns 30 v).map (.swp3 i j k))
noncomputable def compXE (e : PySem.Expr) : Option XS := (callOf e).bind fun c => (attrOf c.1).bind fun at' => (nm1 at'.1).bind fun x => (one1 c.2.1).bind fun a =>
  oIf (at'.2.1 = Str.ofString "append" ∧ (at'.2.2.endLine == c.2.2.line) = true) ((lname cs ns x.1).bind fun i => (comp K cs ns 30 a).map (.app i))
noncomputable def compX (st : Stmt) : Option XS := match st with
  | .Assign ts v _ => (one1 ts).bind fun t => match nm1 t with
    | some x => compX1 K cs ns x.1 v
    | none => (compX2 K cs ns t v).or (compX3 K cs ns t v)
  | .Expr e _ => compXE K cs ns e
  | _ => none
end
noncomputable def seenB : List Nat → Nat → Bool
  | [], _ => false
  | i :: r, j => match Nat.beq i j with | true => true | false => seenB r j
noncomputable def clean : List Nat → Rho → Rho
  | _, [] => []
  | seen, (i, a) :: r => match seenB seen i with
    | true => clean seen r
    | false => match a.noLst with
      | true => (i, a) :: clean (i :: seen) r
      | false => clean (i :: seen) r
noncomputable def xsw (CO : Addr → AV → (AV → Prop) → Prop) : XS → Rho → (Rho → Prop) → (AV → Prop) → Prop
  | .asg i e, ρ, N, _ => (W CO e).e ρ fun av => N ((i, av) :: ρ)
  | .swp2 i j e, ρ, N, _ => (W CO e).e ρ fun av => match av with
    | .tup (.lcons x (.lcons y .lnil)) => N ((i, x) :: (j, y) :: ρ)
    | _ => False
  | .swp3 i j k e, ρ, N, _ => (W CO e).e ρ fun av => match av with
    | .tup (.lcons x (.lcons y (.lcons z .lnil))) => N ((i, x) :: (j, y) :: (k, z) :: ρ)
    | _ => False
  | .cell _ e, ρ, _, C => (W CO e).e ρ C
  | .app i e, ρ, N, _ => match lk ρ i with
    | some (.lst l) => (W CO e).e ρ fun x => (x.noLst = true ∧ l.noLst = true ∧ l.len < 1000) ∧ N ((i, .lst (l.snoc x)) :: clean [] ρ)
    | _ => False
section
variable {w : World} {led : Led} {h₀ h : Heap} {L c : Addr} {o : Obj}
/-- what does not lean on the object at c stays when its entry is dropped -/
theorem drop_all {b : Bool} (N : News h₀ L h led) (hm : (c, o) ∈ led) (h1 : ∀ vs, tupO vs ≠ o) (h2 : ∀ C d, instObj C d ≠ o) (h3 : ∀ P n k1 k2 t1 t2, fqD w P n k1 k2 t1 t2 ≠ o) (h4 : b = true → ∀ its n, W.listOf its n ≠ o) :
    ∀ a : AV, (b || a.noLst) = true → (∀ v, Rep w led v a → Rep w (led.filter fun p => p.1 != c) v a) ∧ (∀ vs, Reps w led vs a → Reps w (led.filter fun p => p.1 != c) vs a) := by
  have keep : ∀ {r : Addr} {q : Obj}, (r, q) ∈ led → q ≠ o → (r, q) ∈ led.filter fun p => p.1 != c := by
    intro r q hq hne
    refine List.mem_filter.mpr ⟨hq, ?_⟩
    have e1 := (N _ hq).1
    have e2 := (N _ hm).1
    have : r ≠ c := fun e => by
      subst e
      exact hne (Option.some.inj (e1.symm.trans e2))
    simpa using this
  intro a
  induction a with
  | tup l ih => exact fun hb => ⟨fun v h => (by cases h with | tup m r => exact .tup (keep m (h1 _)) ((ih (by simpa [AV.noLst] using hb)).2 _ r)), fun vs h => (by cases h)⟩
  | lst l ih => exact fun hb => ⟨fun v h => (by
      cases h with
      | lst m r =>
        cases b with
        | false => simp [AV.noLst] at hb
        | true => exact .lst (keep m (h4 rfl _ _)) ((ih (by simp)).2 _ r)), fun vs h => (by cases h)⟩
  | opq v => exact fun hb => ⟨fun v h => (by cases h; exact .opq), fun vs h => (by cases h)⟩
  | lcons a l iha ihl => exact fun hb => ⟨fun v h => (by cases h), fun vs h => (by
      cases h with
      | cons x y =>
        have h9 : (b || a.noLst) = true ∧ (b || l.noLst) = true := by
          simp only [AV.noLst] at hb
          revert hb
          cases b <;> cases a.noLst <;> cases l.noLst <;> simp
        exact .cons ((iha h9.1).1 _ x) ((ihl h9.2).2 _ y))⟩
  | lnil => exact fun hb => ⟨fun v h => (by cases h), fun vs h => (by cases h; exact .nil)⟩
  | int n => exact fun hb => ⟨fun v h => (by cases h; exact .int), fun vs h => (by cases h)⟩
  | bool n => exact fun hb => ⟨fun v h => (by cases h; exact .bool), fun vs h => (by cases h)⟩
  | none => exact fun hb => ⟨fun v h => (by cases h; exact .none), fun vs h => (by cases h)⟩
  | fn f => exact fun hb => ⟨fun v h => (by cases h with | fn k => exact .fn k), fun vs h => (by cases h)⟩
  | fq c P n => exact fun hb => ⟨fun v h => (by cases h with | fq x y p q r => exact .fq (keep x (h2 _ _)) (keep y (h3 _ _ _ _ _ _)) p q r), fun vs h => (by cases h)⟩
end
structure Upto (w : World) (led led' : Led) : Prop where
  rep : ∀ v a, a.noLst = true → Rep w led v a → Rep w led' v a
  cell : ∀ c o v, o.data = Data.cell v → (c, o) ∈ led → (c, o) ∈ led'
theorem Upto.of_sub {w : World} {led led' : Led} (h : ∀ p ∈ led, p ∈ led') : Upto w led led' := ⟨fun v a _ r => r.mono h, fun c o v _ m => h _ m⟩
theorem Upto.trans {w : World} {a b c : Led} (h : Upto w a b) (g : Upto w b c) : Upto w a c := ⟨fun v x n r => g.rep v x n (h.rep v x n r), fun x o v e m => g.cell x o v e (h.cell x o v e m)⟩
theorem okSwap2 {x y : Str} {p q : Pos} {a b : PySem.Expr} (h : okSwap [x, y] [p, q] [a, b] = true) : (x == y) = false ∧ (q.line == p.line) = true ∧ [a, b].all (foldedForSure 8) = false ∧ [a, b].all (constantsAlone 8) = false := by
  simp only [okSwap, Bool.and_eq_true, Bool.not_eq_true', decide_eq_true_eq] at h
  obtain ⟨⟨⟨h1, h2⟩, h3⟩, h4⟩ := h
  refine ⟨?_, ?_, h3, h4⟩
  · simp at h1; simpa using h1
  · simp at h2; simpa using h2
theorem okSwap3 {x y z : Str} {p q r : Pos} {a b c : PySem.Expr} (h : okSwap [x, y, z] [p, q, r] [a, b, c] = true) : (x ≠ y ∧ x ≠ z ∧ y ≠ z) ∧ (q.line = p.line ∧ r.line = p.line) ∧ [a, b, c].all (foldedForSure 8) = false ∧ [a, b, c].all (constantsAlone 8) = false := by
  simp only [okSwap, Bool.and_eq_true, Bool.not_eq_true', decide_eq_true_eq] at h
  obtain ⟨⟨⟨h1, h2⟩, h3⟩, h4⟩ := h
  refine ⟨?_, ?_, h3, h4⟩
  · simp at h1; exact ⟨h1.1.1, h1.1.2, h1.2⟩
  · simp at h2; exact h2
theorem swap_some3 {x y z : Str} {p q r tp : Pos} {k k' : Nat} {a b c : PySem.Expr} {vp : Pos} {env : Env} (hk : env.scope.kind = .function) (hx : env.kindOf x = some .local) (hy : env.kindOf y = some .local) (hz : env.kindOf z = some .local) (hne : x ≠ y ∧ x ≠ z ∧ y ≠ z) (hl : q.line = p.line ∧ r.line = p.line)
    (h1 : [a, b, c].all (foldedForSure 8) = false) (h2 : [a, b, c].all (constantsAlone 8) = false) (hs : isStar a = false ∧ isStar b = false ∧ isStar c = false) : swappedStores [.Tuple [.Name x p, .Name y q, .Name z r] k tp] (.Tuple [a, b, c] k' vp) env = pure (some [x, y, z]) := by
  have hb : env.blockKind = .function := by simp [Env.blockKind, hk, ScopeKind.isAnnotationScope]
  obtain ⟨n1, n2, n3⟩ := hne
  have hp1 : (PySem.Expr.Name x p).pos = p := rfl
  have hp2 : (PySem.Expr.Name y q).pos = q := rfl
  have hp3 : (PySem.Expr.Name z r).pos = r := rfl
  unfold swappedStores
  simp [hb, h1, h2, hx, hy, hz, hp1, hp2, hp3, hl.1, hl.2, List.eraseDups_cons, n1, n2, n3, Ne.symm n1, Ne.symm n2, Ne.symm n3]
  intro h
  rcases h with h | h | h
  · cases a <;> first | (cases h; done) | (cases hs.1; done)
  · cases b <;> first | (cases h; done) | (cases hs.2.1; done)
  · cases c <;> first | (cases h; done) | (cases hs.2.2; done)
section
variable {H : Here} {prog : Program} {w : World} {CO : Addr → AV → (AV → Prop) → Prop} {ns : List Str}
theorem stars_cl {K : Frag} {cs : Scope} {n : Nat} : ∀ {es : List PySem.Expr} {l : ME}, cl (comp K cs ns n) es = some l → ∀ x ∈ es, isStar x = false
  | [], _, _, x, hx => nomatch hx
  | a :: r, l, hl, x, hx => by
    simp only [cl] at hl
    split at hl
    · rename_i h1 h2
      rcases List.mem_cons.mp hx with rfl | hx
      · exact noStar1 h1
      · exact stars_cl h2 x hx
    · cases hl
theorem stars_of {K : Frag} {cs : Scope} {es : List PySem.Expr} {tk : Nat} {vp : Pos} {e : ME} (he : comp K cs ns 30 (.Tuple es tk vp) = some e) : ∀ x ∈ es, isStar x = false := by
  obtain ⟨_, he'⟩ := oIf_some (show oIf (es.length < 100) ((cl (comp K cs ns 29) es).map .tup) = some e from he)
  obtain ⟨l, hl, _⟩ := Option.map_eq_some_iff.mp he'
  exact stars_cl hl
section
variable {ρ : Rho} {Nx : Rho → Prop} {C : AV → Prop} {s : Shared} {led : Led} {m : Str → Option Value} {Q : Flow → Shared → Prop} {E : Value → Shared → Prop}
noncomputable def Nexts (H : Here) (w : World) (ns : List Str) (led : Led) (s : Shared) (Nx : Rho → Prop) (Q : Flow → Shared → Prop) : Prop :=
  ∀ ρ' h' tk' led' m', Fr H.h₀ H.L h' m' → News H.h₀ H.L h' led' → Upto w led led' → EnvR w ns led' m' ρ' → Nx ρ' → Q .next { s with heap := h', toks := tk' }
theorem xv_asg (O : H.Ok prog w CO) {x : Str} {p pos : Pos} {v : PySem.Expr} {i : Nat} {e : ME} (hi : lname H.cs ns x = some i) (he : comp (hd.heap_1 w.params) H.cs ns 30 v = some e)
    (hW : xsw CO (.asg i e) ρ Nx C) (F : Fr H.h₀ H.L s.heap m) (N : News H.h₀ H.L s.heap led) (Rn : EnvR w ns led m ρ) (kn : Nexts H w ns led s Nx Q) : wpAny (model prog w) H.A (exec (.Assign [.Name x p] v pos) H.env) Q E s := by
  have hv := @And.left _ _ (comp_ok (prog := prog) (CO := CO) O _ _ _ he)
  refine wpAny_Assign_Name (hv hW F N Rn fun v av h' tk' led' F' N' hs hr hq => ?_) (comp_swap he _ _ _)
  exact st_ok O hi F' N' (Rn.mono hs) hr fun h2 tk2 m2 F2 N2 R2 => kn _ h2 tk2 led' m2 F2 N2 (.of_sub hs) R2 hq
theorem xv_swp2 (O : H.Ok prog w CO) {x y : Str} {p q tp vp pos : Pos} {tk tk' : Nat} {a b : PySem.Expr} {i j : Nat} {e : ME} (hc9 : okSwap [x, y] [p, q] [a, b] = true)
    (hi : lname H.cs ns x = some i) (hj : lname H.cs ns y = some j) (he : comp (hd.heap_1 w.params) H.cs ns 30 (.Tuple [a, b] tk' vp) = some e)
    (hW : xsw CO (.swp2 i j e) ρ Nx C) (F : Fr H.h₀ H.L s.heap m) (N : News H.h₀ H.L s.heap led) (Rn : EnvR w ns led m ρ) (kn : Nexts H w ns led s Nx Q) : wpAny (model prog w) H.A (exec (.Assign [.Tuple [.Name x p, .Name y q] tk tp] (.Tuple [a, b] tk' vp) pos) H.env) Q E s := by
  obtain ⟨o1, o2, o3, o4⟩ := okSwap2 hc9
  have hv := @And.left _ _ (comp_ok (prog := prog) (CO := CO) O _ _ _ he)
  have hst := stars_of he
  refine Assign_Tuple_swapped (names := [x, y]) (hv hW F N Rn fun v av h' tk' led' F' N' hs hr hq => ?_) (show swapsWithSole _ _ _ _ = _ from comp_swap he (some (.Tuple [.Name x p, .Name y q] tk tp)) pos.line H.env) (swap_some O.hk (lname_idx hi).1 (lname_idx hj).1 o1 o2 o3 o4 ⟨hst _ (by simp), hst _ (by simp)⟩)
  cases hr with
  | @tup _ us l hm hrs =>
    cases hrs with
    | @cons v0 us0 a0 l0 ha hb =>
      cases hb with
      | @cons v1 us1 a1 l1 hb hc =>
        cases hc with
        | nil =>
          refine unpackItemsN_ F' N' (News.isTup N' hm) rfl rfl fun h2' F2 N2 => ?_
          show wpAny _ _ (assignInOrder [fun v => bindName H.env y v, fun v => bindName H.env x v] [v1, v0]) _ _ _
          refine assignInOrder_cons (bindName_ (st_ok O hj F2 N2 (Rn.mono hs) hb fun h3 tk3 m3 F3 N3 R3 => ?_))
          refine assignInOrder_cons (bindName_ (st_ok O hi F3 N3 R3 ha fun h4 tk4 m4 F4 N4 R4 => assignInOrder_nil ?_))
          exact kn _ h4 tk4 led' m4 F4 N4 (.of_sub hs) R4 hq
        | cons => exact hq.elim
      | nil => exact hq.elim
    | nil => exact hq.elim
  | _ => exact hq.elim
theorem xv_swp3 (O : H.Ok prog w CO) {x y z : Str} {p q r tp vp pos : Pos} {tk tk' : Nat} {a b c : PySem.Expr} {i j k : Nat} {e : ME} (hc9 : okSwap [x, y, z] [p, q, r] [a, b, c] = true)
    (hi : lname H.cs ns x = some i) (hj : lname H.cs ns y = some j) (hk : lname H.cs ns z = some k) (he : comp (hd.heap_1 w.params) H.cs ns 30 (.Tuple [a, b, c] tk' vp) = some e)
    (hW : xsw CO (.swp3 i j k e) ρ Nx C) (F : Fr H.h₀ H.L s.heap m) (N : News H.h₀ H.L s.heap led) (Rn : EnvR w ns led m ρ) (kn : Nexts H w ns led s Nx Q) : wpAny (model prog w) H.A (exec (.Assign [.Tuple [.Name x p, .Name y q, .Name z r] tk tp] (.Tuple [a, b, c] tk' vp) pos) H.env) Q E s := by
  obtain ⟨o1, o2, o3, o4⟩ := okSwap3 hc9
  have hv := @And.left _ _ (comp_ok (prog := prog) (CO := CO) O _ _ _ he)
  have hst := stars_of he
  refine Assign_Tuple_swapped (names := [x, y, z]) (hv hW F N Rn fun v av h' tk' led' F' N' hs hr hq => ?_) (show swapsWithSole _ _ _ _ = _ from comp_swap he (some (.Tuple [.Name x p, .Name y q, .Name z r] tk tp)) pos.line H.env) (swap_some3 O.hk (lname_idx hi).1 (lname_idx hj).1 (lname_idx hk).1 o1 o2 o3 o4 ⟨hst _ (by simp), hst _ (by simp), hst _ (by simp)⟩)
  cases hr with
  | @tup _ us l hm hrs =>
    cases hrs with
    | @cons v0 us0 a0 l0 ha hb =>
      cases hb with
      | @cons v1 us1 a1 l1 hb hc =>
        cases hc with
        | @cons v2 us2 a2 l2 hc hd =>
          cases hd with
          | nil =>
            refine unpackItemsN_ F' N' (News.isTup N' hm) rfl rfl fun h2' F2 N2 => ?_
            show wpAny _ _ (assignInOrder [fun v => bindName H.env z v, fun v => bindName H.env y v, fun v => bindName H.env x v] [v2, v1, v0]) _ _ _
            refine assignInOrder_cons (bindName_ (st_ok O hk F2 N2 (Rn.mono hs) hc fun h3 tk3 m3 F3 N3 R3 => ?_))
            refine assignInOrder_cons (bindName_ (st_ok O hj F3 N3 R3 hb fun h4 tk4 m4 F4 N4 R4 => ?_))
            refine assignInOrder_cons (bindName_ (st_ok O hi F4 N4 R4 ha fun h5 tk5 m5 F5 N5 R5 => assignInOrder_nil ?_))
            exact kn _ h5 tk5 led' m5 F5 N5 (.of_sub hs) R5 hq
          | cons => exact hq.elim
        | nil => exact hq.elim
      | nil => exact hq.elim
    | nil => exact hq.elim
  | _ => exact hq.elim
theorem notCell {v0 : Option Value} {oc q : Obj} (hoc : oc.data = .cell v0) (hq : ∀ u, q.data ≠ .cell u) : q ≠ oc := fun e => by subst e; exact hq _ hoc
theorem newsFront {h₀ h : Heap} {L c : Addr} {o : Obj} {led : Led} (N : News h₀ L h led) (hm : (c, o) ∈ led) : News h₀ L h ((c, o) :: led.filter fun p => p.1 != c) := fun p hp => by
  rcases List.mem_cons.mp hp with rfl | hp
  · exact N _ hm
  · exact N _ (List.mem_filter.mp hp).1
theorem xv_cell (O : H.Ok prog w CO) {x : Str} {p pos : Pos} {v : PySem.Expr} {e : ME} {c : Addr} {oc : Obj} {v0 : Option Value} (hx : H.cs.names.lookup x = some .cell) (he : comp (hd.heap_1 w.params) H.cs ns 30 v = some e)
    (hcl : H.cl.lookup x = some c) (hc : (c, oc) ∈ led) (hoc : oc.data = .cell v0)
    (hW : (W CO e).e ρ C) (F : Fr H.h₀ H.L s.heap m) (N : News H.h₀ H.L s.heap led) (Rn : EnvR w ns led m ρ)
    (kc : ∀ v av h' tk' led' o', Fr H.h₀ H.L h' m → News H.h₀ H.L h' led' → EnvR w ns led' m ρ → Rep w led' v av → (c, o') ∈ led' → o'.data = .cell (some v) → C av → Q .next { s with heap := h', toks := tk' }) : wpAny (model prog w) H.A (exec (.Assign [.Name x p] v pos) H.env) Q E s := by
  have hv := @And.left _ _ (comp_ok (prog := prog) (CO := CO) O _ _ _ he)
  refine wpAny_Assign_Name (hv hW F N Rn fun v av h' tk' led' F' N' hs hr hq => ?_) (comp_swap he _ _ _)
  have dr := fun a => drop_all (w := w) (b := true) (c := c) (o := oc) N' (hs _ hc) (fun _ => notCell hoc (by intro u e; cases e)) (fun _ _ => notCell hoc (by intro u e; cases e)) (fun _ _ _ _ _ _ => notCell hoc (by intro u e; cases e)) (fun _ _ _ => notCell hoc (by intro u e; cases e)) a rfl
  refine storeX_C F' (newsFront N' (hs _ hc)) hcl (.head fun p hp => by simpa using (List.mem_filter.mp hp).2) hoc (fun h3 o' F3 N3 ho' => ?_) O.hk hx
  refine kc v av h3 _ _ o' F3 N3 ?_ (((dr av).1 _ hr).mono fun p hp => List.mem_cons_of_mem _ hp) (List.mem_cons_self ..) ho' hq
  intro y i a h1 h2
  obtain ⟨u, hu, hru⟩ := Rn y i a h1 h2
  exact ⟨u, hu, ((dr a).1 _ (hru.mono hs)).mono fun p hp => List.mem_cons_of_mem _ hp⟩
theorem lk_clean : ∀ {ρ : Rho} {seen : List Nat} {j : Nat} {a : AV}, lk (clean seen ρ) j = some a → seenB seen j = false ∧ lk ρ j = some a ∧ a.noLst = true
  | [], _, _, _, h => nomatch h
  | (i, b) :: r, seen, j, a, h => by
    simp only [clean] at h
    split at h
    · rename_i hi
      obtain ⟨h1, h2, h3⟩ := lk_clean h
      refine ⟨h1, ?_, h3⟩
      simp only [lk]
      split
      · rename_i hij
        have := Nat.eq_of_beq_eq_true hij
        subst this
        rw [hi] at h1; cases h1
      · exact h2
    · rename_i hi
      have sub : ∀ {x : AV}, lk (clean (i :: seen) r) j = some x → seenB seen j = false ∧ lk ((i, b) :: r) j = some x ∧ x.noLst = true := by
        intro x hx
        obtain ⟨h1, h2, h3⟩ := lk_clean hx
        simp only [seenB] at h1
        split at h1
        · cases h1
        · rename_i hij
          refine ⟨h1, ?_, h3⟩
          simp only [lk, hij]
          exact h2
      split at h
      · rename_i hb
        simp only [lk] at h
        split at h
        · rename_i hij
          cases h
          have e := Nat.eq_of_beq_eq_true hij
          subst e
          exact ⟨hi, by simp only [lk, Nat.beq_refl], hb⟩
        · exact sub h
      · exact sub h
theorem xv_app (O : H.Ok prog w CO) {x nm : Str} {np apos pos spos : Pos} {v : PySem.Expr} {i : Nat} {e : ME} (hnm : nm = Str.ofString "append") (hline : (apos.endLine == pos.line) = true) (hi : lname H.cs ns x = some i) (he : comp (hd.heap_1 w.params) H.cs ns 30 v = some e)
    (hW : xsw CO (.app i e) ρ Nx C) (F : Fr H.h₀ H.L s.heap m) (N : News H.h₀ H.L s.heap led) (Rn : EnvR w ns led m ρ) (kn : Nexts H w ns led s Nx Q) : wpAny (model prog w) H.A (exec (.Expr (.Call (.Attribute (.Name x np) nm apos) [v] [] pos) spos) H.env) Q E s := by
  subst hnm
  have hv := @And.left _ _ (comp_ok (prog := prog) (CO := CO) O _ _ _ he)
  have hst : starEach [v] H.env = (false, eval v H.env) :: starEach [] H.env := not_star (c := comp (hd.heap_1 w.params) H.cs ns 30) (comp_star 30) he [] H.env
  change (match lk ρ i with | some (.lst l) => (W CO e).e ρ fun x => (x.noLst = true ∧ l.noLst = true ∧ l.len < 1000) ∧ Nx ((i, .lst (l.snoc x)) :: clean [] ρ) | _ => False) at hW
  split at hW
  · rename_i l hl
    have hcall : eval (.Call (.Attribute (.Name x np) (Str.ofString "append") apos) [v] [] pos) H.env = (do
        let ov ← eval (.Name x np) H.env
        standAt apos.atName
        let (f, first) ← holding [ov] (getMethod ov (Str.ofString "append") (do return (← importBound (.Name x np) H.env).getD true))
        callWith pos f first (backTo pos (starEach [v] H.env)) []) := by
      have e2 : methodCallForm (([v] : List PySem.Expr).length + 0) (backTo pos (starEach [v] H.env)) [] = true := by
        rw [hst]; rfl
      show (do
        let ov ← eval (.Name x np) H.env
        standAt apos.atName
        methodCall (.Name x np) (Str.ofString "append") apos pos H.env ov (([v] : List PySem.Expr).length + 0) (backTo pos (starEach [v] H.env)) []) = _
      simp only [methodCall, e2, calleeOf, methodCallPos, hline]
      rfl
    refine wpAny_Expr_any ?_ (by simp [interactive, O.hk]) (by rfl)
    refine MethodCall_ ?_ hcall
    obtain ⟨u, hmx, hu⟩ := Rn x i _ (lname_idx hi).2 hl
    have hlc : H.cs.names.lookup x = some .local ∧ (x == Str.ofString "__debug__") = false := by
      unfold lname at hi
      split at hi
      · assumption
      · cases hi
    refine nameX_L F hmx ?_ O.hk hlc.1 hlc.2
    cases hu with
    | @lst r vs n _ hm hrs =>
      refine listMethod_K N hm PySem.F.slot_list_append (by rfl) ?_
      refine callWith_method1 (args_cons (hv hW F N Rn fun y ay h2 tk2 led2 F2 N2 hs2 hy hq => args_nil ?_) hst) hst rfl
      obtain ⟨⟨q1, q2, q3⟩, q4⟩ := hq
      have hm2 := hs2 _ hm
      have dr := fun a ha => drop_all (w := w) (b := false) (c := r) (o := W.listOf vs.toArray n) N2 hm2 (fun _ e => absurd (Value.type.inj (congrArg Obj.cls e)) (by decide)) (fun _ _ e => by cases e) (fun _ _ _ _ _ _ e => absurd (Value.type.inj (congrArg Obj.cls e)) (by decide)) (fun e => by cases e) a ha
      have hsz : (vs.toArray).size ≤ sizeLine := by
        have h3 : (1000 : Nat) ≤ sizeLine := by decide
        have h4 := hrs.len
        simp only [List.size_toArray]; omega
      refine append_K F2 (newsFront N2 hm2) (.head fun p hp => by simpa using (List.mem_filter.mp hp).2) (fun h3 F3 N3 => ?_) hsz
      have up : ∀ v a, a.noLst = true → Rep w led v a → Rep w ((r, W.listOf (vs.toArray.push y) (n + 1)) :: led2.filter fun p => p.1 != r) v a := fun v a ha hr => ((dr a ha).1 _ (hr.mono hs2)).mono fun p hp => List.mem_cons_of_mem _ hp
      refine kn _ h3 _ _ m F3 N3 ⟨up, fun c o v ho hc => List.mem_cons_of_mem _ (List.mem_filter.mpr ⟨hs2 _ hc, ?_⟩)⟩ ?_ q4
      · have e1 := (N2 _ (hs2 _ hc)).1
        have e2 := (N2 _ hm2).1
        have : c ≠ r := fun e => by
          subst e
          have e3 := Option.some.inj (e1.symm.trans e2)
          simp only at e3
          subst e3
          cases ho
        simpa using this
      · intro z j a h1 h2
        simp only [lk] at h2
        split at h2
        · rename_i hij
          cases h2
          have hij := Nat.eq_of_beq_eq_true hij
          subst hij
          have hzx := idx_inj h1 (lname_idx hi).2
          subst hzx
          refine ⟨_, hmx, ?_⟩
          rw [show vs.toArray.push y = (vs ++ [y]).toArray by simp]
          refine .lst (List.mem_cons_self ..) (Reps.app ?_ (.one ?_))
          · exact ((dr l (by simpa using q2)).2 _ (hrs.mono hs2)).mono fun p hp => List.mem_cons_of_mem _ hp
          · exact ((dr ay (by simpa using q1)).1 _ hy).mono fun p hp => List.mem_cons_of_mem _ hp
        · obtain ⟨_, h2, ha⟩ := lk_clean h2
          obtain ⟨u, hu, hru⟩ := Rn z j a h1 h2
          exact ⟨u, hu, up _ _ ha hru⟩
  · exact hW.elim
theorem compX_elim {K : Frag} {cs : Scope} {P : Stmt → XS → Prop}
    (h1 : ∀ (x : Str × Pos) v pos i e, lname cs ns x.1 = some i → comp K cs ns 30 v = some e → P (.Assign [.Name x.1 x.2] v pos) (.asg i e))
    (h2 : ∀ (x y : Str × Pos) a b tk tp tk' vp pos i j e, okSwap [x.1, y.1] [x.2, y.2] [a, b] = true → lname cs ns x.1 = some i → lname cs ns y.1 = some j → comp K cs ns 30 (.Tuple [a, b] tk' vp) = some e → P (.Assign [.Tuple [.Name x.1 x.2, .Name y.1 y.2] tk tp] (.Tuple [a, b] tk' vp) pos) (.swp2 i j e))
    (h3 : ∀ (x y z : Str × Pos) a b c tk tp tk' vp pos i j k e, okSwap [x.1, y.1, z.1] [x.2, y.2, z.2] [a, b, c] = true → lname cs ns x.1 = some i → lname cs ns y.1 = some j → lname cs ns z.1 = some k → comp K cs ns 30 (.Tuple [a, b, c] tk' vp) = some e → P (.Assign [.Tuple [.Name x.1 x.2, .Name y.1 y.2, .Name z.1 z.2] tk tp] (.Tuple [a, b, c] tk' vp) pos) (.swp3 i j k e))
    (h4 : ∀ (x : Str × Pos) v pos e, cs.names.lookup x.1 = some .cell → comp K cs ns 30 v = some e → P (.Assign [.Name x.1 x.2] v pos) (.cell x.1 e))
    (h5 : ∀ (x : Str × Pos) nm apos pos spos v i e, nm = Str.ofString "append" → (apos.endLine == pos.line) = true → lname cs ns x.1 = some i → comp K cs ns 30 v = some e → P (.Expr (.Call (.Attribute (.Name x.1 x.2) nm apos) [v] [] pos) spos) (.app i e))
    {st : Stmt} {xs : XS} (h : compX K cs ns st = some xs) : P st xs := by
  cases st with
  | Assign ts v pos =>
    obtain ⟨t, ht, h'⟩ := Option.bind_eq_some_iff.mp (show ((one1 ts).bind fun t => match nm1 t with | some x => compX1 K cs ns x.1 v | none => (compX2 K cs ns t v).or (compX3 K cs ns t v)) = some xs from h)
    rw [one1_is ht]
    cases hx : nm1 t with
    | some x =>
      rw [hx] at h'
      have e9 := nm1_is hx
      obtain ⟨e, he, h⟩ := Option.bind_eq_some_iff.mp (show ((comp K cs ns 30 v).bind fun e => match lname cs ns x.1 with | some i => some (.asg i e) | none => oIf (cs.names.lookup x.1 = some .cell) (some (.cell x.1 e))) = some xs from h')
      cases hi : lname cs ns x.1 with
      | some i =>
        rw [hi] at h
        cases h
        rw [e9]
        exact h1 _ _ _ _ _ hi he
      | none =>
        rw [hi] at h
        obtain ⟨hc, h⟩ := oIf_some h
        cases h
        rw [e9]
        exact h4 _ _ _ _ hc he
    | none =>
      rw [hx] at h'
      rcases Option.or_eq_some_iff.mp h' with h | ⟨_, h⟩
      · obtain ⟨ts, ht, h⟩ := Option.bind_eq_some_iff.mp h
        obtain ⟨vs, hv, h⟩ := Option.bind_eq_some_iff.mp h
        obtain ⟨xy, hxy, h⟩ := Option.bind_eq_some_iff.mp h
        obtain ⟨x, hx1, h⟩ := Option.bind_eq_some_iff.mp h
        obtain ⟨y, hy1, h⟩ := Option.bind_eq_some_iff.mp h
        obtain ⟨ab, hab, h⟩ := Option.bind_eq_some_iff.mp h
        obtain ⟨hc, h⟩ := oIf_some h
        obtain ⟨i, hi, h⟩ := Option.bind_eq_some_iff.mp h
        obtain ⟨j, hj, h⟩ := Option.bind_eq_some_iff.mp h
        obtain ⟨e, he, rfl⟩ := Option.map_eq_some_iff.mp h
        rw [tupOf_is hv, two_is hab] at he
        rw [tupOf_is hv, tupOf_is ht, two_is hab, two_is hxy, nm1_is hx1, nm1_is hy1]
        exact h2 _ _ _ _ _ _ _ _ _ _ _ _ hc hi hj he
      · obtain ⟨ts, ht, h⟩ := Option.bind_eq_some_iff.mp h
        obtain ⟨vs, hv, h⟩ := Option.bind_eq_some_iff.mp h
        obtain ⟨xy, hxy, h⟩ := Option.bind_eq_some_iff.mp h
        obtain ⟨x, hx1, h⟩ := Option.bind_eq_some_iff.mp h
        obtain ⟨y, hy1, h⟩ := Option.bind_eq_some_iff.mp h
        obtain ⟨z, hz1, h⟩ := Option.bind_eq_some_iff.mp h
        obtain ⟨ab, hab, h⟩ := Option.bind_eq_some_iff.mp h
        obtain ⟨hc, h⟩ := oIf_some h
        obtain ⟨i, hi, h⟩ := Option.bind_eq_some_iff.mp h
        obtain ⟨j, hj, h⟩ := Option.bind_eq_some_iff.mp h
        obtain ⟨k, hk, h⟩ := Option.bind_eq_some_iff.mp h
        obtain ⟨e, he, rfl⟩ := Option.map_eq_some_iff.mp h
        rw [tupOf_is hv, three_is hab] at he
        rw [tupOf_is hv, tupOf_is ht, three_is hab, three_is hxy, nm1_is hx1, nm1_is hy1, nm1_is hz1]
        exact h3 _ _ _ _ _ _ _ _ _ _ _ _ _ _ _ hc hi hj hk he
  | Expr e pos =>
    obtain ⟨c, hc, h⟩ := Option.bind_eq_some_iff.mp (show compXE K cs ns e = some xs from h)
    obtain ⟨at', hat, h⟩ := Option.bind_eq_some_iff.mp h
    obtain ⟨x, hx, h⟩ := Option.bind_eq_some_iff.mp h
    obtain ⟨a, ha, h⟩ := Option.bind_eq_some_iff.mp h
    obtain ⟨hcc, h⟩ := oIf_some h
    obtain ⟨i, hi, h⟩ := Option.bind_eq_some_iff.mp h
    obtain ⟨me, he, rfl⟩ := Option.map_eq_some_iff.mp h
    rw [callOf_is hc, attrOf_is hat, nm1_is hx, one1_is ha]
    exact h5 _ _ _ _ _ _ _ _ hcc.1 hcc.2 hi he
  | _ => cases h
theorem xs_ok (O : H.Ok prog w CO) {st : Stmt} {xs : XS} (h : compX (hd.heap_1 w.params) H.cs ns st = some xs) (hne : ∀ x e, xs ≠ .cell x e)
    (hW : xsw CO xs ρ Nx C) (F : Fr H.h₀ H.L s.heap m) (N : News H.h₀ H.L s.heap led) (Rn : EnvR w ns led m ρ) (kn : Nexts H w ns led s Nx Q) : wpAny (model prog w) H.A (exec st H.env) Q E s := by
  refine compX_elim (P := fun st xs => (∀ x e, xs ≠ .cell x e) → xsw CO xs ρ Nx C → wpAny (model prog w) H.A (exec st H.env) Q E s) ?_ ?_ ?_ ?_ ?_ h hne hW
  · exact fun _ _ _ _ _ hi he _ hW => xv_asg O hi he hW F N Rn kn
  · exact fun _ _ _ _ _ _ _ _ _ _ _ _ hc hi hj he _ hW => xv_swp2 O hc hi hj he hW F N Rn kn
  · exact fun _ _ _ _ _ _ _ _ _ _ _ _ _ _ _ hc hi hj hk he _ hW => xv_swp3 O hc hi hj hk he hW F N Rn kn
  · exact fun _ _ _ _ _ _ hne _ => absurd rfl (hne _ _)
  · exact fun _ _ _ _ _ _ _ _ hn hl hi he _ hW => xv_app O hn hl hi he hW F N Rn kn
theorem xc_ok (O : H.Ok prog w CO) {st : Stmt} {x : Str} {e : ME} (h : compX (hd.heap_1 w.params) H.cs ns st = some (.cell x e)) {c : Addr} {oc : Obj} {v0 : Option Value} (hcl : H.cl.lookup x = some c) (hc : (c, oc) ∈ led) (hoc : oc.data = .cell v0)
    (hW : (W CO e).e ρ C) (F : Fr H.h₀ H.L s.heap m) (N : News H.h₀ H.L s.heap led) (Rn : EnvR w ns led m ρ)
    (kc : ∀ v av h' tk' led' o', Fr H.h₀ H.L h' m → News H.h₀ H.L h' led' → EnvR w ns led' m ρ → Rep w led' v av → (c, o') ∈ led' → o'.data = .cell (some v) → C av → Q .next { s with heap := h', toks := tk' }) : wpAny (model prog w) H.A (exec st H.env) Q E s := by
  refine compX_elim (P := fun st xs => xs = .cell x e → wpAny (model prog w) H.A (exec st H.env) Q E s) ?_ ?_ ?_ ?_ ?_ h rfl
  · intro _ _ _ _ _ _ _ e; cases e
  · intro _ _ _ _ _ _ _ _ _ _ _ _ _ _ _ _ e; cases e
  · intro _ _ _ _ _ _ _ _ _ _ _ _ _ _ _ _ _ _ _ _ e; cases e
  · intro _ _ _ _ hx he e
    cases e
    exact xv_cell O hx he hcl hc hoc hW F N Rn kc
  · intro _ _ _ _ _ _ _ _ _ _ _ _ e; cases e
/-- the walk of an if by its condition -/
theorem xi_ok (O : H.Ok prog w CO) {t : PySem.Expr} {a b : List Stmt} {pos : Pos} {c : ME} {T F' : Prop} (ht : comp (hd.heap_1 w.params) H.cs ns 30 t = some c) (hW : (W CO c).c ρ T F') (F : Fr H.h₀ H.L s.heap m) (N : News H.h₀ H.L s.heap led) (Rn : EnvR w ns led m ρ)
    (ka : ∀ h' tk' led', Fr H.h₀ H.L h' m → News H.h₀ H.L h' led' → (∀ p ∈ led, p ∈ led') → T → wpAny (model prog w) H.A (execs a H.env) Q E { s with heap := h', toks := tk' })
    (kb : ∀ h' tk' led', Fr H.h₀ H.L h' m → News H.h₀ H.L h' led' → (∀ p ∈ led, p ∈ led') → F' → wpAny (model prog w) H.A (execs b H.env) Q E { s with heap := h', toks := tk' }) : wpAny (model prog w) H.A (exec (.If t a b pos) H.env) Q E s := by
  have hc := @And.right _ _ (comp_ok (prog := prog) (CO := CO) O _ _ _ ht)
  exact wpAny_If (hc hW F N Rn fun h' tk' led' F' N' hs => ⟨fun hT => ka h' tk' led' F' N' hs hT, fun hF => kb h' tk' led' F' N' hs hF⟩)
end
end
end
section
/-! the law's own text, by its place in the program -/
noncomputable def pass9 : Stmt := .Pass ⟨0, 0, 0, 0⟩
noncomputable def defBody : Stmt → List Stmt
  | .FunctionDef _ _ b _ _ _ _ _ _ _ => b
  | _ => []
noncomputable def defScope : Stmt → Scope
  | .FunctionDef _ _ _ _ _ _ s _ _ _ => s
  | _ => ⟨.module, [], false, false, []⟩
noncomputable def lawDef : Stmt := (view.main.body.getLast?).getD pass9
noncomputable def lawBody : List Stmt := defBody lawDef
noncomputable def lawScope : Scope := defScope lawDef
noncomputable def lns : List Str := [Str.ofString "script"] ++ lawScope.names.map (·.1)
noncomputable def stm (l : List Stmt) (k : Nat) : Stmt := l.getD k pass9
noncomputable def ifT : Stmt → PySem.Expr
  | .If t _ _ _ => t
  | _ => .Name Str.empty ⟨0, 0, 0, 0⟩
noncomputable def ifA : Stmt → List Stmt
  | .If _ a _ _ => a
  | _ => []
noncomputable def ifB : Stmt → List Stmt
  | .If _ _ b _ => b
  | _ => []
noncomputable def ifP : Stmt → Pos
  | .If _ _ _ p => p
  | _ => ⟨0, 0, 0, 0⟩
noncomputable def retE : Stmt → PySem.Expr
  | .Return (some e) _ => e
  | _ => .Name Str.empty ⟨0, 0, 0, 0⟩
noncomputable def retP : Stmt → Pos
  | .Return (some _) p => p
  | _ => ⟨0, 0, 0, 0⟩
noncomputable abbrev armA : List Stmt := ifA (stm lawBody 8)
noncomputable abbrev armI : Stmt := stm (ifB (stm lawBody 8)) 0
noncomputable abbrev armB : List Stmt := ifA armI
noncomputable abbrev armC : List Stmt := ifB armI
end
section
noncomputable def cmpL : PySem.Expr → PySem.Expr
  | .Compare l _ _ _ => l
  | e => e
noncomputable def cmpR : PySem.Expr → PySem.Expr
  | .Compare _ _ (r :: _) _ => r
  | e => e
noncomputable def lcE : PySem.Expr → PySem.Expr
  | .ListComp e _ _ _ => e
  | e => e
noncomputable def lcG : PySem.Expr → Comprehension
  | .ListComp _ (g :: _) _ _ => g
  | e => ⟨e, e, [], 0⟩
noncomputable def e9 : PySem.Expr := retE (stm lawBody 9)
noncomputable def c9 : PySem.Expr := cmpL e9
noncomputable def g9 : Comprehension := lcG c9
noncomputable def i9 : PySem.Expr := g9.ifs.headD c9
noncomputable abbrev lawH (p : Program) (loose : List Str) (mean : ExcName → Option Value) (mg mb : Str → Option Value) (dp un : Nat) (gd : Option (List Code)) (cn : Str) (a : Addr) (ccd : Value) (outer : List Env) (A₀ : Around) (base h₀ : Heap) (L c : Addr) : Here :=
  { p := p, loose := loose, mean := mean, mg := mg, mb := mb, dp := dp, un := un, gd := gd, cn := cn, cs := lawScope, a := a, ccd := ccd, outer := outer, A₀ := A₀, base := base, h₀ := h₀, L := L, cl := [(Str.ofString "due", c)] }
section
variable {prog : Program} {w : World} {p : Program} {loose : List Str} {mean : ExcName → Option Value} {mg mb : Str → Option Value} {dp un : Nat} {gd : Option (List Code)} {cn : Str} {a : Addr} {ccd : Value} {outer : List Env} {A₀ : Around} {base h₀ : Heap} {L c : Addr} {CO : Addr → AV → (AV → Prop) → Prop} {m : Str → Option Value} {s : Shared} {led : Led}
noncomputable abbrev csc : Scope := { kind := .function, names := [(Str.ofString ".0", .local), (Str.ofString "point", .local), (Str.ofString "due", .free)], isGenerator := false, isCoroutine := false }
theorem cmp_ok {Q E : Value → Shared → Prop} {p0 p1 p2 p3 p4 p5 p6 p7 p8 : Pos} {r y : Addr} {kx ky : Int} {vs : List Value} {n : Nat} {ty uy : Tok} {oc : Obj}
    (hu : un < 9000) (F : Fr h₀ L s.heap m) (N : News h₀ L s.heap led) (hm : m (Str.ofString "told") = some (.ref r)) (hr : (r, W.listOf vs.toArray n) ∈ led) (hlen : vs.length < 1000)
    (hv : ∀ v ∈ vs, ∃ q t u, v = .ref q ∧ (q, tup2 kx ky t u) ∈ led) (hc : (c, oc) ∈ led) (hoc : oc.data = .cell (some (.ref y))) (hy : (y, tup2 kx ky ty uy) ∈ led)
    (k : ∀ h' tk' led', Fr h₀ L h' m → News h₀ L h' led' → Q (.bool true) { s with heap := h', toks := tk' }) :
    wpAny (model prog w) (lawH p loose mean mg mb dp un gd cn a ccd outer A₀ base h₀ L c).A (eval (.Compare (.ListComp (.Name (Str.ofString "point") p0) [⟨.Name (Str.ofString "point") p1, .Name (Str.ofString "told") p2, [.Compare (.Name (Str.ofString "point") p3) [.NotEq] [.Name (Str.ofString "due") p4] p5], 0⟩] csc p6) [.Eq] [.List [] p7] p8) (lawH p loose mean mg mb dp un gd cn a ccd outer A₀ base h₀ L c).env) Q E s := by
  have hlt : un + 64 < cLine := by have c9 := cLine_is; omega
  refine wpAny_Compare1 ?_ rfl
  let K : ItemKind Value := ⟨fun a v => v = a ∧ ∃ q t u, v = .ref q ∧ s.heap.get? q = some (tup2 kx ky t u), fun v => some v, fun a v h => by rw [h.1]⟩
  refine ListComp_DCnk (K := K) (pz := fun _ => false) (d := fun _ => .none) (cl := [(Str.ofString "due", c)]) (m := m) (h₀ := h₀) (L := L) (by decide) (by with_unfolding_all rfl) (by with_unfolding_all rfl) (by decide) rfl (by decide) (by decide) ?_ (by intro x; with_unfolding_all rfl)
  refine nameX_L F hm ?_ (by kernel_rfl) (by kernel_rfl) (by decide)
  refine ⟨led, r, vs, vs, rfl, News.isList N hr, ?_, ?_, F, N, ?_, ?_, ?_⟩
  · clear hr hlen
    induction vs with
    | nil => exact .nil
    | cons v vs ih =>
      obtain ⟨q, t, u, e, hq⟩ := hv v (List.mem_cons_self ..)
      exact .cons ⟨rfl, q, t, u, e, N.get hq⟩ (ih fun v h => hv v (List.mem_cons_of_mem _ h))
  · have h3 : (1000 : Nat) ≤ sizeLine := by decide
    omega
  · intro C a v s₂ m₂ E' hC ha hk hn hx keep
    obtain ⟨rfl, q, t, u, rfl, hq⟩ := hk
    refine wpAny_tests_one ?_
    refine wpAny_isTrue_Compare1 (ldVarK hn hx (ldCellK rfl ⟨oc, keep _ _ (N.get hc), hoc⟩ (ne_dataH (da := .tuple [.int kx, .int ky]) (db := .tuple [.int kx, .int ky]) (as := []) (bs := []) (reads_tuple_at (keep _ _ hq) rfl rfl (.cons (.int ..) (.cons (.int ..) .nil))) (reads_tuple_at (keep _ _ (N.get hy)) rfl rfl (.cons (.int ..) (.cons (.int ..) .nil))) (by rfl) (by rfl) hlt (wpAny_truthy_bool ?_)) (by kernel_rfl) (by kernel_rfl) (by decide)) (by kernel_rfl) (by kernel_rfl) (by decide)) rfl
    refine ⟨by simp [PyData.eqv, PyData.eqvAll], s₂.heap, s₂.toks, rfl, fun _ _ e => e⟩
  · intro C a v s₂ m₂ E' hC ha hk hp
    cases hp
  · intro D ys h' tk F' N' hD hl hpl hys
    have e9 : List.filter (fun _ : Value => false) vs = [] := by simp
    rw [e9] at hys
    cases hys
    obtain ⟨o, ho, hcl, n9, hdat⟩ := hl
    have ne : D ≠ L := hpl.ne_locals F'
    have N2 : News h₀ L h' ((D, o) :: led) := fun p hp => by
      rcases List.mem_cons.mp hp with rfl | hp
      · exact ⟨ho, ne, hD⟩
      · exact N' _ hp
    refine List_ (args_nil (newList_K F' N2 (fun D2 h2 F2 N3 _ => ?_) (by decide)))
    refine eq_dataH (da := .list []) (db := .list []) (reads_list_at (N3.get (.tail _ (.head _))) hcl hdat .nil) (reads_list_at (N3.get (.head _)) rfl rfl .nil) (by rfl) (by rfl) hlt ?_
    exact k h2 _ _ F2 N3
theorem stm9 : stm lawBody 9 = .Return (some (.Compare (.ListComp (.Name (Str.ofString "point") (lcE c9).pos) [⟨.Name (Str.ofString "point") g9.target.pos, .Name (Str.ofString "told") g9.iter.pos, [.Compare (.Name (Str.ofString "point") (cmpL i9).pos) [.NotEq] [.Name (Str.ofString "due") (cmpR i9).pos] i9.pos], 0⟩] csc c9.pos) [.Eq] [.List [] (cmpR e9).pos] e9.pos)) (retP (stm lawBody 9)) := by kernel_rfl
theorem ret_ok {Q : Flow → Shared → Prop} {E : Value → Shared → Prop} {r y : Addr} {kx ky : Int} {vs : List Value} {n : Nat} {ty uy : Tok} {oc : Obj}
    (hu : un < 9000) (F : Fr h₀ L s.heap m) (N : News h₀ L s.heap led) (hm : m (Str.ofString "told") = some (.ref r)) (hr : (r, W.listOf vs.toArray n) ∈ led) (hlen : vs.length < 1000)
    (hv : ∀ v ∈ vs, ∃ q t u, v = .ref q ∧ (q, tup2 kx ky t u) ∈ led) (hc : (c, oc) ∈ led) (hoc : oc.data = .cell (some (.ref y))) (hy : (y, tup2 kx ky ty uy) ∈ led)
    (k : ∀ h' tk' led', Fr h₀ L h' m → News h₀ L h' led' → Q (.ret (.bool true)) { s with heap := h', toks := tk' }) :
    wpAny (model prog w) (lawH p loose mean mg mb dp un gd cn a ccd outer A₀ base h₀ L c).A (exec (stm lawBody 9) (lawH p loose mean mg mb dp un gd cn a ccd outer A₀ base h₀ L c).env) Q E s := by
  rw [stm9]
  exact wpAny_Return_some (cmp_ok hu F N hm hr hlen hv hc hoc hy k)
end
end
section
local macro_rules | `(tactic| k_units) => `(tactic| ktr_units)
local macro_rules | `(tactic| k_room) => `(tactic| ktr_room)
theorem at_con {prog : Program} {w : World} {p : Program} {loose : List Str} {mean : ExcName → Option Value} {mg mb : Str → Option Value} {dp un : Nat} {gd : Option (List Code)} {cn : Str} {cs : Scope} {a : Addr} {ccd : Value} {cl : List (Str × Addr)} {outer : List Env} {A₀ : Around} {base h₀ : Heap} {L : Addr} {m : Str → Option Value} {s : Shared} {Q E : Value → Shared → Prop} {news : Led} {sa : Addr} {vs : List Value} {ns : List Int} {k : Int} {t : Tok}
    (B : Below A₀ base outer h₀) (F : Fr h₀ L s.heap m) (X : (hd.heap_1 w.params).In h₀) (N : News h₀ L s.heap news) (T : Top p loose mean mg mb h₀) (hk : cs.kind = .function) (hdp : dp < 800) (hun : un < 8000)
    (hl : h₀.IsList sa vs.toArray) (hi : IntsAre vs ns) (hlen : ns.length ≤ 63) (h0 : 0 ≤ k) (h5 : k ≤ 5)
    (ret : ∀ n u h' tk', Fr h₀ L h' m → News h₀ L h' news → Q (.int n u) { s with heap := h', toks := tk' }) :
    wpAny (model prog w) (ktrTop dp un gd cn cs L a ccd cl outer) (call (.ref 498) [.ref sa, .int k t]) Q E s := by
  refine wpAny_call ?_
  refine' code_def B F X N T rfl rfl hk ?k6 ?k7 ?k8 ?k9 ?kB ?_ ?c2 ?c3 ?c4 ?c5
  case k6 => k_is
  case k7 => k_is
  case k8 => ktr_room
  case k9 => exact BindsTo.of_eq rfl
  case kB => exact locs rfl
  case c5 => decide
  case c2 => exact rfl
  case c3 => exact rfl
  case c4 => exact rfl
  intro g L' h₁ FG F' N' B' X' T'
  have hl' := stays_list (fun b o e => FG.keep b o e) hl
  clear hl
  (try dsimp only)
  (try k_fold)
  k_steps
  all_goals exact ret _ _ _ _ (by k_asm) (by k_asm)
end
section
noncomputable abbrev t2 (a b : AV) : AV := .tup (.lcons a (.lcons b .lnil))
noncomputable abbrev t3 (a b c : AV) : AV := .tup (.lcons a (.lcons b (.lcons c .lnil)))
noncomputable abbrev a1 (a : AV) : AV := .lcons a .lnil
noncomputable abbrev a2 (a b : AV) : AV := .lcons a (.lcons b .lnil)
noncomputable abbrev a3 (a b c : AV) : AV := .lcons a (.lcons b (.lcons c .lnil))
noncomputable abbrev cur (P N b gx gy : Int) : AV := .tup (.lcons (.int P) (.lcons (.int N) (.lcons (.int 0) (.lcons (.int b) (.lcons (.int gx) (.lcons (.int gy) .lnil))))))
noncomputable abbrev j3 (X Y Z : Int) : AV := t3 (.int X) (.int Y) (.int Z)
theorem leA {k b a : Nat} (h : k ≤ b) : k ≤ a + b := Nat.le_trans h (Nat.le_add_left ..)
structure Half (n r : Int) (M : Nat) : Prop where
  lt : r.toNat < M
  r0 : 0 ≤ r
  rn : r < n
  u1 : r.toNat + 30 ≤ n.toNat + 29
  u2 : 10 * r.toNat + 300 ≤ 10 * n.toNat + 297
  u3 : r.toNat + 80 ≤ n.toNat + 79
  u4 : 10 * r.toNat + 1300 ≤ 10 * n.toNat + 1297
theorem Half.of {n r : Int} {M : Nat} (h0 : 0 ≤ n) (hz : n ≠ 0) (h1 : n ≠ 1) (hr : r = n / 2) (hM : n.toNat < M + 1) : Half n r M := ⟨by omega, by omega, by omega, by omega, by omega, by omega, by omega⟩
theorem mod2F {n r : Int} (hr : r = n % 2) (h0 : r ≠ 0) (h1 : r ≠ 1) : False := by omega
theorem m2a {n r q : Int} (hr : r = n % 2) (hq : q = n % 2) (h : r = 0) : q = 0 := by omega
noncomputable def JP (P N : Int) (px py : Int → Int) (k : Int) (av : AV) : Prop := ∃ X Y Z, av = j3 X Y Z ∧ JRep P N px py k X Y Z
noncomputable abbrev pt (px py : Int → Int) (k : Int) : AV := t2 (.int (px k)) (.int (py k))
theorem JP.re {P N : Int} {px py : Int → Int} {j k : Int} {av : AV} (h : JP P N px py j av) (s : ∀ A B D, JRep P N px py j A B D → JRep P N px py k A B D) : JP P N px py k av := by
  obtain ⟨X, Y, Z, e, h⟩ := h
  exact ⟨X, Y, Z, e, s _ _ _ h⟩
noncomputable def M35 : MS := (.asg 2 (.tup (.lcons (.item (.v 0) 0) (.lcons (.item (.v 0) 1) (.lcons (.lit 1) .lnil)))) (.ret (.v 2)))
theorem f35 (w : World) : fetch (hd.heap_1 w.params) 35 = some (1, M35) := by kernel_rfl
theorem b35 (w : World) : ∀ vs : List Value, vs.length = 1 → bindArgs (fdOf (hd.heap_1 w.params) 35) ⟨vs, []⟩ = pure ((psOf (hd.heap_1 w.params) 35).zip vs) := bind1 fun _ => by kernel_rfl
noncomputable def M42 : MS := (.unp (4 :: (5 :: (6 :: (7 :: (8 :: (9 :: [])))))) (.v 1) (.iff (.not (.item (.v 0) 1)) (.ret (.tup (.lcons (.lit 0) (.lcons (.lit 0) (.lcons (.lit 0) .lnil))))) .nil (.asg 10 (.bin .Mod (.pow (.item (.v 0) 1) 2) (.v 4)) (.asg 11 (.bin .Mod (.bin .Mult (.bin .Mult (.lit 4) (.item (.v 0) 0)) (.v 10)) (.v 4)) (.asg 12 (.bin .Mod (.bin .Add (.bin .Mult (.lit 3) (.pow (.item (.v 0) 0) 2)) (.bin .Mult (.v 6) (.pow (.item (.v 0) 2) 4))) (.v 4)) (.asg 13 (.bin .Mod (.bin .Sub (.pow (.v 12) 2) (.bin .Mult (.lit 2) (.v 11))) (.v 4)) (.asg 14 (.bin .Mod (.bin .Sub (.bin .Mult (.v 12) (.bin .Sub (.v 11) (.v 13))) (.bin .Mult (.lit 8) (.pow (.v 10) 2))) (.v 4)) (.asg 15 (.bin .Mod (.bin .Mult (.bin .Mult (.lit 2) (.item (.v 0) 1)) (.item (.v 0) 2)) (.v 4)) (.ret (.tup (.lcons (.v 13) (.lcons (.v 14) (.lcons (.v 15) .lnil)))))))))))))
theorem f42 (w : World) : fetch (hd.heap_1 w.params) 42 = some (2, M42) := by kernel_rfl
theorem b42 (w : World) : ∀ vs : List Value, vs.length = 2 → bindArgs (fdOf (hd.heap_1 w.params) 42) ⟨vs, []⟩ = pure ((psOf (hd.heap_1 w.params) 42).zip vs) := bind2 fun _ _ => by kernel_rfl
noncomputable def M49 : MS := (.unp (6 :: (7 :: (8 :: (9 :: (10 :: (11 :: [])))))) (.v 2) (.iff (.not (.item (.v 0) 1)) (.ret (.v 1)) .nil (.iff (.not (.item (.v 1) 1)) (.ret (.v 0)) .nil (.asg 12 (.bin .Mod (.bin .Mult (.item (.v 0) 0) (.pow (.item (.v 1) 2) 2)) (.v 6)) (.asg 13 (.bin .Mod (.bin .Mult (.item (.v 1) 0) (.pow (.item (.v 0) 2) 2)) (.v 6)) (.asg 14 (.bin .Mod (.bin .Mult (.item (.v 0) 1) (.pow (.item (.v 1) 2) 3)) (.v 6)) (.asg 15 (.bin .Mod (.bin .Mult (.item (.v 1) 1) (.pow (.item (.v 0) 2) 3)) (.v 6)) (.iff (.cmp .Eq (.v 12) (.v 13)) (.iff (.cmp .NotEq (.v 14) (.v 15)) (.ret (.tup (.lcons (.lit 0) (.lcons (.lit 0) (.lcons (.lit 1) .lnil))))) .nil (.ret (.call 42 (.lcons (.v 0) (.lcons (.v 2) .lnil))))) .nil (.asg 16 (.bin .Sub (.v 13) (.v 12)) (.asg 17 (.bin .Sub (.v 15) (.v 14)) (.asg 18 (.bin .Mod (.bin .Mult (.v 16) (.v 16)) (.v 6)) (.asg 19 (.bin .Mod (.bin .Mult (.v 16) (.v 18)) (.v 6)) (.asg 20 (.bin .Mod (.bin .Mult (.v 12) (.v 18)) (.v 6)) (.asg 21 (.bin .Mod (.bin .Sub (.bin .Sub (.pow (.v 17) 2) (.v 19)) (.bin .Mult (.lit 2) (.v 20))) (.v 6)) (.asg 22 (.bin .Mod (.bin .Sub (.bin .Mult (.v 17) (.bin .Sub (.v 20) (.v 21))) (.bin .Mult (.v 14) (.v 19))) (.v 6)) (.asg 23 (.bin .Mod (.bin .Mult (.bin .Mult (.v 16) (.item (.v 0) 2)) (.item (.v 1) 2)) (.v 6)) (.ret (.tup (.lcons (.v 21) (.lcons (.v 22) (.lcons (.v 23) .lnil)))))))))))))))))))))
theorem f49 (w : World) : fetch (hd.heap_1 w.params) 49 = some (3, M49) := by kernel_rfl
theorem b49 (w : World) : ∀ vs : List Value, vs.length = 3 → bindArgs (fdOf (hd.heap_1 w.params) 49) ⟨vs, []⟩ = pure ((psOf (hd.heap_1 w.params) 49).zip vs) := bind3 fun _ _ _ => by kernel_rfl
noncomputable def M56 : MS := (.unp (4 :: (5 :: (6 :: (7 :: (8 :: (9 :: [])))))) (.v 1) (.asg 10 (.call 28 (.lcons (.item (.v 0) 2) (.lcons (.v 4) .lnil))) (.ret (.tup (.lcons (.bin .Mod (.bin .Mult (.item (.v 0) 0) (.pow (.v 10) 2)) (.v 4)) (.lcons (.bin .Mod (.bin .Mult (.item (.v 0) 1) (.pow (.v 10) 3)) (.v 4)) .lnil))))))
theorem f56 (w : World) : fetch (hd.heap_1 w.params) 56 = some (2, M56) := by kernel_rfl
theorem b56 (w : World) : ∀ vs : List Value, vs.length = 2 → bindArgs (fdOf (hd.heap_1 w.params) 56) ⟨vs, []⟩ = pure ((psOf (hd.heap_1 w.params) 56).zip vs) := bind2 fun _ _ => by kernel_rfl
noncomputable def M63 : MS := (.unp (6 :: (7 :: (8 :: (9 :: (10 :: (11 :: [])))))) (.v 2) (.iff (.or (.cmp .Eq (.item (.v 0) 1) (.lit 0)) (.cmp .Eq (.v 1) (.lit 0))) (.ret (.tup (.lcons (.lit 0) (.lcons (.lit 0) (.lcons (.lit 1) .lnil))))) .nil (.iff (.cmp .Eq (.v 1) (.lit 1)) (.ret (.v 0)) .nil (.iff (.or (.cmp .Lt (.v 1) (.lit 0)) (.cmp .GtE (.v 1) (.v 7))) (.ret (.call 63 (.lcons (.v 0) (.lcons (.bin .Mod (.v 1) (.v 7)) (.lcons (.v 2) .lnil))))) .nil (.iff (.cmp .Eq (.bin .Mod (.v 1) (.lit 2)) (.lit 0)) (.ret (.call 42 (.lcons (.call 63 (.lcons (.v 0) (.lcons (.bin .FloorDiv (.v 1) (.lit 2)) (.lcons (.v 2) .lnil)))) (.lcons (.v 2) .lnil)))) .nil (.iff (.cmp .Eq (.bin .Mod (.v 1) (.lit 2)) (.lit 1)) (.ret (.call 49 (.lcons (.call 42 (.lcons (.call 63 (.lcons (.v 0) (.lcons (.bin .FloorDiv (.v 1) (.lit 2)) (.lcons (.v 2) .lnil)))) (.lcons (.v 2) .lnil))) (.lcons (.v 0) (.lcons (.v 2) .lnil))))) .nil .fail))))))
theorem f63 (w : World) : fetch (hd.heap_1 w.params) 63 = some (3, M63) := by kernel_rfl
theorem b63 (w : World) : ∀ vs : List Value, vs.length = 3 → bindArgs (fdOf (hd.heap_1 w.params) 63) ⟨vs, []⟩ = pure ((psOf (hd.heap_1 w.params) 63).zip vs) := bind3 fun _ _ _ => by kernel_rfl
noncomputable def M70 : MS := (.unp (6 :: (7 :: (8 :: (9 :: (10 :: (11 :: [])))))) (.v 2) (.ret (.call 56 (.lcons (.call 63 (.lcons (.call 35 (.lcons (.v 0) .lnil)) (.lcons (.v 1) (.lcons (.v 2) .lnil)))) (.lcons (.v 2) .lnil)))))
theorem f70 (w : World) : fetch (hd.heap_1 w.params) 70 = some (3, M70) := by kernel_rfl
theorem b70 (w : World) : ∀ vs : List Value, vs.length = 3 → bindArgs (fdOf (hd.heap_1 w.params) 70) ⟨vs, []⟩ = pure ((psOf (hd.heap_1 w.params) 70).zip vs) := bind3 fun _ _ _ => by kernel_rfl
noncomputable def M77 : MS := (.unp (6 :: (7 :: (8 :: (9 :: (10 :: (11 :: [])))))) (.v 2) (.ret (.call 56 (.lcons (.call 49 (.lcons (.call 35 (.lcons (.v 0) .lnil)) (.lcons (.call 35 (.lcons (.v 1) .lnil)) (.lcons (.v 2) .lnil)))) (.lcons (.v 2) .lnil)))))
theorem f77 (w : World) : fetch (hd.heap_1 w.params) 77 = some (3, M77) := by kernel_rfl
theorem b77 (w : World) : ∀ vs : List Value, vs.length = 3 → bindArgs (fdOf (hd.heap_1 w.params) 77) ⟨vs, []⟩ = pure ((psOf (hd.heap_1 w.params) 77).zip vs) := bind3 fun _ _ _ => by kernel_rfl
section
variable {prog : Program} {w : World} {P N b gx gy : Int} {px py : Int → Int}
theorem sinvA {a n : Int} (hp : Prm n) (h0 : 0 ≤ a) (h1 : a < n) : ACon prog w 2 40 28 (a2 (.int a) (.int n)) (fun av => ∃ i, av = .int i ∧ IsInv n a i ∧ 0 ≤ i ∧ i < n) := by
  refine ⟨fun vs led hr => ?_⟩
  cases hr with
  | cons x y => cases x; cases y with
    | cons x y => cases x; cases y; exact (sinv hp h0 h1).post fun tl r ⟨i, t, e, _, h⟩ => ⟨.int i, e ▸ .int, i, rfl, h⟩
theorem to_jacA (C : Crv P N px py) {k : Int} : ACon prog w 10 100 35 (a1 (pt px py k)) (JP P N px py k) := by
  refine fn_ok (D := 9) (U := 97) (f35 w) (by rfl) (b35 w) ?_
  repeat' (first | intro _ | apply And.intro)
  all_goals first
    | (assumption)
    | (decide)
    | (rfl)
    | (exact big_lit (by decide) (by decide))
    | (exact big_of (by assumption) (by assumption) (by assumption))
    | (exact big_sub (by assumption) (by assumption) (by assumption) (by assumption) (by assumption))
    | (exact Or.inl (big_lit (by decide) (by decide)))
    | (exact Or.inl (big_of (by assumption) (by assumption) (by assumption)))
    | (exact Or.inl (big_sub (by assumption) (by assumption) (by assumption) (by assumption) (by assumption)))
    | (exact Or.inr (big_lit (by decide) (by decide)))
    | (exact Or.inr (big_of (by assumption) (by assumption) (by assumption)))
    | (exact Or.inr (big_sub (by assumption) (by assumption) (by assumption) (by assumption) (by assumption)))
    | (exact ⟨_, _, _, rfl, JRep.one C k⟩)
theorem jdblA (C : Crv P N px py) {k X Y Z : Int} (hj : JRep P N px py k X Y Z) : ACon prog w 10 100 42 (a2 (j3 X Y Z) (cur P N b gx gy)) (JP P N px py (2 * k)) := by
  have hP := C.prm.pos
  have hP2 := C.prm.2.1
  have hprm := C.prm
  obtain ⟨bX0, bX1⟩ := hj.1
  obtain ⟨bY0, bY1⟩ := hj.2.1
  obtain ⟨bZ0, bZ1⟩ := hj.2.2.1
  refine fn_ok (D := 9) (U := 97) (f42 w) (by rfl) (b42 w) ?_
  repeat' (first | intro _ | apply And.intro)
  all_goals first
    | (assumption)
    | (decide)
    | (rfl)
    | (exact big_lit (by decide) (by decide))
    | (exact big_of (by assumption) (by assumption) (by assumption))
    | (exact big_sub (by assumption) (by assumption) (by assumption) (by assumption) (by assumption))
    | (exact Or.inl (big_lit (by decide) (by decide)))
    | (exact Or.inl (big_of (by assumption) (by assumption) (by assumption)))
    | (exact Or.inl (big_sub (by assumption) (by assumption) (by assumption) (by assumption) (by assumption)))
    | (exact Or.inr (big_lit (by decide) (by decide)))
    | (exact Or.inr (big_of (by assumption) (by assumption) (by assumption)))
    | (exact Or.inr (big_sub (by assumption) (by assumption) (by assumption) (by assumption) (by assumption)))
    | (exact ⟨_, _, _, rfl, JRep.dbl0 C hj (by assumption)⟩)
    | (exact ⟨_, _, _, rfl, jdbl_rep C hj (by assumption) (by assumption) (by assumption) (by assumption) (by assumption) (by assumption) (by assumption)⟩)
theorem jaddA (C : Crv P N px py) {j k X Y Z A B D : Int} (hj1 : JRep P N px py j X Y Z) (hj2 : JRep P N px py k A B D) : ACon prog w 15 150 49 (a3 (j3 X Y Z) (j3 A B D) (cur P N b gx gy)) (JP P N px py (j + k)) := by
  have hP := C.prm.pos
  have hP2 := C.prm.2.1
  have hprm := C.prm
  obtain ⟨bX01, bX11⟩ := hj1.1
  obtain ⟨bY01, bY11⟩ := hj1.2.1
  obtain ⟨bZ01, bZ11⟩ := hj1.2.2.1
  obtain ⟨bX02, bX12⟩ := hj2.1
  obtain ⟨bY02, bY12⟩ := hj2.2.1
  obtain ⟨bZ02, bZ12⟩ := hj2.2.2.1
  refine fn_ok (D := 14) (U := 147) (f49 w) (by rfl) (b49 w) ?_
  repeat' (first | intro _ | apply And.intro)
  all_goals first
    | (assumption)
    | (decide)
    | (rfl)
    | (exact big_lit (by decide) (by decide))
    | (exact big_of (by assumption) (by assumption) (by assumption))
    | (exact big_sub (by assumption) (by assumption) (by assumption) (by assumption) (by assumption))
    | (exact Or.inl (big_lit (by decide) (by decide)))
    | (exact Or.inl (big_of (by assumption) (by assumption) (by assumption)))
    | (exact Or.inl (big_sub (by assumption) (by assumption) (by assumption) (by assumption) (by assumption)))
    | (exact Or.inr (big_lit (by decide) (by decide)))
    | (exact Or.inr (big_of (by assumption) (by assumption) (by assumption)))
    | (exact Or.inr (big_sub (by assumption) (by assumption) (by assumption) (by assumption) (by assumption)))
    | (exact ⟨_, _, _, rfl, hj2.idx C (C.sum0 (hj1.y0 C (by assumption))).symm⟩)
    | (exact ⟨_, _, _, rfl, hj1.idx C (C.sum0' (hj2.y0 C (by assumption))).symm⟩)
    | (exact ⟨_, _, _, rfl, jadd_inf C hj1 hj2 (by assumption) (by assumption) (by assumption) (by assumption) (by assumption) (by assumption) (by first | assumption | decide | omega) (by first | assumption | decide | omega)⟩)
    | (exact (jdblA C hj1).use (by decide) (by decide) fun av h => h.re fun A B D hABD => jadd_dbl C hj1 hj2 (by assumption) (by assumption) (by assumption) (by assumption) (by assumption) (by assumption) (by first | assumption | decide | omega) (by first | assumption | decide | omega) hABD)
    | (exact ⟨_, _, _, rfl, jadd_rep C hj1 hj2 (by assumption) (by assumption) (by assumption) (by assumption) (by assumption) (by assumption) (by assumption) (by assumption) (by assumption) (by assumption) (by assumption) (by assumption) (by assumption)⟩)
theorem fromjA (C : Crv P N px py) {k X Y Z : Int} (hj : JRep P N px py k X Y Z) : ACon prog w 15 150 56 (a2 (j3 X Y Z) (cur P N b gx gy)) (fun av => av = pt px py k) := by
  have hP := C.prm.pos
  have hP2 := C.prm.2.1
  have hprm := C.prm
  obtain ⟨bX0, bX1⟩ := hj.1
  obtain ⟨bY0, bY1⟩ := hj.2.1
  obtain ⟨bZ0, bZ1⟩ := hj.2.2.1
  refine fn_ok (D := 14) (U := 147) (f56 w) (by rfl) (b56 w) ?_
  repeat' (first | (refine (sinvA hprm (by assumption) (by assumption)).use (by decide) (by decide) ?_; rintro _ ⟨i, rfl, hi, hi0, hi1⟩) | intro _ | apply And.intro)
  all_goals first
    | (assumption)
    | (decide)
    | (rfl)
    | (exact big_lit (by decide) (by decide))
    | (exact big_of (by assumption) (by assumption) (by assumption))
    | (exact big_sub (by assumption) (by assumption) (by assumption) (by assumption) (by assumption))
    | (exact Or.inl (big_lit (by decide) (by decide)))
    | (exact Or.inl (big_of (by assumption) (by assumption) (by assumption)))
    | (exact Or.inl (big_sub (by assumption) (by assumption) (by assumption) (by assumption) (by assumption)))
    | (exact Or.inr (big_lit (by decide) (by decide)))
    | (exact Or.inr (big_of (by assumption) (by assumption) (by assumption)))
    | (exact Or.inr (big_sub (by assumption) (by assumption) (by assumption) (by assumption) (by assumption)))
    | (obtain ⟨e1, e2⟩ := jback C hj (by assumption) (by assumption) (by assumption); exact congr (congrArg _ e1) e2)
    | (show t2 _ _ = t2 _ _; obtain ⟨e1, e2⟩ := jback C hj (by assumption) (by assumption) (by assumption); rw [e1, e2])
noncomputable def JIHA (prog : Program) (w : World) (P N b gx gy : Int) (px py : Int → Int) (M : Nat) : Prop := ∀ (n : Int), n.toNat < M → 0 ≤ n → n < N → ∀ {k X Y Z : Int}, JRep P N px py k X Y Z → ACon prog w (n.toNat + 30) (10 * n.toNat + 300) 63 (a3 (j3 X Y Z) (.int n) (cur P N b gx gy)) (JP P N px py (k * n))
theorem jmul_stepA (C : Crv P N px py) {M : Nat} (IH : JIHA prog w P N b gx gy px py M) {n : Int} (hM : n.toNat < M + 1) (hn0 : 0 ≤ n) (hn1 : n < N) {k X Y Z : Int} (hj : JRep P N px py k X Y Z) : ACon prog w (n.toNat + 30) (10 * n.toNat + 300) 63 (a3 (j3 X Y Z) (.int n) (cur P N b gx gy)) (JP P N px py (k * n)) := by
  have hP := C.prm.pos
  have hP2 := C.prm.2.1
  have hprm := C.prm
  obtain ⟨bX0, bX1⟩ := hj.1
  obtain ⟨bY0, bY1⟩ := hj.2.1
  obtain ⟨bZ0, bZ1⟩ := hj.2.2.1
  have hbig := C.big
  have hN7 := C.n7
  have hN1 := C.n1000
  refine fn_ok (D := n.toNat + 29) (U := 10 * n.toNat + 297) (f63 w) (by rfl) (b63 w) ?_
  repeat' (first | (exact absurd hn0 (Int.not_le.mpr (by assumption))) | (exact absurd hn1 (Int.not_lt.mpr (by assumption))) | (have hF := Half.of hn0 (by assumption) (by assumption) (by assumption) hM; refine (IH _ hF.lt hF.r0 (Int.lt_trans hF.rn hn1) hj).use hF.u1 hF.u2 ?_; clear hF; rintro _ ⟨X', Y', Z', rfl, hj'⟩) | (exact (jdblA C (by assumption)).use (leA (by decide)) (leA (by decide)) fun av h => h.re fun A B D hABD => hABD.idxE (mul_half (by assumption) (by assumption) (by first | assumption | decide | omega))) | (refine (jdblA C (by assumption)).use (leA (by decide)) (leA (by decide)) ?_; rintro _ ⟨X', Y', Z', rfl, hj''⟩) | intro _ | apply And.intro)
  all_goals first
    | (assumption)
    | (decide)
    | (rfl)
    | (exact big_lit (by decide) (by decide))
    | (exact big_of (by assumption) (by assumption) (by assumption))
    | (exact big_sub (by assumption) (by assumption) (by assumption) (by assumption) (by assumption))
    | (exact Or.inl (big_lit (by decide) (by decide)))
    | (exact Or.inl (big_of (by assumption) (by assumption) (by assumption)))
    | (exact Or.inl (big_sub (by assumption) (by assumption) (by assumption) (by assumption) (by assumption)))
    | (exact Or.inr (big_lit (by decide) (by decide)))
    | (exact Or.inr (big_of (by assumption) (by assumption) (by assumption)))
    | (exact Or.inr (big_sub (by assumption) (by assumption) (by assumption) (by assumption) (by assumption)))
    | (exact ⟨_, _, _, rfl, JRep.ofInf C (C.mul0 (hj.y0 C (by assumption))) (by omega) (by omega)⟩)
    | (exact ⟨_, _, _, rfl, JRep.ofInf C (C.mul00 (by first | assumption | decide | omega)) (by omega) (by omega)⟩)
    | (exact ⟨_, _, _, rfl, hj.idxE (by rw [show n = 1 from (by first | assumption | decide | omega), Int.mul_one])⟩)
    | (exact (jdblA C (by assumption)).use (leA (by decide)) (leA (by decide)) fun av h => h.re fun A B D hABD => hABD.idxE (mul_half (by assumption) (by assumption) (by first | assumption | decide | omega)))
    | (exact (jaddA C (by assumption) hj).use (leA (by decide)) (leA (by decide)) fun av h => h.re fun A B D hABD => hABD.idxE (mul_half1 (by assumption) (by assumption) (by first | assumption | decide | omega)))
    | (exact absurd hn0 (Int.not_le.mpr (by assumption)))
    | (exact absurd hn1 (Int.not_lt.mpr (by assumption)))
    | (exact (mod2F (by assumption) (by assumption) (by assumption)).elim)
    | (exfalso; omega)
theorem jmul_allA {P N b gx gy : Int} (C : Crv P N px py) : ∀ M, JIHA prog w P N b gx gy px py M := by
  intro M
  induction M with
  | zero => intro n h; exact absurd h (Nat.not_lt_zero _)
  | succ M ih => intro n h h0 h1 k X Y Z hj; exact jmul_stepA C ih h h0 h1 hj
theorem jmulA (C : Crv P N px py) {n k X Y Z : Int} (hn0 : 0 ≤ n) (hn1 : n < N) (hj : JRep P N px py k X Y Z) : ACon prog w 160 1600 63 (a3 (j3 X Y Z) (.int n) (cur P N b gx gy)) (JP P N px py (k * n)) := by
  have hN1 := C.n1000
  exact (jmul_allA C (n.toNat + 1) n (by omega) hn0 hn1 hj).use (by omega) (by omega) fun _ h => h
theorem smulA (C : Crv P N px py) {n k : Int} (hn0 : 0 ≤ n) (hn1 : n < N) : ACon prog w 165 1700 70 (a3 (pt px py k) (.int n) (cur P N b gx gy)) (fun av => av = pt px py (k * n)) := by
  refine fn_ok (D := 164) (U := 1697) (f70 w) (by rfl) (b70 w) ?_
  repeat' (first | (refine (to_jacA C).use (by decide) (by decide) ?_; rintro _ ⟨X', Y', Z', rfl, hj'⟩) | (refine (jmulA C hn0 hn1 (by assumption)).use (by decide) (by decide) ?_; rintro _ ⟨X', Y', Z', rfl, hj''⟩) | (exact (fromjA C (by assumption)).use (by decide) (by decide) fun _ h => h) | intro _ | apply And.intro)
  all_goals first
    | (assumption)
    | (decide)
    | (rfl)
    | (exact big_lit (by decide) (by decide))
    | (exact big_of (by assumption) (by assumption) (by assumption))
    | (exact big_sub (by assumption) (by assumption) (by assumption) (by assumption) (by assumption))
    | (exact Or.inl (big_lit (by decide) (by decide)))
    | (exact Or.inl (big_of (by assumption) (by assumption) (by assumption)))
    | (exact Or.inl (big_sub (by assumption) (by assumption) (by assumption) (by assumption) (by assumption)))
    | (exact Or.inr (big_lit (by decide) (by decide)))
    | (exact Or.inr (big_of (by assumption) (by assumption) (by assumption)))
    | (exact Or.inr (big_sub (by assumption) (by assumption) (by assumption) (by assumption) (by assumption)))
    | (fail)
theorem saddA (C : Crv P N px py) {j k : Int} : ACon prog w 20 200 77 (a3 (pt px py j) (pt px py k) (cur P N b gx gy)) (fun av => av = pt px py (j + k)) := by
  refine fn_ok (D := 19) (U := 197) (f77 w) (by rfl) (b77 w) ?_
  repeat' (first | (refine (to_jacA (k := j) C).use (by decide) (by decide) ?_; rintro _ ⟨X', Y', Z', rfl, hj'⟩) | (refine (to_jacA (k := k) C).use (by decide) (by decide) ?_; rintro _ ⟨X', Y', Z', rfl, hj''⟩) | (refine (jaddA C hj' hj'').use (by decide) (by decide) ?_; rintro _ ⟨X', Y', Z', rfl, hj3⟩) | (exact (fromjA C (by assumption)).use (by decide) (by decide) fun _ h => h) | intro _ | apply And.intro)
  all_goals first
    | (assumption)
    | (decide)
    | (rfl)
    | (exact big_lit (by decide) (by decide))
    | (exact big_of (by assumption) (by assumption) (by assumption))
    | (exact big_sub (by assumption) (by assumption) (by assumption) (by assumption) (by assumption))
    | (exact Or.inl (big_lit (by decide) (by decide)))
    | (exact Or.inl (big_of (by assumption) (by assumption) (by assumption)))
    | (exact Or.inl (big_sub (by assumption) (by assumption) (by assumption) (by assumption) (by assumption)))
    | (exact Or.inr (big_lit (by decide) (by decide)))
    | (exact Or.inr (big_of (by assumption) (by assumption) (by assumption)))
    | (exact Or.inr (big_sub (by assumption) (by assumption) (by assumption) (by assumption) (by assumption)))
    | (fail)
end
end
section
noncomputable def FQp (c : Bool) (P : Int) (R : Int → Prop) (av : AV) : Prop := ∃ n, av = .fq c P n ∧ R n ∧ 0 ≤ n ∧ n < P
theorem FQp.imp {c : Bool} {P : Int} {R R' : Int → Prop} {av : AV} (h : FQp c P R av) (s : ∀ n, R n → R' n) : FQp c P R' av := let ⟨n, e, r, a, b⟩ := h; ⟨n, e, s n r, a, b⟩
noncomputable def EqP (x y : Int) (av : AV) : Prop := (av = .bool true ∧ x = y) ∨ (av = .bool false ∧ x ≠ y)
section
variable {prog : Program} {w : World} {P x y : Int}
theorem pinvA {a n : Int} (hp : Prm n) (h0 : 0 ≤ a) (h1 : a < n) : ACon prog w 2 40 112 (a2 (.int a) (.int n)) (fun av => ∃ i, av = .int i ∧ IsInv n a i ∧ 0 ≤ i ∧ i < n) := by
  refine ⟨fun vs led hr => ?_⟩
  cases hr with
  | cons x y => cases x; cases y with
    | cons x y => cases x; cases y; exact (pinv hp h0 h1).post fun tl r ⟨i, t, e, _, h⟩ => ⟨.int i, e ▸ .int, i, rfl, h⟩
noncomputable def M238 : MS := (.ret (.call 255 (.lcons (.v 1) (.lcons (.attr (.v 0) 1) .lnil))))
theorem f238 (w : World) : fetch (hd.heap_1 w.params) 238 = some (2, M238) := by kernel_rfl
theorem b238 (w : World) : ∀ vs : List Value, vs.length = 2 → bindArgs (fdOf (hd.heap_1 w.params) 238) ⟨vs, []⟩ = pure ((psOf (hd.heap_1 w.params) 238).zip vs) := bind2 fun _ _ => by kernel_rfl
noncomputable def M140 : MS := (.iff (.iscls (.v 1) 255) (.asg 4 (.attr (.v 1) 0) .nil) (.iff (.isint (.v 1)) (.asg 4 (.v 1) .nil) .fail .nil) (.ret (.meth (.v 0) 0 (.lcons (.bin .Mod (.bin .Mult (.attr (.v 0) 0) (.v 4)) (.attr (.v 0) 1)) .lnil))))
theorem f140 (w : World) : fetch (hd.heap_1 w.params) 140 = some (2, M140) := by kernel_rfl
theorem b140 (w : World) : ∀ vs : List Value, vs.length = 2 → bindArgs (fdOf (hd.heap_1 w.params) 140) ⟨vs, []⟩ = pure ((psOf (hd.heap_1 w.params) 140).zip vs) := bind2 fun _ _ => by kernel_rfl
noncomputable def M147 : MS := (.ret (.bin .Mult (.v 0) (.v 1)))
theorem f147 (w : World) : fetch (hd.heap_1 w.params) 147 = some (2, M147) := by kernel_rfl
theorem b147 (w : World) : ∀ vs : List Value, vs.length = 2 → bindArgs (fdOf (hd.heap_1 w.params) 147) ⟨vs, []⟩ = pure ((psOf (hd.heap_1 w.params) 147).zip vs) := bind2 fun _ _ => by kernel_rfl
noncomputable def M168 : MS := (.iff (.iscls (.v 1) 255) (.asg 4 (.attr (.v 1) 0) .nil) (.iff (.isint (.v 1)) (.asg 4 (.v 1) .nil) .fail .nil) (.ret (.meth (.v 0) 0 (.lcons (.bin .Mod (.bin .Sub (.attr (.v 0) 0) (.v 4)) (.attr (.v 0) 1)) .lnil))))
theorem f168 (w : World) : fetch (hd.heap_1 w.params) 168 = some (2, M168) := by kernel_rfl
theorem b168 (w : World) : ∀ vs : List Value, vs.length = 2 → bindArgs (fdOf (hd.heap_1 w.params) 168) ⟨vs, []⟩ = pure ((psOf (hd.heap_1 w.params) 168).zip vs) := bind2 fun _ _ => by kernel_rfl
noncomputable def M175 : MS := (.iff (.iscls (.v 1) 255) (.asg 4 (.attr (.v 1) 0) .nil) (.iff (.isint (.v 1)) (.asg 4 (.v 1) .nil) .fail .nil) (.ret (.meth (.v 0) 0 (.lcons (.bin .Mod (.bin .Mult (.attr (.v 0) 0) (.call 112 (.lcons (.v 4) (.lcons (.attr (.v 0) 1) .lnil)))) (.attr (.v 0) 1)) .lnil))))
theorem f175 (w : World) : fetch (hd.heap_1 w.params) 175 = some (2, M175) := by kernel_rfl
theorem b175 (w : World) : ∀ vs : List Value, vs.length = 2 → bindArgs (fdOf (hd.heap_1 w.params) 175) ⟨vs, []⟩ = pure ((psOf (hd.heap_1 w.params) 175).zip vs) := bind2 fun _ _ => by kernel_rfl
noncomputable def M189 : MS := (.iff (.cmp .Eq (.v 1) (.lit 0)) (.ret (.meth (.v 0) 0 (.lcons (.lit 1) .lnil))) (.iff (.cmp .Eq (.v 1) (.lit 1)) (.ret (.meth (.v 0) 0 (.lcons (.attr (.v 0) 0) .lnil))) (.iff (.cmp .Eq (.bin .Mod (.v 1) (.lit 2)) (.lit 0)) (.ret (.bin .Pow (.bin .Mult (.v 0) (.v 0)) (.bin .FloorDiv (.v 1) (.lit 2)))) (.ret (.bin .Mult (.bin .Pow (.bin .Mult (.v 0) (.v 0)) (.toint (.bin .FloorDiv (.v 1) (.lit 2)))) (.v 0))) .nil) .nil) .nil)
theorem f189 (w : World) : fetch (hd.heap_1 w.params) 189 = some (2, M189) := by kernel_rfl
theorem b189 (w : World) : ∀ vs : List Value, vs.length = 2 → bindArgs (fdOf (hd.heap_1 w.params) 189) ⟨vs, []⟩ = pure ((psOf (hd.heap_1 w.params) 189).zip vs) := bind2 fun _ _ => by kernel_rfl
noncomputable def M196 : MS := (.iff (.iscls (.v 1) 255) (.ret (.cmp .Eq (.attr (.v 0) 0) (.attr (.v 1) 0))) (.iff (.isint (.v 1)) (.ret (.cmp .Eq (.attr (.v 0) 0) (.v 1))) .fail .nil) .nil)
theorem f196 (w : World) : fetch (hd.heap_1 w.params) 196 = some (2, M196) := by kernel_rfl
theorem b196 (w : World) : ∀ vs : List Value, vs.length = 2 → bindArgs (fdOf (hd.heap_1 w.params) 196) ⟨vs, []⟩ = pure ((psOf (hd.heap_1 w.params) 196).zip vs) := bind2 fun _ _ => by kernel_rfl
noncomputable def M210 : MS := (.ret (.meth (.v 0) 0 (.lcons (.neg (.attr (.v 0) 0)) .lnil)))
theorem f210 (w : World) : fetch (hd.heap_1 w.params) 210 = some (1, M210) := by kernel_rfl
theorem b210 (w : World) : ∀ vs : List Value, vs.length = 1 → bindArgs (fdOf (hd.heap_1 w.params) 210) ⟨vs, []⟩ = pure ((psOf (hd.heap_1 w.params) 210).zip vs) := bind1 fun _ => by kernel_rfl
noncomputable def M133 : MS := (.iff (.iscls (.v 1) 255) (.asg 4 (.attr (.v 1) 0) .nil) (.iff (.isint (.v 1)) (.asg 4 (.v 1) .nil) .fail .nil) (.ret (.meth (.v 0) 0 (.lcons (.bin .Mod (.bin .Add (.attr (.v 0) 0) (.v 4)) (.attr (.v 0) 1)) .lnil))))
theorem f133 (w : World) : fetch (hd.heap_1 w.params) 133 = some (2, M133) := by kernel_rfl
theorem b133 (w : World) : ∀ vs : List Value, vs.length = 2 → bindArgs (fdOf (hd.heap_1 w.params) 133) ⟨vs, []⟩ = pure ((psOf (hd.heap_1 w.params) 133).zip vs) := bind2 fun _ _ => by kernel_rfl
theorem new1 (hp : Prm P) {v : Int} : ACon prog w 4 60 255 (a2 (.int v) (.int P)) (FQp true P (fun n => n = v % P)) := by
  refine ⟨fun vs led hr => ?_⟩
  cases hr with
  | cons x y => cases x; cases y with
    | cons x y => cases x; cases y; exact (fq_new1 hp).post fun tl r ⟨x, d, k1, k2, t1, t2, n, e, et, h, h0, h1⟩ => ⟨.fq true P n, by subst e et; exact .fq (c := true) (.head _) (.tail _ (.head _)) hp h0 h1, n, rfl, h, h0, h1⟩
theorem made1 (hp : Prm P) {v : Int} : ACon prog w 8 100 238 (a2 (.fq true P x) (.int v)) (FQp true P (fun n => n = v % P)) := by
  have hP := hp.pos
  refine fn_ok (D := 7) (U := 97) (f238 w) (by rfl) (b238 w) ?_
  repeat' (first | (exact (new1 hp).use (by decide) (by decide) fun _ h => h) | intro _ | apply And.intro)
  all_goals first
    | (assumption)
    | (decide)
    | (rfl)
    | (exact big_lit (by decide) (by decide))
    | (exact big_of (by assumption) (by assumption) (by assumption))
    | (exact big_sub (by assumption) (by assumption) (by assumption) (by assumption) (by assumption))
    | (exact Or.inl (big_lit (by decide) (by decide)))
    | (exact Or.inl (big_of (by assumption) (by assumption) (by assumption)))
    | (exact Or.inl (big_sub (by assumption) (by assumption) (by assumption) (by assumption) (by assumption)))
    | (exact Or.inr (big_lit (by decide) (by decide)))
    | (exact Or.inr (big_of (by assumption) (by assumption) (by assumption)))
    | (exact Or.inr (big_sub (by assumption) (by assumption) (by assumption) (by assumption) (by assumption)))
    | (fail)
theorem mul1 (hp : Prm P) (bx0 : 0 ≤ x) (bx1 : x < P) (by0 : 0 ≤ y) (by1 : y < P) : ACon prog w 12 200 140 (a2 (.fq true P x) (.fq true P y)) (FQp true P (fun n => n = (x * y) % P)) := by
  have hP := hp.pos
  have hP2 := hp.2.1
  refine fn_ok (D := 11) (U := 197) (f140 w) (by rfl) (b140 w) ?_
  repeat' (first | (exact (made1 hp).use (by decide) (by decide) fun _ h => h.imp fun n e => (by subst_vars; first | rfl | (simp only [Int.emod_emod]; done))) | intro _ | apply And.intro)
  all_goals first
    | (assumption)
    | (decide)
    | (rfl)
    | (exact big_lit (by decide) (by decide))
    | (exact big_of (by assumption) (by assumption) (by assumption))
    | (exact big_sub (by assumption) (by assumption) (by assumption) (by assumption) (by assumption))
    | (exact Or.inl (big_lit (by decide) (by decide)))
    | (exact Or.inl (big_of (by assumption) (by assumption) (by assumption)))
    | (exact Or.inl (big_sub (by assumption) (by assumption) (by assumption) (by assumption) (by assumption)))
    | (exact Or.inr (big_lit (by decide) (by decide)))
    | (exact Or.inr (big_of (by assumption) (by assumption) (by assumption)))
    | (exact Or.inr (big_sub (by assumption) (by assumption) (by assumption) (by assumption) (by assumption)))
    | (exfalso; omega)
theorem muli1 (hp : Prm P) (bx0 : 0 ≤ x) (bx1 : x < P) {k : Int} (bk0 : 0 ≤ k) (bk1 : k < 100) : ACon prog w 12 200 140 (a2 (.fq true P x) (.int k)) (FQp true P (fun n => n = (x * k) % P)) := by
  have hP := hp.pos
  have hP2 := hp.2.1
  refine fn_ok (D := 11) (U := 197) (f140 w) (by rfl) (b140 w) ?_
  repeat' (first | (exact (made1 hp).use (by decide) (by decide) fun _ h => h.imp fun n e => (by subst_vars; first | rfl | (simp only [Int.emod_emod]; done))) | intro _ | apply And.intro)
  all_goals first
    | (assumption)
    | (decide)
    | (rfl)
    | (exact big_lit (by decide) (by decide))
    | (exact big_of (by assumption) (by assumption) (by assumption))
    | (exact big_sub (by assumption) (by assumption) (by assumption) (by assumption) (by assumption))
    | (exact Or.inl (big_lit (by decide) (by decide)))
    | (exact Or.inl (big_of (by assumption) (by assumption) (by assumption)))
    | (exact Or.inl (big_sub (by assumption) (by assumption) (by assumption) (by assumption) (by assumption)))
    | (exact Or.inr (big_lit (by decide) (by decide)))
    | (exact Or.inr (big_of (by assumption) (by assumption) (by assumption)))
    | (exact Or.inr (big_sub (by assumption) (by assumption) (by assumption) (by assumption) (by assumption)))
    | (exfalso; omega)
theorem rmul1 (hp : Prm P) (bx0 : 0 ≤ x) (bx1 : x < P) {k : Int} (bk0 : 0 ≤ k) (bk1 : k < 100) : ACon prog w 16 300 147 (a2 (.fq true P x) (.int k)) (FQp true P (fun n => n = (x * k) % P)) := by
  have hP := hp.pos
  have hP2 := hp.2.1
  refine fn_ok (D := 15) (U := 297) (f147 w) (by rfl) (b147 w) ?_
  repeat' (first | (exact (muli1 hp bx0 bx1 bk0 bk1).use (by decide) (by decide) fun _ h => h) | intro _ | apply And.intro)
  all_goals first
    | (assumption)
    | (decide)
    | (rfl)
    | (exact big_lit (by decide) (by decide))
    | (exact big_of (by assumption) (by assumption) (by assumption))
    | (exact big_sub (by assumption) (by assumption) (by assumption) (by assumption) (by assumption))
    | (exact Or.inl (big_lit (by decide) (by decide)))
    | (exact Or.inl (big_of (by assumption) (by assumption) (by assumption)))
    | (exact Or.inl (big_sub (by assumption) (by assumption) (by assumption) (by assumption) (by assumption)))
    | (exact Or.inr (big_lit (by decide) (by decide)))
    | (exact Or.inr (big_of (by assumption) (by assumption) (by assumption)))
    | (exact Or.inr (big_sub (by assumption) (by assumption) (by assumption) (by assumption) (by assumption)))
    | (exfalso; omega)
theorem sub1 (hp : Prm P) (bx0 : 0 ≤ x) (bx1 : x < P) (by0 : 0 ≤ y) (by1 : y < P) : ACon prog w 12 200 168 (a2 (.fq true P x) (.fq true P y)) (FQp true P (fun n => n = (x - y) % P)) := by
  have hP := hp.pos
  have hP2 := hp.2.1
  refine fn_ok (D := 11) (U := 197) (f168 w) (by rfl) (b168 w) ?_
  repeat' (first | (exact (made1 hp).use (by decide) (by decide) fun _ h => h.imp fun n e => (by subst_vars; first | rfl | (simp only [Int.emod_emod]; done))) | intro _ | apply And.intro)
  all_goals first
    | (assumption)
    | (decide)
    | (rfl)
    | (exact big_lit (by decide) (by decide))
    | (exact big_of (by assumption) (by assumption) (by assumption))
    | (exact big_sub (by assumption) (by assumption) (by assumption) (by assumption) (by assumption))
    | (exact Or.inl (big_lit (by decide) (by decide)))
    | (exact Or.inl (big_of (by assumption) (by assumption) (by assumption)))
    | (exact Or.inl (big_sub (by assumption) (by assumption) (by assumption) (by assumption) (by assumption)))
    | (exact Or.inr (big_lit (by decide) (by decide)))
    | (exact Or.inr (big_of (by assumption) (by assumption) (by assumption)))
    | (exact Or.inr (big_sub (by assumption) (by assumption) (by assumption) (by assumption) (by assumption)))
    | (exfalso; omega)
theorem add1 (hp : Prm P) (bx0 : 0 ≤ x) (bx1 : x < P) (by0 : 0 ≤ y) (by1 : y < P) : ACon prog w 12 200 133 (a2 (.fq true P x) (.fq true P y)) (FQp true P (fun n => n = (x + y) % P)) := by
  have hP := hp.pos
  have hP2 := hp.2.1
  refine fn_ok (D := 11) (U := 197) (f133 w) (by rfl) (b133 w) ?_
  repeat' (first | (exact (made1 hp).use (by decide) (by decide) fun _ h => h.imp fun n e => (by subst_vars; first | rfl | (simp only [Int.emod_emod]; done))) | intro _ | apply And.intro)
  all_goals first
    | (assumption)
    | (decide)
    | (rfl)
    | (exact big_lit (by decide) (by decide))
    | (exact big_of (by assumption) (by assumption) (by assumption))
    | (exact big_sub (by assumption) (by assumption) (by assumption) (by assumption) (by assumption))
    | (exact Or.inl (big_lit (by decide) (by decide)))
    | (exact Or.inl (big_of (by assumption) (by assumption) (by assumption)))
    | (exact Or.inl (big_sub (by assumption) (by assumption) (by assumption) (by assumption) (by assumption)))
    | (exact Or.inr (big_lit (by decide) (by decide)))
    | (exact Or.inr (big_of (by assumption) (by assumption) (by assumption)))
    | (exact Or.inr (big_sub (by assumption) (by assumption) (by assumption) (by assumption) (by assumption)))
    | (exfalso; omega)
theorem div1 (hp : Prm P) (bx0 : 0 ≤ x) (bx1 : x < P) (by0 : 0 ≤ y) (by1 : y < P) : ACon prog w 12 200 175 (a2 (.fq true P x) (.fq true P y)) (FQp true P (fun n => ∃ i, IsInv P y i ∧ n = (x * i) % P)) := by
  have hP := hp.pos
  have hP2 := hp.2.1
  refine fn_ok (D := 11) (U := 197) (f175 w) (by rfl) (b175 w) ?_
  repeat' (first | (refine (pinvA hp (by assumption) (by assumption)).use (by decide) (by decide) ?_; rintro _ ⟨i, rfl, hi, hi0, hi1⟩) | (exact (made1 hp).use (by decide) (by decide) fun _ h => h.imp fun n e => ⟨_, hi, (by subst_vars; first | rfl | (simp only [Int.emod_emod]; done))⟩) | intro _ | apply And.intro)
  all_goals first
    | (assumption)
    | (decide)
    | (rfl)
    | (exact big_lit (by decide) (by decide))
    | (exact big_of (by assumption) (by assumption) (by assumption))
    | (exact big_sub (by assumption) (by assumption) (by assumption) (by assumption) (by assumption))
    | (exact Or.inl (big_lit (by decide) (by decide)))
    | (exact Or.inl (big_of (by assumption) (by assumption) (by assumption)))
    | (exact Or.inl (big_sub (by assumption) (by assumption) (by assumption) (by assumption) (by assumption)))
    | (exact Or.inr (big_lit (by decide) (by decide)))
    | (exact Or.inr (big_of (by assumption) (by assumption) (by assumption)))
    | (exact Or.inr (big_sub (by assumption) (by assumption) (by assumption) (by assumption) (by assumption)))
    | (exfalso; omega)
theorem eq1 (hp : Prm P)  : ACon prog w 4 60 196 (a2 (.fq true P x) (.fq true P y)) (EqP x y) := by
  have hP := hp.pos
  have hP2 := hp.2.1
  refine fn_ok (D := 3) (U := 57) (f196 w) (by rfl) (b196 w) ?_
  repeat' (first | intro _ | apply And.intro)
  all_goals first
    | (assumption)
    | (decide)
    | (rfl)
    | (exact big_lit (by decide) (by decide))
    | (exact big_of (by assumption) (by assumption) (by assumption))
    | (exact big_sub (by assumption) (by assumption) (by assumption) (by assumption) (by assumption))
    | (exact Or.inl (big_lit (by decide) (by decide)))
    | (exact Or.inl (big_of (by assumption) (by assumption) (by assumption)))
    | (exact Or.inl (big_sub (by assumption) (by assumption) (by assumption) (by assumption) (by assumption)))
    | (exact Or.inr (big_lit (by decide) (by decide)))
    | (exact Or.inr (big_of (by assumption) (by assumption) (by assumption)))
    | (exact Or.inr (big_sub (by assumption) (by assumption) (by assumption) (by assumption) (by assumption)))
    | (exact Or.inl ⟨rfl, by assumption⟩)
    | (exact Or.inr ⟨rfl, by assumption⟩)
theorem neg1 (hp : Prm P) (bx0 : 0 ≤ x) (bx1 : x < P) : ACon prog w 12 200 210 (a1 (.fq true P x)) (FQp true P (fun n => n = (-x) % P)) := by
  have hP := hp.pos
  have hP2 := hp.2.1
  refine fn_ok (D := 11) (U := 197) (f210 w) (by rfl) (b210 w) ?_
  repeat' (first | (exact (made1 hp).use (by decide) (by decide) fun _ h => h.imp fun n e => (by subst_vars; first | rfl | (simp only [Int.emod_emod]; done))) | intro _ | apply And.intro)
  all_goals first
    | (assumption)
    | (decide)
    | (rfl)
    | (exact big_lit (by decide) (by decide))
    | (exact big_of (by assumption) (by assumption) (by assumption))
    | (exact big_sub (by assumption) (by assumption) (by assumption) (by assumption) (by assumption))
    | (exact Or.inl (big_lit (by decide) (by decide)))
    | (exact Or.inl (big_of (by assumption) (by assumption) (by assumption)))
    | (exact Or.inl (big_sub (by assumption) (by assumption) (by assumption) (by assumption) (by assumption)))
    | (exact Or.inr (big_lit (by decide) (by decide)))
    | (exact Or.inr (big_of (by assumption) (by assumption) (by assumption)))
    | (exact Or.inr (big_sub (by assumption) (by assumption) (by assumption) (by assumption) (by assumption)))
    | (exfalso; omega)
theorem pow11 (hp : Prm P) (bx0 : 0 ≤ x) (bx1 : x < P) {k : Int} (hk : k = 1) : ACon prog w 12 200 189 (a2 (.fq true P x) (.int k)) (FQp true P (fun n => n = x % P)) := by
  have hP := hp.pos
  have hP2 := hp.2.1
  refine fn_ok (D := 11) (U := 197) (f189 w) (by rfl) (b189 w) ?_
  repeat' (first | (exact (made1 hp).use (by decide) (by decide) fun _ h => h.imp fun n e => (by subst_vars; first | rfl | (simp only [Int.emod_emod]; done))) | intro _ | apply And.intro)
  all_goals first
    | (assumption)
    | (decide)
    | (rfl)
    | (exact big_lit (by decide) (by decide))
    | (exact big_of (by assumption) (by assumption) (by assumption))
    | (exact big_sub (by assumption) (by assumption) (by assumption) (by assumption) (by assumption))
    | (exact Or.inl (big_lit (by decide) (by decide)))
    | (exact Or.inl (big_of (by assumption) (by assumption) (by assumption)))
    | (exact Or.inl (big_sub (by assumption) (by assumption) (by assumption) (by assumption) (by assumption)))
    | (exact Or.inr (big_lit (by decide) (by decide)))
    | (exact Or.inr (big_of (by assumption) (by assumption) (by assumption)))
    | (exact Or.inr (big_sub (by assumption) (by assumption) (by assumption) (by assumption) (by assumption)))
    | (exfalso; omega)
theorem pow21 (hp : Prm P) (bx0 : 0 ≤ x) (bx1 : x < P) : ACon prog w 30 500 189 (a2 (.fq true P x) (.int 2)) (FQp true P (fun n => n = (x * x) % P)) := by
  have hP := hp.pos
  have hP2 := hp.2.1
  refine fn_ok (D := 29) (U := 497) (f189 w) (by rfl) (b189 w) ?_
  repeat' (first | (refine (mul1 hp bx0 bx1 bx0 bx1).use (by decide) (by decide) ?_; rintro _ ⟨q, rfl, hq, hq0, hq1⟩) | (exact (pow11 hp (by assumption) (by assumption) (by omega)).use (by decide) (by decide) fun _ h => h.imp fun n e => (by subst_vars; first | rfl | (simp only [Int.emod_emod]; done))) | intro _ | apply And.intro)
  all_goals first
    | (assumption)
    | (decide)
    | (rfl)
    | (exact big_lit (by decide) (by decide))
    | (exact big_of (by assumption) (by assumption) (by assumption))
    | (exact big_sub (by assumption) (by assumption) (by assumption) (by assumption) (by assumption))
    | (exact Or.inl (big_lit (by decide) (by decide)))
    | (exact Or.inl (big_of (by assumption) (by assumption) (by assumption)))
    | (exact Or.inl (big_sub (by assumption) (by assumption) (by assumption) (by assumption) (by assumption)))
    | (exact Or.inr (big_lit (by decide) (by decide)))
    | (exact Or.inr (big_of (by assumption) (by assumption) (by assumption)))
    | (exact Or.inr (big_sub (by assumption) (by assumption) (by assumption) (by assumption) (by assumption)))
    | (exfalso; omega)
noncomputable def M400 : MS := (.ret (.call 417 (.lcons (.v 1) (.lcons (.attr (.v 0) 1) .lnil))))
theorem f400 (w : World) : fetch (hd.heap_1 w.params) 400 = some (2, M400) := by kernel_rfl
theorem b400 (w : World) : ∀ vs : List Value, vs.length = 2 → bindArgs (fdOf (hd.heap_1 w.params) 400) ⟨vs, []⟩ = pure ((psOf (hd.heap_1 w.params) 400).zip vs) := bind2 fun _ _ => by kernel_rfl
noncomputable def M287 : MS := (.iff (.iscls (.v 1) 417) (.asg 4 (.attr (.v 1) 0) .nil) (.iff (.isint (.v 1)) (.asg 4 (.v 1) .nil) .fail .nil) (.ret (.meth (.v 0) 0 (.lcons (.bin .Mod (.bin .Mult (.attr (.v 0) 0) (.v 4)) (.attr (.v 0) 1)) .lnil))))
theorem f287 (w : World) : fetch (hd.heap_1 w.params) 287 = some (2, M287) := by kernel_rfl
theorem b287 (w : World) : ∀ vs : List Value, vs.length = 2 → bindArgs (fdOf (hd.heap_1 w.params) 287) ⟨vs, []⟩ = pure ((psOf (hd.heap_1 w.params) 287).zip vs) := bind2 fun _ _ => by kernel_rfl
noncomputable def M294 : MS := (.ret (.bin .Mult (.v 0) (.v 1)))
theorem f294 (w : World) : fetch (hd.heap_1 w.params) 294 = some (2, M294) := by kernel_rfl
theorem b294 (w : World) : ∀ vs : List Value, vs.length = 2 → bindArgs (fdOf (hd.heap_1 w.params) 294) ⟨vs, []⟩ = pure ((psOf (hd.heap_1 w.params) 294).zip vs) := bind2 fun _ _ => by kernel_rfl
noncomputable def M315 : MS := (.iff (.iscls (.v 1) 417) (.asg 4 (.attr (.v 1) 0) .nil) (.iff (.isint (.v 1)) (.asg 4 (.v 1) .nil) .fail .nil) (.ret (.meth (.v 0) 0 (.lcons (.bin .Mod (.bin .Sub (.attr (.v 0) 0) (.v 4)) (.attr (.v 0) 1)) .lnil))))
theorem f315 (w : World) : fetch (hd.heap_1 w.params) 315 = some (2, M315) := by kernel_rfl
theorem b315 (w : World) : ∀ vs : List Value, vs.length = 2 → bindArgs (fdOf (hd.heap_1 w.params) 315) ⟨vs, []⟩ = pure ((psOf (hd.heap_1 w.params) 315).zip vs) := bind2 fun _ _ => by kernel_rfl
noncomputable def M329 : MS := (.iff (.iscls (.v 1) 417) (.asg 4 (.attr (.v 1) 0) .nil) (.iff (.isint (.v 1)) (.asg 4 (.v 1) .nil) .fail .nil) (.ret (.meth (.v 0) 0 (.lcons (.bin .Mod (.bin .Mult (.attr (.v 0) 0) (.call 112 (.lcons (.v 4) (.lcons (.attr (.v 0) 1) .lnil)))) (.attr (.v 0) 1)) .lnil))))
theorem f329 (w : World) : fetch (hd.heap_1 w.params) 329 = some (2, M329) := by kernel_rfl
theorem b329 (w : World) : ∀ vs : List Value, vs.length = 2 → bindArgs (fdOf (hd.heap_1 w.params) 329) ⟨vs, []⟩ = pure ((psOf (hd.heap_1 w.params) 329).zip vs) := bind2 fun _ _ => by kernel_rfl
noncomputable def M350 : MS := (.iff (.iscls (.v 1) 417) (.ret (.cmp .Eq (.attr (.v 0) 0) (.attr (.v 1) 0))) (.iff (.isint (.v 1)) (.ret (.cmp .Eq (.attr (.v 0) 0) (.v 1))) .fail .nil) .nil)
theorem f350 (w : World) : fetch (hd.heap_1 w.params) 350 = some (2, M350) := by kernel_rfl
theorem b350 (w : World) : ∀ vs : List Value, vs.length = 2 → bindArgs (fdOf (hd.heap_1 w.params) 350) ⟨vs, []⟩ = pure ((psOf (hd.heap_1 w.params) 350).zip vs) := bind2 fun _ _ => by kernel_rfl
noncomputable def M407 : MS := (.ret (.meth (.v 0) 0 (.lcons (.lit 1) .lnil)))
theorem f407 (w : World) : fetch (hd.heap_1 w.params) 407 = some (1, M407) := by kernel_rfl
theorem b407 (w : World) : ∀ vs : List Value, vs.length = 1 → bindArgs (fdOf (hd.heap_1 w.params) 407) ⟨vs, []⟩ = pure ((psOf (hd.heap_1 w.params) 407).zip vs) := bind1 fun _ => by kernel_rfl
noncomputable def M414 : MS := (.ret (.meth (.v 0) 0 (.lcons (.lit 0) .lnil)))
theorem f414 (w : World) : fetch (hd.heap_1 w.params) 414 = some (1, M414) := by kernel_rfl
theorem b414 (w : World) : ∀ vs : List Value, vs.length = 1 → bindArgs (fdOf (hd.heap_1 w.params) 414) ⟨vs, []⟩ = pure ((psOf (hd.heap_1 w.params) 414).zip vs) := bind1 fun _ => by kernel_rfl
theorem new2 (hp : Prm P) {v : Int} : ACon prog w 4 60 417 (a2 (.int v) (.int P)) (FQp false P (fun n => n = v % P)) := by
  refine ⟨fun vs led hr => ?_⟩
  cases hr with
  | cons x y => cases x; cases y with
    | cons x y => cases x; cases y; exact (fq_new2 hp).post fun tl r ⟨x, d, k1, k2, t1, t2, n, e, et, h, h0, h1⟩ => ⟨.fq false P n, by subst e et; exact .fq (c := false) (.head _) (.tail _ (.head _)) hp h0 h1, n, rfl, h, h0, h1⟩
theorem made2 (hp : Prm P) {v : Int} : ACon prog w 8 100 400 (a2 (.fq false P x) (.int v)) (FQp false P (fun n => n = v % P)) := by
  have hP := hp.pos
  refine fn_ok (D := 7) (U := 97) (f400 w) (by rfl) (b400 w) ?_
  repeat' (first | (exact (new2 hp).use (by decide) (by decide) fun _ h => h) | intro _ | apply And.intro)
  all_goals first
    | (assumption)
    | (decide)
    | (rfl)
    | (exact big_lit (by decide) (by decide))
    | (exact big_of (by assumption) (by assumption) (by assumption))
    | (exact big_sub (by assumption) (by assumption) (by assumption) (by assumption) (by assumption))
    | (exact Or.inl (big_lit (by decide) (by decide)))
    | (exact Or.inl (big_of (by assumption) (by assumption) (by assumption)))
    | (exact Or.inl (big_sub (by assumption) (by assumption) (by assumption) (by assumption) (by assumption)))
    | (exact Or.inr (big_lit (by decide) (by decide)))
    | (exact Or.inr (big_of (by assumption) (by assumption) (by assumption)))
    | (exact Or.inr (big_sub (by assumption) (by assumption) (by assumption) (by assumption) (by assumption)))
    | (fail)
theorem mul2 (hp : Prm P) (bx0 : 0 ≤ x) (bx1 : x < P) (by0 : 0 ≤ y) (by1 : y < P) : ACon prog w 12 200 287 (a2 (.fq false P x) (.fq false P y)) (FQp false P (fun n => n = (x * y) % P)) := by
  have hP := hp.pos
  have hP2 := hp.2.1
  refine fn_ok (D := 11) (U := 197) (f287 w) (by rfl) (b287 w) ?_
  repeat' (first | (exact (made2 hp).use (by decide) (by decide) fun _ h => h.imp fun n e => (by subst_vars; first | rfl | (simp only [Int.emod_emod]; done))) | intro _ | apply And.intro)
  all_goals first
    | (assumption)
    | (decide)
    | (rfl)
    | (exact big_lit (by decide) (by decide))
    | (exact big_of (by assumption) (by assumption) (by assumption))
    | (exact big_sub (by assumption) (by assumption) (by assumption) (by assumption) (by assumption))
    | (exact Or.inl (big_lit (by decide) (by decide)))
    | (exact Or.inl (big_of (by assumption) (by assumption) (by assumption)))
    | (exact Or.inl (big_sub (by assumption) (by assumption) (by assumption) (by assumption) (by assumption)))
    | (exact Or.inr (big_lit (by decide) (by decide)))
    | (exact Or.inr (big_of (by assumption) (by assumption) (by assumption)))
    | (exact Or.inr (big_sub (by assumption) (by assumption) (by assumption) (by assumption) (by assumption)))
    | (exfalso; omega)
theorem muli2 (hp : Prm P) (bx0 : 0 ≤ x) (bx1 : x < P) {k : Int} (bk0 : 0 ≤ k) (bk1 : k < 100) : ACon prog w 12 200 287 (a2 (.fq false P x) (.int k)) (FQp false P (fun n => n = (x * k) % P)) := by
  have hP := hp.pos
  have hP2 := hp.2.1
  refine fn_ok (D := 11) (U := 197) (f287 w) (by rfl) (b287 w) ?_
  repeat' (first | (exact (made2 hp).use (by decide) (by decide) fun _ h => h.imp fun n e => (by subst_vars; first | rfl | (simp only [Int.emod_emod]; done))) | intro _ | apply And.intro)
  all_goals first
    | (assumption)
    | (decide)
    | (rfl)
    | (exact big_lit (by decide) (by decide))
    | (exact big_of (by assumption) (by assumption) (by assumption))
    | (exact big_sub (by assumption) (by assumption) (by assumption) (by assumption) (by assumption))
    | (exact Or.inl (big_lit (by decide) (by decide)))
    | (exact Or.inl (big_of (by assumption) (by assumption) (by assumption)))
    | (exact Or.inl (big_sub (by assumption) (by assumption) (by assumption) (by assumption) (by assumption)))
    | (exact Or.inr (big_lit (by decide) (by decide)))
    | (exact Or.inr (big_of (by assumption) (by assumption) (by assumption)))
    | (exact Or.inr (big_sub (by assumption) (by assumption) (by assumption) (by assumption) (by assumption)))
    | (exfalso; omega)
theorem rmul2 (hp : Prm P) (bx0 : 0 ≤ x) (bx1 : x < P) {k : Int} (bk0 : 0 ≤ k) (bk1 : k < 100) : ACon prog w 16 300 294 (a2 (.fq false P x) (.int k)) (FQp false P (fun n => n = (x * k) % P)) := by
  have hP := hp.pos
  have hP2 := hp.2.1
  refine fn_ok (D := 15) (U := 297) (f294 w) (by rfl) (b294 w) ?_
  repeat' (first | (exact (muli2 hp bx0 bx1 bk0 bk1).use (by decide) (by decide) fun _ h => h) | intro _ | apply And.intro)
  all_goals first
    | (assumption)
    | (decide)
    | (rfl)
    | (exact big_lit (by decide) (by decide))
    | (exact big_of (by assumption) (by assumption) (by assumption))
    | (exact big_sub (by assumption) (by assumption) (by assumption) (by assumption) (by assumption))
    | (exact Or.inl (big_lit (by decide) (by decide)))
    | (exact Or.inl (big_of (by assumption) (by assumption) (by assumption)))
    | (exact Or.inl (big_sub (by assumption) (by assumption) (by assumption) (by assumption) (by assumption)))
    | (exact Or.inr (big_lit (by decide) (by decide)))
    | (exact Or.inr (big_of (by assumption) (by assumption) (by assumption)))
    | (exact Or.inr (big_sub (by assumption) (by assumption) (by assumption) (by assumption) (by assumption)))
    | (exfalso; omega)
theorem sub2 (hp : Prm P) (bx0 : 0 ≤ x) (bx1 : x < P) (by0 : 0 ≤ y) (by1 : y < P) : ACon prog w 12 200 315 (a2 (.fq false P x) (.fq false P y)) (FQp false P (fun n => n = (x - y) % P)) := by
  have hP := hp.pos
  have hP2 := hp.2.1
  refine fn_ok (D := 11) (U := 197) (f315 w) (by rfl) (b315 w) ?_
  repeat' (first | (exact (made2 hp).use (by decide) (by decide) fun _ h => h.imp fun n e => (by subst_vars; first | rfl | (simp only [Int.emod_emod]; done))) | intro _ | apply And.intro)
  all_goals first
    | (assumption)
    | (decide)
    | (rfl)
    | (exact big_lit (by decide) (by decide))
    | (exact big_of (by assumption) (by assumption) (by assumption))
    | (exact big_sub (by assumption) (by assumption) (by assumption) (by assumption) (by assumption))
    | (exact Or.inl (big_lit (by decide) (by decide)))
    | (exact Or.inl (big_of (by assumption) (by assumption) (by assumption)))
    | (exact Or.inl (big_sub (by assumption) (by assumption) (by assumption) (by assumption) (by assumption)))
    | (exact Or.inr (big_lit (by decide) (by decide)))
    | (exact Or.inr (big_of (by assumption) (by assumption) (by assumption)))
    | (exact Or.inr (big_sub (by assumption) (by assumption) (by assumption) (by assumption) (by assumption)))
    | (exfalso; omega)
theorem div2 (hp : Prm P) (bx0 : 0 ≤ x) (bx1 : x < P) (by0 : 0 ≤ y) (by1 : y < P) : ACon prog w 12 200 329 (a2 (.fq false P x) (.fq false P y)) (FQp false P (fun n => ∃ i, IsInv P y i ∧ n = (x * i) % P)) := by
  have hP := hp.pos
  have hP2 := hp.2.1
  refine fn_ok (D := 11) (U := 197) (f329 w) (by rfl) (b329 w) ?_
  repeat' (first | (refine (pinvA hp (by assumption) (by assumption)).use (by decide) (by decide) ?_; rintro _ ⟨i, rfl, hi, hi0, hi1⟩) | (exact (made2 hp).use (by decide) (by decide) fun _ h => h.imp fun n e => ⟨_, hi, (by subst_vars; first | rfl | (simp only [Int.emod_emod]; done))⟩) | intro _ | apply And.intro)
  all_goals first
    | (assumption)
    | (decide)
    | (rfl)
    | (exact big_lit (by decide) (by decide))
    | (exact big_of (by assumption) (by assumption) (by assumption))
    | (exact big_sub (by assumption) (by assumption) (by assumption) (by assumption) (by assumption))
    | (exact Or.inl (big_lit (by decide) (by decide)))
    | (exact Or.inl (big_of (by assumption) (by assumption) (by assumption)))
    | (exact Or.inl (big_sub (by assumption) (by assumption) (by assumption) (by assumption) (by assumption)))
    | (exact Or.inr (big_lit (by decide) (by decide)))
    | (exact Or.inr (big_of (by assumption) (by assumption) (by assumption)))
    | (exact Or.inr (big_sub (by assumption) (by assumption) (by assumption) (by assumption) (by assumption)))
    | (exfalso; omega)
theorem eq2 (hp : Prm P)  : ACon prog w 4 60 350 (a2 (.fq false P x) (.fq false P y)) (EqP x y) := by
  have hP := hp.pos
  have hP2 := hp.2.1
  refine fn_ok (D := 3) (U := 57) (f350 w) (by rfl) (b350 w) ?_
  repeat' (first | intro _ | apply And.intro)
  all_goals first
    | (assumption)
    | (decide)
    | (rfl)
    | (exact big_lit (by decide) (by decide))
    | (exact big_of (by assumption) (by assumption) (by assumption))
    | (exact big_sub (by assumption) (by assumption) (by assumption) (by assumption) (by assumption))
    | (exact Or.inl (big_lit (by decide) (by decide)))
    | (exact Or.inl (big_of (by assumption) (by assumption) (by assumption)))
    | (exact Or.inl (big_sub (by assumption) (by assumption) (by assumption) (by assumption) (by assumption)))
    | (exact Or.inr (big_lit (by decide) (by decide)))
    | (exact Or.inr (big_of (by assumption) (by assumption) (by assumption)))
    | (exact Or.inr (big_sub (by assumption) (by assumption) (by assumption) (by assumption) (by assumption)))
    | (exact Or.inl ⟨rfl, by assumption⟩)
    | (exact Or.inr ⟨rfl, by assumption⟩)
theorem one2 (hp : Prm P)  : ACon prog w 12 200 407 (a1 (.fq false P x)) (FQp false P (fun n => n = 1)) := by
  have hP := hp.pos
  have hP2 := hp.2.1
  refine fn_ok (D := 11) (U := 197) (f407 w) (by rfl) (b407 w) ?_
  repeat' (first | (exact (made2 hp).use (by decide) (by decide) fun _ h => h.imp fun n e => (by have h9 := hp.1; subst_vars; exact Int.emod_eq_of_lt (by omega) h9)) | intro _ | apply And.intro)
  all_goals first
    | (assumption)
    | (decide)
    | (rfl)
    | (exact big_lit (by decide) (by decide))
    | (exact big_of (by assumption) (by assumption) (by assumption))
    | (exact big_sub (by assumption) (by assumption) (by assumption) (by assumption) (by assumption))
    | (exact Or.inl (big_lit (by decide) (by decide)))
    | (exact Or.inl (big_of (by assumption) (by assumption) (by assumption)))
    | (exact Or.inl (big_sub (by assumption) (by assumption) (by assumption) (by assumption) (by assumption)))
    | (exact Or.inr (big_lit (by decide) (by decide)))
    | (exact Or.inr (big_of (by assumption) (by assumption) (by assumption)))
    | (exact Or.inr (big_sub (by assumption) (by assumption) (by assumption) (by assumption) (by assumption)))
    | (exfalso; omega)
theorem zero2 (hp : Prm P)  : ACon prog w 12 200 414 (a1 (.fq false P x)) (FQp false P (fun n => n = 0)) := by
  have hP := hp.pos
  have hP2 := hp.2.1
  refine fn_ok (D := 11) (U := 197) (f414 w) (by rfl) (b414 w) ?_
  repeat' (first | (exact (made2 hp).use (by decide) (by decide) fun _ h => h.imp fun n e => (by subst_vars; exact Int.zero_emod _)) | intro _ | apply And.intro)
  all_goals first
    | (assumption)
    | (decide)
    | (rfl)
    | (exact big_lit (by decide) (by decide))
    | (exact big_of (by assumption) (by assumption) (by assumption))
    | (exact big_sub (by assumption) (by assumption) (by assumption) (by assumption) (by assumption))
    | (exact Or.inl (big_lit (by decide) (by decide)))
    | (exact Or.inl (big_of (by assumption) (by assumption) (by assumption)))
    | (exact Or.inl (big_sub (by assumption) (by assumption) (by assumption) (by assumption) (by assumption)))
    | (exact Or.inr (big_lit (by decide) (by decide)))
    | (exact Or.inr (big_of (by assumption) (by assumption) (by assumption)))
    | (exact Or.inr (big_sub (by assumption) (by assumption) (by assumption) (by assumption) (by assumption)))
    | (exfalso; omega)
end
end
section
noncomputable abbrev bp (P : Int) (px py : Int → Int) (k : Int) : AV := t2 (.fq true P (px k)) (.fq true P (py k))
noncomputable def AP (P N : Int) (px py : Int → Int) (k : Int) (av : AV) : Prop := (k % N = 0 ∧ av = .none) ∨ (k % N ≠ 0 ∧ av = bp P px py k)
theorem bpEq {P X Y : Int} {px py : Int → Int} {k : Int} (h : X = px k ∧ Y = py k) : t2 (.fq true P X) (.fq true P Y) = bp P px py k := by obtain ⟨rfl, rfl⟩ := h; rfl
theorem AP.idx {P N : Int} {px py : Int → Int} (C : Crv P N px py) {j k : Int} {v : AV} (h : AP P N px py j v) (e : j % N = k % N) : AP P N px py k v := by
  obtain ⟨a, b⟩ := C.per _ _ e
  unfold AP bp at h ⊢
  rw [a, b, e] at h
  exact h
theorem AP.idxE {P N : Int} {px py : Int → Int} {j k : Int} {v : AV} (h : AP P N px py j v) (e : j = k) : AP P N px py k v := e ▸ h
noncomputable def M84 : MS := (.ret (.isnone (.v 0)))
theorem f84 (w : World) : fetch (hd.heap_1 w.params) 84 = some (1, M84) := by kernel_rfl
theorem b84 (w : World) : ∀ vs : List Value, vs.length = 1 → bindArgs (fdOf (hd.heap_1 w.params) 84) ⟨vs, []⟩ = pure ((psOf (hd.heap_1 w.params) 84).zip vs) := bind1 fun _ => by kernel_rfl
noncomputable def M91 : MS := (.iff (.or (.call 84 (.lcons (.v 0) .lnil)) (.isnone (.v 0))) (.ret (.v 0)) .nil (.unp (2 :: (3 :: [])) (.v 0) (.asg 4 (.bin .Div (.bin .Mult (.lit 3) (.pow (.v 2) 2)) (.bin .Mult (.lit 2) (.v 3))) (.asg 5 (.bin .Sub (.pow (.v 4) 2) (.bin .Mult (.lit 2) (.v 2))) (.asg 6 (.bin .Sub (.bin .Add (.bin .Mult (.neg (.v 4)) (.v 5)) (.bin .Mult (.v 4) (.v 2))) (.v 3)) (.ret (.tup (.lcons (.v 5) (.lcons (.v 6) .lnil)))))))))
theorem f91 (w : World) : fetch (hd.heap_1 w.params) 91 = some (1, M91) := by kernel_rfl
theorem b91 (w : World) : ∀ vs : List Value, vs.length = 1 → bindArgs (fdOf (hd.heap_1 w.params) 91) ⟨vs, []⟩ = pure ((psOf (hd.heap_1 w.params) 91).zip vs) := bind1 fun _ => by kernel_rfl
noncomputable def M98 : MS := (.iff (.or (.isnone (.v 0)) (.isnone (.v 1))) (.ret (.ite (.isnone (.v 1)) (.v 0) (.v 1))) .nil (.unp (4 :: (5 :: [])) (.v 0) (.unp (6 :: (7 :: [])) (.v 1) (.iff (.and (.cmp .Eq (.v 6) (.v 4)) (.cmp .Eq (.v 7) (.v 5))) (.ret (.call 91 (.lcons (.v 0) .lnil))) (.iff (.cmp .Eq (.v 6) (.v 4)) (.ret .none) (.asg 8 (.bin .Div (.bin .Sub (.v 7) (.v 5)) (.bin .Sub (.v 6) (.v 4))) .nil) .nil) (.asg 9 (.bin .Sub (.bin .Sub (.pow (.v 8) 2) (.v 4)) (.v 6)) (.asg 10 (.bin .Sub (.bin .Add (.bin .Mult (.neg (.v 8)) (.v 9)) (.bin .Mult (.v 8) (.v 4))) (.v 5)) (.iff (.not (.cmp .Eq (.v 10) (.bin .Sub (.bin .Add (.bin .Mult (.neg (.v 8)) (.v 9)) (.bin .Mult (.v 8) (.v 6))) (.v 7)))) .fail .nil (.ret (.tup (.lcons (.v 9) (.lcons (.v 10) .lnil)))))))))))
theorem f98 (w : World) : fetch (hd.heap_1 w.params) 98 = some (2, M98) := by kernel_rfl
theorem b98 (w : World) : ∀ vs : List Value, vs.length = 2 → bindArgs (fdOf (hd.heap_1 w.params) 98) ⟨vs, []⟩ = pure ((psOf (hd.heap_1 w.params) 98).zip vs) := bind2 fun _ _ => by kernel_rfl
noncomputable def M105 : MS := (.iff (.cmp .Eq (.v 1) (.lit 0)) (.ret .none) (.iff (.cmp .Eq (.v 1) (.lit 1)) (.ret (.v 0)) (.iff (.not (.bin .Mod (.v 1) (.lit 2))) (.ret (.call 105 (.lcons (.call 91 (.lcons (.v 0) .lnil)) (.lcons (.bin .FloorDiv (.v 1) (.lit 2)) .lnil)))) (.ret (.call 98 (.lcons (.call 105 (.lcons (.call 91 (.lcons (.v 0) .lnil)) (.lcons (.toint (.bin .FloorDiv (.v 1) (.lit 2))) .lnil))) (.lcons (.v 0) .lnil)))) .nil) .nil) .nil)
theorem f105 (w : World) : fetch (hd.heap_1 w.params) 105 = some (2, M105) := by kernel_rfl
theorem b105 (w : World) : ∀ vs : List Value, vs.length = 2 → bindArgs (fdOf (hd.heap_1 w.params) 105) ⟨vs, []⟩ = pure ((psOf (hd.heap_1 w.params) 105).zip vs) := bind2 fun _ _ => by kernel_rfl
section
variable {prog : Program} {w : World} {P N b gx gy : Int} {px py : Int → Int}
theorem infN : ACon prog w 4 60 84 (a1 .none) (fun av => av = .bool true) := by
  refine fn_ok (D := 3) (U := 57) (f84 w) (by rfl) (b84 w) ?_
  repeat' (first | intro _ | apply And.intro)
  all_goals first
    | (assumption)
    | (decide)
    | (rfl)
    | (exact big_lit (by decide) (by decide))
    | (exact big_of (by assumption) (by assumption) (by assumption))
    | (exact big_sub (by assumption) (by assumption) (by assumption) (by assumption) (by assumption))
    | (exact Or.inl (big_lit (by decide) (by decide)))
    | (exact Or.inl (big_of (by assumption) (by assumption) (by assumption)))
    | (exact Or.inl (big_sub (by assumption) (by assumption) (by assumption) (by assumption) (by assumption)))
    | (exact Or.inr (big_lit (by decide) (by decide)))
    | (exact Or.inr (big_of (by assumption) (by assumption) (by assumption)))
    | (exact Or.inr (big_sub (by assumption) (by assumption) (by assumption) (by assumption) (by assumption)))
    | (rfl)
theorem infT {l : AV} : ACon prog w 4 60 84 (a1 (.tup l)) (fun av => av = .bool false) := by
  refine fn_ok (D := 3) (U := 57) (f84 w) (by rfl) (b84 w) ?_
  repeat' (first | intro _ | apply And.intro)
  all_goals first
    | (assumption)
    | (decide)
    | (rfl)
    | (exact big_lit (by decide) (by decide))
    | (exact big_of (by assumption) (by assumption) (by assumption))
    | (exact big_sub (by assumption) (by assumption) (by assumption) (by assumption) (by assumption))
    | (exact Or.inl (big_lit (by decide) (by decide)))
    | (exact Or.inl (big_of (by assumption) (by assumption) (by assumption)))
    | (exact Or.inl (big_sub (by assumption) (by assumption) (by assumption) (by assumption) (by assumption)))
    | (exact Or.inr (big_lit (by decide) (by decide)))
    | (exact Or.inr (big_of (by assumption) (by assumption) (by assumption)))
    | (exact Or.inr (big_sub (by assumption) (by assumption) (by assumption) (by assumption) (by assumption)))
    | (rfl)
theorem bdblA (C : Crv P N px py) {k : Int} {v : AV} (h : AP P N px py k v) : ACon prog w 40 700 91 (a1 v) (AP P N px py (2 * k)) := by
  have hP := C.prm.pos
  have hP2 := C.prm.2.1
  have hprm := C.prm
  obtain ⟨bx0k, bx1k, by0k, by1k⟩ := C.bnd k
  rcases h with ⟨k0, rfl⟩ | ⟨kn, rfl⟩
  · refine fn_ok (D := 39) (U := 697) (f91 w) (by rfl) (b91 w) ?_
    repeat' (first | (refine infN.use (by decide) (by decide) ?_; rintro _ rfl) | (refine infT.use (by decide) (by decide) ?_; rintro _ rfl) | intro _ | apply And.intro)
    all_goals first
      | (assumption)
      | (decide)
      | (rfl)
      | (exact big_lit (by decide) (by decide))
      | (exact big_of (by assumption) (by assumption) (by assumption))
      | (exact big_sub (by assumption) (by assumption) (by assumption) (by assumption) (by assumption))
      | (exact Or.inl (big_lit (by decide) (by decide)))
      | (exact Or.inl (big_of (by assumption) (by assumption) (by assumption)))
      | (exact Or.inl (big_sub (by assumption) (by assumption) (by assumption) (by assumption) (by assumption)))
      | (exact Or.inr (big_lit (by decide) (by decide)))
      | (exact Or.inr (big_of (by assumption) (by assumption) (by assumption)))
      | (exact Or.inr (big_sub (by assumption) (by assumption) (by assumption) (by assumption) (by assumption)))
      | (exact .inl ⟨C.dbl0 (by assumption), rfl⟩)
  · refine fn_ok (D := 39) (U := 697) (f91 w) (by rfl) (b91 w) ?_
    repeat' (first | (refine infN.use (by decide) (by decide) ?_; rintro _ rfl) | (refine infT.use (by decide) (by decide) ?_; rintro _ rfl) | (refine (mul1 hprm (by first | assumption | decide | omega) (by first | assumption | decide | omega) (by first | assumption | decide | omega) (by first | assumption | decide | omega)).use (by decide) (by decide) ?_; rintro _ ⟨nn, rfl, hnn, hn0, hn1⟩) | (refine (rmul1 hprm (by first | assumption | decide | omega) (by first | assumption | decide | omega) (by first | assumption | decide | omega) (by first | assumption | decide | omega)).use (by decide) (by decide) ?_; rintro _ ⟨nn, rfl, hnn, hn0, hn1⟩) | (refine (sub1 hprm (by first | assumption | decide | omega) (by first | assumption | decide | omega) (by first | assumption | decide | omega) (by first | assumption | decide | omega)).use (by decide) (by decide) ?_; rintro _ ⟨nn, rfl, hnn, hn0, hn1⟩) | (refine (div1 hprm (by first | assumption | decide | omega) (by first | assumption | decide | omega) (by first | assumption | decide | omega) (by first | assumption | decide | omega)).use (by decide) (by decide) ?_; rintro _ ⟨nn, rfl, hnn, hn0, hn1⟩) | (refine (eq1 hprm).use (by decide) (by decide) ?_; rintro _ (⟨rfl, heq⟩ | ⟨rfl, heq⟩)) | (refine (add1 hprm (by first | assumption | decide | omega) (by first | assumption | decide | omega) (by first | assumption | decide | omega) (by first | assumption | decide | omega)).use (by decide) (by decide) ?_; rintro _ ⟨nn, rfl, hnn, hn0, hn1⟩) | (refine (neg1 hprm (by first | assumption | decide | omega) (by first | assumption | decide | omega)).use (by decide) (by decide) ?_; rintro _ ⟨nn, rfl, hnn, hn0, hn1⟩) | (refine (pow21 hprm (by first | assumption | decide | omega) (by first | assumption | decide | omega)).use (by decide) (by decide) ?_; rintro _ ⟨nn, rfl, hnn, hn0, hn1⟩) | intro _ | apply And.intro)
    all_goals first
      | (assumption)
      | (decide)
      | (rfl)
      | (exact big_lit (by decide) (by decide))
      | (exact big_of (by assumption) (by assumption) (by assumption))
      | (exact big_sub (by assumption) (by assumption) (by assumption) (by assumption) (by assumption))
      | (exact Or.inl (big_lit (by decide) (by decide)))
      | (exact Or.inl (big_of (by assumption) (by assumption) (by assumption)))
      | (exact Or.inl (big_sub (by assumption) (by assumption) (by assumption) (by assumption) (by assumption)))
      | (exact Or.inr (big_lit (by decide) (by decide)))
      | (exact Or.inr (big_of (by assumption) (by assumption) (by assumption)))
      | (exact Or.inr (big_sub (by assumption) (by assumption) (by assumption) (by assumption) (by assumption)))
      | (exact .inr ⟨C.dnz (by assumption), bpEq (adbl C (by assumption) (by assumption) (by assumption) (by assumption) (by assumption) (by assumption) (by assumption) (by assumption) (by assumption) (by assumption) (by assumption) (by assumption) (by assumption))⟩)
theorem baddA (C : Crv P N px py) {j k : Int} {v u : AV} (h : AP P N px py j v) (h' : AP P N px py k u) : ACon prog w 50 800 98 (a2 v u) (AP P N px py (j + k)) := by
  have hP := C.prm.pos
  have hP2 := C.prm.2.1
  have hprm := C.prm
  obtain ⟨bx0j, bx1j, by0j, by1j⟩ := C.bnd j
  obtain ⟨bx0k, bx1k, by0k, by1k⟩ := C.bnd k
  rcases h with ⟨k01, rfl⟩ | ⟨kn1, rfl⟩ <;> rcases h' with ⟨k02, rfl⟩ | ⟨kn2, rfl⟩
  · refine fn_ok (D := 49) (U := 797) (f98 w) (by rfl) (b98 w) ?_
    repeat' (first | (refine (mul1 hprm (by first | assumption | decide | omega) (by first | assumption | decide | omega) (by first | assumption | decide | omega) (by first | assumption | decide | omega)).use (by decide) (by decide) ?_; rintro _ ⟨nn, rfl, hnn, hn0, hn1⟩) | (refine (rmul1 hprm (by first | assumption | decide | omega) (by first | assumption | decide | omega) (by first | assumption | decide | omega) (by first | assumption | decide | omega)).use (by decide) (by decide) ?_; rintro _ ⟨nn, rfl, hnn, hn0, hn1⟩) | (refine (sub1 hprm (by first | assumption | decide | omega) (by first | assumption | decide | omega) (by first | assumption | decide | omega) (by first | assumption | decide | omega)).use (by decide) (by decide) ?_; rintro _ ⟨nn, rfl, hnn, hn0, hn1⟩) | (refine (div1 hprm (by first | assumption | decide | omega) (by first | assumption | decide | omega) (by first | assumption | decide | omega) (by first | assumption | decide | omega)).use (by decide) (by decide) ?_; rintro _ ⟨nn, rfl, hnn, hn0, hn1⟩) | (refine (eq1 hprm).use (by decide) (by decide) ?_; rintro _ (⟨rfl, heq⟩ | ⟨rfl, heq⟩)) | (refine (add1 hprm (by first | assumption | decide | omega) (by first | assumption | decide | omega) (by first | assumption | decide | omega) (by first | assumption | decide | omega)).use (by decide) (by decide) ?_; rintro _ ⟨nn, rfl, hnn, hn0, hn1⟩) | (refine (neg1 hprm (by first | assumption | decide | omega) (by first | assumption | decide | omega)).use (by decide) (by decide) ?_; rintro _ ⟨nn, rfl, hnn, hn0, hn1⟩) | (refine (pow21 hprm (by first | assumption | decide | omega) (by first | assumption | decide | omega)).use (by decide) (by decide) ?_; rintro _ ⟨nn, rfl, hnn, hn0, hn1⟩) | intro _ | apply And.intro)
    all_goals first
      | (assumption)
      | (decide)
      | (rfl)
      | (exact big_lit (by decide) (by decide))
      | (exact big_of (by assumption) (by assumption) (by assumption))
      | (exact big_sub (by assumption) (by assumption) (by assumption) (by assumption) (by assumption))
      | (exact Or.inl (big_lit (by decide) (by decide)))
      | (exact Or.inl (big_of (by assumption) (by assumption) (by assumption)))
      | (exact Or.inl (big_sub (by assumption) (by assumption) (by assumption) (by assumption) (by assumption)))
      | (exact Or.inr (big_lit (by decide) (by decide)))
      | (exact Or.inr (big_of (by assumption) (by assumption) (by assumption)))
      | (exact Or.inr (big_sub (by assumption) (by assumption) (by assumption) (by assumption) (by assumption)))
      | (exact .inl ⟨C.sum00 (by assumption) (by assumption), rfl⟩)
      | (exact .inl ⟨C.sameInf (by assumption) (by assumption) (by assumption) (by assumption), rfl⟩)
      | (exact AP.idx C (.inr ⟨kn2, rfl⟩) (C.sum0 (by assumption)).symm)
      | (exact AP.idx C (.inr ⟨kn1, rfl⟩) (C.sum0' (by assumption)).symm)
      | (exact (bdblA C (.inr ⟨kn1, rfl⟩)).use (by decide) (by decide) fun av h => h.idx C (C.sameDbl (by assumption) (by assumption) (by assumption) (by assumption)))
      | (exact .inr ⟨C.opp _ _ kn1 kn2 (Ne.symm (by assumption)), bpEq (aadd C kn1 kn2 (by assumption) (by assumption) (by assumption) (by assumption) (by assumption) (by assumption) (by assumption) (by assumption) (by assumption) (by assumption) (by assumption) (by assumption))⟩)
      | (exfalso; first | omega | exact aaddchk (j := j) (k := k) C kn1 kn2 (by assumption) (by assumption) (by assumption) (by assumption) (by assumption) (by assumption) (by assumption) (by assumption) (by assumption) (by assumption) (by assumption) (by assumption) (by assumption) (by assumption) (by assumption) (by assumption) (by assumption) (by assumption))
  · refine fn_ok (D := 49) (U := 797) (f98 w) (by rfl) (b98 w) ?_
    repeat' (first | (refine (mul1 hprm (by first | assumption | decide | omega) (by first | assumption | decide | omega) (by first | assumption | decide | omega) (by first | assumption | decide | omega)).use (by decide) (by decide) ?_; rintro _ ⟨nn, rfl, hnn, hn0, hn1⟩) | (refine (rmul1 hprm (by first | assumption | decide | omega) (by first | assumption | decide | omega) (by first | assumption | decide | omega) (by first | assumption | decide | omega)).use (by decide) (by decide) ?_; rintro _ ⟨nn, rfl, hnn, hn0, hn1⟩) | (refine (sub1 hprm (by first | assumption | decide | omega) (by first | assumption | decide | omega) (by first | assumption | decide | omega) (by first | assumption | decide | omega)).use (by decide) (by decide) ?_; rintro _ ⟨nn, rfl, hnn, hn0, hn1⟩) | (refine (div1 hprm (by first | assumption | decide | omega) (by first | assumption | decide | omega) (by first | assumption | decide | omega) (by first | assumption | decide | omega)).use (by decide) (by decide) ?_; rintro _ ⟨nn, rfl, hnn, hn0, hn1⟩) | (refine (eq1 hprm).use (by decide) (by decide) ?_; rintro _ (⟨rfl, heq⟩ | ⟨rfl, heq⟩)) | (refine (add1 hprm (by first | assumption | decide | omega) (by first | assumption | decide | omega) (by first | assumption | decide | omega) (by first | assumption | decide | omega)).use (by decide) (by decide) ?_; rintro _ ⟨nn, rfl, hnn, hn0, hn1⟩) | (refine (neg1 hprm (by first | assumption | decide | omega) (by first | assumption | decide | omega)).use (by decide) (by decide) ?_; rintro _ ⟨nn, rfl, hnn, hn0, hn1⟩) | (refine (pow21 hprm (by first | assumption | decide | omega) (by first | assumption | decide | omega)).use (by decide) (by decide) ?_; rintro _ ⟨nn, rfl, hnn, hn0, hn1⟩) | intro _ | apply And.intro)
    all_goals first
      | (assumption)
      | (decide)
      | (rfl)
      | (exact big_lit (by decide) (by decide))
      | (exact big_of (by assumption) (by assumption) (by assumption))
      | (exact big_sub (by assumption) (by assumption) (by assumption) (by assumption) (by assumption))
      | (exact Or.inl (big_lit (by decide) (by decide)))
      | (exact Or.inl (big_of (by assumption) (by assumption) (by assumption)))
      | (exact Or.inl (big_sub (by assumption) (by assumption) (by assumption) (by assumption) (by assumption)))
      | (exact Or.inr (big_lit (by decide) (by decide)))
      | (exact Or.inr (big_of (by assumption) (by assumption) (by assumption)))
      | (exact Or.inr (big_sub (by assumption) (by assumption) (by assumption) (by assumption) (by assumption)))
      | (exact .inl ⟨C.sum00 (by assumption) (by assumption), rfl⟩)
      | (exact .inl ⟨C.sameInf (by assumption) (by assumption) (by assumption) (by assumption), rfl⟩)
      | (exact AP.idx C (.inr ⟨kn2, rfl⟩) (C.sum0 (by assumption)).symm)
      | (exact AP.idx C (.inr ⟨kn1, rfl⟩) (C.sum0' (by assumption)).symm)
      | (exact (bdblA C (.inr ⟨kn1, rfl⟩)).use (by decide) (by decide) fun av h => h.idx C (C.sameDbl (by assumption) (by assumption) (by assumption) (by assumption)))
      | (exact .inr ⟨C.opp _ _ kn1 kn2 (Ne.symm (by assumption)), bpEq (aadd C kn1 kn2 (by assumption) (by assumption) (by assumption) (by assumption) (by assumption) (by assumption) (by assumption) (by assumption) (by assumption) (by assumption) (by assumption) (by assumption))⟩)
      | (exfalso; first | omega | exact aaddchk (j := j) (k := k) C kn1 kn2 (by assumption) (by assumption) (by assumption) (by assumption) (by assumption) (by assumption) (by assumption) (by assumption) (by assumption) (by assumption) (by assumption) (by assumption) (by assumption) (by assumption) (by assumption) (by assumption) (by assumption) (by assumption))
  · refine fn_ok (D := 49) (U := 797) (f98 w) (by rfl) (b98 w) ?_
    repeat' (first | (refine (mul1 hprm (by first | assumption | decide | omega) (by first | assumption | decide | omega) (by first | assumption | decide | omega) (by first | assumption | decide | omega)).use (by decide) (by decide) ?_; rintro _ ⟨nn, rfl, hnn, hn0, hn1⟩) | (refine (rmul1 hprm (by first | assumption | decide | omega) (by first | assumption | decide | omega) (by first | assumption | decide | omega) (by first | assumption | decide | omega)).use (by decide) (by decide) ?_; rintro _ ⟨nn, rfl, hnn, hn0, hn1⟩) | (refine (sub1 hprm (by first | assumption | decide | omega) (by first | assumption | decide | omega) (by first | assumption | decide | omega) (by first | assumption | decide | omega)).use (by decide) (by decide) ?_; rintro _ ⟨nn, rfl, hnn, hn0, hn1⟩) | (refine (div1 hprm (by first | assumption | decide | omega) (by first | assumption | decide | omega) (by first | assumption | decide | omega) (by first | assumption | decide | omega)).use (by decide) (by decide) ?_; rintro _ ⟨nn, rfl, hnn, hn0, hn1⟩) | (refine (eq1 hprm).use (by decide) (by decide) ?_; rintro _ (⟨rfl, heq⟩ | ⟨rfl, heq⟩)) | (refine (add1 hprm (by first | assumption | decide | omega) (by first | assumption | decide | omega) (by first | assumption | decide | omega) (by first | assumption | decide | omega)).use (by decide) (by decide) ?_; rintro _ ⟨nn, rfl, hnn, hn0, hn1⟩) | (refine (neg1 hprm (by first | assumption | decide | omega) (by first | assumption | decide | omega)).use (by decide) (by decide) ?_; rintro _ ⟨nn, rfl, hnn, hn0, hn1⟩) | (refine (pow21 hprm (by first | assumption | decide | omega) (by first | assumption | decide | omega)).use (by decide) (by decide) ?_; rintro _ ⟨nn, rfl, hnn, hn0, hn1⟩) | intro _ | apply And.intro)
    all_goals first
      | (assumption)
      | (decide)
      | (rfl)
      | (exact big_lit (by decide) (by decide))
      | (exact big_of (by assumption) (by assumption) (by assumption))
      | (exact big_sub (by assumption) (by assumption) (by assumption) (by assumption) (by assumption))
      | (exact Or.inl (big_lit (by decide) (by decide)))
      | (exact Or.inl (big_of (by assumption) (by assumption) (by assumption)))
      | (exact Or.inl (big_sub (by assumption) (by assumption) (by assumption) (by assumption) (by assumption)))
      | (exact Or.inr (big_lit (by decide) (by decide)))
      | (exact Or.inr (big_of (by assumption) (by assumption) (by assumption)))
      | (exact Or.inr (big_sub (by assumption) (by assumption) (by assumption) (by assumption) (by assumption)))
      | (exact .inl ⟨C.sum00 (by assumption) (by assumption), rfl⟩)
      | (exact .inl ⟨C.sameInf (by assumption) (by assumption) (by assumption) (by assumption), rfl⟩)
      | (exact AP.idx C (.inr ⟨kn2, rfl⟩) (C.sum0 (by assumption)).symm)
      | (exact AP.idx C (.inr ⟨kn1, rfl⟩) (C.sum0' (by assumption)).symm)
      | (exact (bdblA C (.inr ⟨kn1, rfl⟩)).use (by decide) (by decide) fun av h => h.idx C (C.sameDbl (by assumption) (by assumption) (by assumption) (by assumption)))
      | (exact .inr ⟨C.opp _ _ kn1 kn2 (Ne.symm (by assumption)), bpEq (aadd C kn1 kn2 (by assumption) (by assumption) (by assumption) (by assumption) (by assumption) (by assumption) (by assumption) (by assumption) (by assumption) (by assumption) (by assumption) (by assumption))⟩)
      | (exfalso; first | omega | exact aaddchk (j := j) (k := k) C kn1 kn2 (by assumption) (by assumption) (by assumption) (by assumption) (by assumption) (by assumption) (by assumption) (by assumption) (by assumption) (by assumption) (by assumption) (by assumption) (by assumption) (by assumption) (by assumption) (by assumption) (by assumption) (by assumption))
  · refine fn_ok (D := 49) (U := 797) (f98 w) (by rfl) (b98 w) ?_
    repeat' (first | (refine (mul1 hprm (by first | assumption | decide | omega) (by first | assumption | decide | omega) (by first | assumption | decide | omega) (by first | assumption | decide | omega)).use (by decide) (by decide) ?_; rintro _ ⟨nn, rfl, hnn, hn0, hn1⟩) | (refine (rmul1 hprm (by first | assumption | decide | omega) (by first | assumption | decide | omega) (by first | assumption | decide | omega) (by first | assumption | decide | omega)).use (by decide) (by decide) ?_; rintro _ ⟨nn, rfl, hnn, hn0, hn1⟩) | (refine (sub1 hprm (by first | assumption | decide | omega) (by first | assumption | decide | omega) (by first | assumption | decide | omega) (by first | assumption | decide | omega)).use (by decide) (by decide) ?_; rintro _ ⟨nn, rfl, hnn, hn0, hn1⟩) | (refine (div1 hprm (by first | assumption | decide | omega) (by first | assumption | decide | omega) (by first | assumption | decide | omega) (by first | assumption | decide | omega)).use (by decide) (by decide) ?_; rintro _ ⟨nn, rfl, hnn, hn0, hn1⟩) | (refine (eq1 hprm).use (by decide) (by decide) ?_; rintro _ (⟨rfl, heq⟩ | ⟨rfl, heq⟩)) | (refine (add1 hprm (by first | assumption | decide | omega) (by first | assumption | decide | omega) (by first | assumption | decide | omega) (by first | assumption | decide | omega)).use (by decide) (by decide) ?_; rintro _ ⟨nn, rfl, hnn, hn0, hn1⟩) | (refine (neg1 hprm (by first | assumption | decide | omega) (by first | assumption | decide | omega)).use (by decide) (by decide) ?_; rintro _ ⟨nn, rfl, hnn, hn0, hn1⟩) | (refine (pow21 hprm (by first | assumption | decide | omega) (by first | assumption | decide | omega)).use (by decide) (by decide) ?_; rintro _ ⟨nn, rfl, hnn, hn0, hn1⟩) | intro _ | apply And.intro)
    all_goals first
      | (assumption)
      | (decide)
      | (rfl)
      | (exact big_lit (by decide) (by decide))
      | (exact big_of (by assumption) (by assumption) (by assumption))
      | (exact big_sub (by assumption) (by assumption) (by assumption) (by assumption) (by assumption))
      | (exact Or.inl (big_lit (by decide) (by decide)))
      | (exact Or.inl (big_of (by assumption) (by assumption) (by assumption)))
      | (exact Or.inl (big_sub (by assumption) (by assumption) (by assumption) (by assumption) (by assumption)))
      | (exact Or.inr (big_lit (by decide) (by decide)))
      | (exact Or.inr (big_of (by assumption) (by assumption) (by assumption)))
      | (exact Or.inr (big_sub (by assumption) (by assumption) (by assumption) (by assumption) (by assumption)))
      | (exact .inl ⟨C.sum00 (by assumption) (by assumption), rfl⟩)
      | (exact .inl ⟨C.sameInf (by assumption) (by assumption) (by assumption) (by assumption), rfl⟩)
      | (exact AP.idx C (.inr ⟨kn2, rfl⟩) (C.sum0 (by assumption)).symm)
      | (exact AP.idx C (.inr ⟨kn1, rfl⟩) (C.sum0' (by assumption)).symm)
      | (exact (bdblA C (.inr ⟨kn1, rfl⟩)).use (by decide) (by decide) fun av h => h.idx C (C.sameDbl (by assumption) (by assumption) (by assumption) (by assumption)))
      | (exact .inr ⟨C.opp _ _ kn1 kn2 (Ne.symm (by assumption)), bpEq (aadd C kn1 kn2 (by assumption) (by assumption) (by assumption) (by assumption) (by assumption) (by assumption) (by assumption) (by assumption) (by assumption) (by assumption) (by assumption) (by assumption))⟩)
      | (exfalso; first | omega | exact aaddchk (j := j) (k := k) C kn1 kn2 (by assumption) (by assumption) (by assumption) (by assumption) (by assumption) (by assumption) (by assumption) (by assumption) (by assumption) (by assumption) (by assumption) (by assumption) (by assumption) (by assumption) (by assumption) (by assumption) (by assumption) (by assumption))
noncomputable def bmul_IHA (prog : Program) (w : World) (P N : Int) (px py : Int → Int) (M : Nat) : Prop := ∀ (n : Int), n.toNat < M → 0 ≤ n → n < 127 → ∀ {k : Int} {v : AV}, AP P N px py (k) v → ACon prog w (n.toNat + 80) (10 * n.toNat + 1300) 105 (a2 v (.int n)) (AP P N px py (k * n))
theorem bmul_stepA (C : Crv P N px py) {M : Nat} (IH : bmul_IHA prog w P N px py M) {n : Int} (hM : n.toNat < M + 1) (hn0 : 0 ≤ n) (hn1 : n < 127) {k : Int} {v : AV} (h : AP P N px py (k) v) : ACon prog w (n.toNat + 80) (10 * n.toNat + 1300) 105 (a2 v (.int n)) (AP P N px py (k * n)) := by
  have hP := C.prm.pos
  have hP2 := C.prm.2.1
  have hprm := C.prm
  refine fn_ok (D := n.toNat + 79) (U := 10 * n.toNat + 1297) (f105 w) (by rfl) (b105 w) ?_
  repeat' (first | (refine (bdblA C h).use (leA (by decide)) (leA (by decide)) ?_; rintro v' h') | (have hF := Half.of hn0 (by assumption) (by assumption) (by assumption) hM; exact (IH _ hF.lt hF.r0 (Int.lt_trans hF.rn hn1) (by assumption)).use hF.u3 hF.u4 fun av h9 => h9.idxE (mul_halfB (by assumption) (by assumption) (by first | assumption | decide | omega))) | (exact (baddA C (by assumption) h).use (leA (by decide)) (leA (by decide)) fun av h9 => h9.idxE (mul_halfB1 (by assumption) (by assumption) (by first | assumption | decide | omega))) | (have hF := Half.of hn0 (by assumption) (by assumption) (by assumption) hM; refine (IH _ hF.lt hF.r0 (Int.lt_trans hF.rn hn1) (by assumption)).use hF.u3 hF.u4 ?_; clear hF; rintro v'' h'') | intro _ | apply And.intro)
  all_goals first
    | (assumption)
    | (decide)
    | (rfl)
    | (exact big_lit (by decide) (by decide))
    | (exact big_of (by assumption) (by assumption) (by assumption))
    | (exact big_sub (by assumption) (by assumption) (by assumption) (by assumption) (by assumption))
    | (exact Or.inl (big_lit (by decide) (by decide)))
    | (exact Or.inl (big_of (by assumption) (by assumption) (by assumption)))
    | (exact Or.inl (big_sub (by assumption) (by assumption) (by assumption) (by assumption) (by assumption)))
    | (exact Or.inr (big_lit (by decide) (by decide)))
    | (exact Or.inr (big_of (by assumption) (by assumption) (by assumption)))
    | (exact Or.inr (big_sub (by assumption) (by assumption) (by assumption) (by assumption) (by assumption)))
    | (exact .inl ⟨C.mul00 (by first | assumption | decide | omega), rfl⟩)
    | (exact h.idxE (by rw [show n = 1 from (by first | assumption | decide | omega), Int.mul_one]))
    | (exfalso; omega)
theorem bmul_allA (C : Crv P N px py) : ∀ M, bmul_IHA prog w P N px py M := by
  intro M
  induction M with
  | zero => intro n h; exact absurd h (Nat.not_lt_zero _)
  | succ M ih => intro n h h0 h1 k v hv; exact bmul_stepA C ih h h0 h1 hv
theorem bmulA (C : Crv P N px py) {n k : Int} {v : AV} (hn0 : 0 ≤ n) (hn1 : n < 127) (h : AP P N px py (k) v) : ACon prog w 210 2600 105 (a2 v (.int n)) (AP P N px py (k * n)) :=
  (bmul_allA C (n.toNat + 1) n (by omega) hn0 hn1 h).use (by omega) (by omega) fun _ h => h
end
end
section
noncomputable abbrev q3 (P X Y Z : Int) : AV := t3 (.fq false P X) (.fq false P Y) (.fq false P Z)
noncomputable def QP (P N : Int) (px py : Int → Int) (k : Int) (av : AV) : Prop := ∃ X Y Z, av = q3 P X Y Z ∧ PRep P N px py k X Y Z
theorem QP.re {P N : Int} {px py : Int → Int} {j k : Int} {v : AV} (h : QP P N px py j v) (s : ∀ A B D, PRep P N px py j A B D → PRep P N px py k A B D) : QP P N px py k v := let ⟨X, Y, Z, e, h⟩ := h; ⟨X, Y, Z, e, s _ _ _ h⟩
theorem QP.idxE {P N : Int} {px py : Int → Int} {j k : Int} {v : AV} (h : QP P N px py j v) (e : j = k) : QP P N px py k v := e ▸ h
noncomputable abbrev np (P : Int) (px py : Int → Int) (k : Int) : AV := t2 (.fq false P (px k)) (.fq false P (py k))
theorem npEq {P X Y : Int} {px py : Int → Int} {k : Int} (h : X = px k ∧ Y = py k) : t2 (.fq false P X) (.fq false P Y) = np P px py k := by obtain ⟨rfl, rfl⟩ := h; rfl
noncomputable def Modbl : MS := (.unp (2 :: (3 :: (4 :: []))) (.v 0) (.asg 5 (.bin .Mult (.bin .Mult (.lit 3) (.v 2)) (.v 2)) (.asg 6 (.bin .Mult (.v 3) (.v 4)) (.asg 7 (.bin .Mult (.bin .Mult (.v 2) (.v 3)) (.v 6)) (.asg 8 (.bin .Sub (.bin .Mult (.v 5) (.v 5)) (.bin .Mult (.lit 8) (.v 7))) (.asg 9 (.bin .Mult (.v 6) (.v 6)) (.asg 10 (.bin .Mult (.bin .Mult (.lit 2) (.v 8)) (.v 6)) (.asg 11 (.bin .Sub (.bin .Mult (.v 5) (.bin .Sub (.bin .Mult (.lit 4) (.v 7)) (.v 8))) (.bin .Mult (.bin .Mult (.bin .Mult (.lit 8) (.v 3)) (.v 3)) (.v 9))) (.asg 12 (.bin .Mult (.bin .Mult (.lit 8) (.v 6)) (.v 9)) (.ret (.tup (.lcons (.v 10) (.lcons (.v 11) (.lcons (.v 12) .lnil))))))))))))))
noncomputable def Moadd (d : Addr) : MS := (.swp 4 5 (.tup (.lcons (.meth (.item (.v 0) 0) 1 .lnil) (.lcons (.meth (.item (.v 0) 0) 2 .lnil) .lnil))) (.iff (.or (.cmp .Eq (.item (.v 0) 2) (.v 5)) (.cmp .Eq (.item (.v 1) 2) (.v 5))) (.ret (.ite (.cmp .Eq (.item (.v 1) 2) (.v 5)) (.v 0) (.v 1))) .nil (.unp (6 :: (7 :: (8 :: []))) (.v 0) (.unp (9 :: (10 :: (11 :: []))) (.v 1) (.asg 12 (.bin .Mult (.v 10) (.v 8)) (.asg 13 (.bin .Mult (.v 7) (.v 11)) (.asg 14 (.bin .Mult (.v 9) (.v 8)) (.asg 15 (.bin .Mult (.v 6) (.v 11)) (.iff (.and (.cmp .Eq (.v 14) (.v 15)) (.cmp .Eq (.v 12) (.v 13))) (.ret (.call d (.lcons (.v 0) .lnil))) (.iff (.cmp .Eq (.v 14) (.v 15)) (.ret (.tup (.lcons (.v 4) (.lcons (.v 4) (.lcons (.v 5) .lnil))))) .nil .nil) (.asg 16 (.bin .Sub (.v 12) (.v 13)) (.asg 17 (.bin .Sub (.v 14) (.v 15)) (.asg 18 (.bin .Mult (.v 17) (.v 17)) (.asg 19 (.bin .Mult (.v 18) (.v 15)) (.asg 20 (.bin .Mult (.v 17) (.v 18)) (.asg 21 (.bin .Mult (.v 8) (.v 11)) (.asg 22 (.bin .Sub (.bin .Sub (.bin .Mult (.bin .Mult (.v 16) (.v 16)) (.v 21)) (.v 20)) (.bin .Mult (.lit 2) (.v 19))) (.asg 23 (.bin .Mult (.v 17) (.v 22)) (.asg 24 (.bin .Sub (.bin .Mult (.v 16) (.bin .Sub (.v 19) (.v 22))) (.bin .Mult (.v 20) (.v 13))) (.asg 25 (.bin .Mult (.v 20) (.v 21)) (.ret (.tup (.lcons (.v 23) (.lcons (.v 24) (.lcons (.v 25) .lnil))))))))))))))))))))))))
noncomputable def Monorm : MS := (.unp (2 :: (3 :: (4 :: []))) (.v 0) (.ret (.tup (.lcons (.bin .Div (.v 2) (.v 4)) (.lcons (.bin .Div (.v 3) (.v 4)) .lnil)))))
theorem f428 (w : World) : fetch (hd.heap_1 w.params) 428 = some (1, Modbl) := by kernel_rfl
theorem b428 (w : World) : ∀ vs : List Value, vs.length = 1 → bindArgs (fdOf (hd.heap_1 w.params) 428) ⟨vs, []⟩ = pure ((psOf (hd.heap_1 w.params) 428).zip vs) := bind1 fun _ => by kernel_rfl
theorem f435 (w : World) : fetch (hd.heap_1 w.params) 435 = some (2, Moadd 428) := by kernel_rfl
theorem b435 (w : World) : ∀ vs : List Value, vs.length = 2 → bindArgs (fdOf (hd.heap_1 w.params) 435) ⟨vs, []⟩ = pure ((psOf (hd.heap_1 w.params) 435).zip vs) := bind2 fun _ _ => by kernel_rfl
noncomputable def M442 : MS := (.iff (.cmp .Eq (.v 1) (.lit 0)) (.ret (.tup (.lcons (.meth (.item (.v 0) 0) 1 .lnil) (.lcons (.meth (.item (.v 0) 0) 1 .lnil) (.lcons (.meth (.item (.v 0) 0) 2 .lnil) .lnil))))) (.iff (.cmp .Eq (.v 1) (.lit 1)) (.ret (.v 0)) (.iff (.not (.bin .Mod (.v 1) (.lit 2))) (.ret (.call 442 (.lcons (.call 428 (.lcons (.v 0) .lnil)) (.lcons (.bin .FloorDiv (.v 1) (.lit 2)) .lnil)))) (.ret (.call 435 (.lcons (.call 442 (.lcons (.call 428 (.lcons (.v 0) .lnil)) (.lcons (.toint (.bin .FloorDiv (.v 1) (.lit 2))) .lnil))) (.lcons (.v 0) .lnil)))) .nil) .nil) .nil)
theorem f442 (w : World) : fetch (hd.heap_1 w.params) 442 = some (2, M442) := by kernel_rfl
theorem b442 (w : World) : ∀ vs : List Value, vs.length = 2 → bindArgs (fdOf (hd.heap_1 w.params) 442) ⟨vs, []⟩ = pure ((psOf (hd.heap_1 w.params) 442).zip vs) := bind2 fun _ _ => by kernel_rfl
theorem f449 (w : World) : fetch (hd.heap_1 w.params) 449 = some (1, Monorm) := by kernel_rfl
theorem b449 (w : World) : ∀ vs : List Value, vs.length = 1 → bindArgs (fdOf (hd.heap_1 w.params) 449) ⟨vs, []⟩ = pure ((psOf (hd.heap_1 w.params) 449).zip vs) := bind1 fun _ => by kernel_rfl
section
variable {prog : Program} {w : World} {P N b gx gy : Int} {px py : Int → Int}
theorem odblW (C : Crv P N px py) {k : Int} {v : AV} (h : QP P N px py k v) : xw (ACon prog w 39 697) Modbl (rho0 0 (a1 v)) (QP P N px py (2 * k)) (fun _ => QP P N px py (2 * k) .none) := by
  have hP := C.prm.pos
  have hP2 := C.prm.2.1
  have hprm := C.prm
  obtain ⟨X1, Y1, Z1, rfl, hp1⟩ := h
  obtain ⟨bX01, bX11⟩ := hp1.1
  obtain ⟨bY01, bY11⟩ := hp1.2.1
  obtain ⟨bZ01, bZ11⟩ := hp1.2.2.1
  repeat' (first | (refine (mul2 hprm (by first | assumption | decide | omega) (by first | assumption | decide | omega) (by first | assumption | decide | omega) (by first | assumption | decide | omega)).use (by decide) (by decide) ?_; rintro _ ⟨nn, rfl, hnn, hn0, hn1⟩) | (refine (rmul2 hprm (by first | assumption | decide | omega) (by first | assumption | decide | omega) (by first | assumption | decide | omega) (by first | assumption | decide | omega)).use (by decide) (by decide) ?_; rintro _ ⟨nn, rfl, hnn, hn0, hn1⟩) | (refine (sub2 hprm (by first | assumption | decide | omega) (by first | assumption | decide | omega) (by first | assumption | decide | omega) (by first | assumption | decide | omega)).use (by decide) (by decide) ?_; rintro _ ⟨nn, rfl, hnn, hn0, hn1⟩) | (refine (div2 hprm (by first | assumption | decide | omega) (by first | assumption | decide | omega) (by first | assumption | decide | omega) (by first | assumption | decide | omega)).use (by decide) (by decide) ?_; rintro _ ⟨nn, rfl, hnn, hn0, hn1⟩) | (refine (eq2 hprm).use (by decide) (by decide) ?_; rintro _ (⟨rfl, heq⟩ | ⟨rfl, heq⟩)) | (refine (one2 hprm).use (by decide) (by decide) ?_; rintro _ ⟨nn, rfl, rfl, hn0, hn1⟩) | (refine (zero2 hprm).use (by decide) (by decide) ?_; rintro _ ⟨nn, rfl, rfl, hn0, hn1⟩) | intro _ | apply And.intro)
  all_goals first
    | (assumption)
    | (decide)
    | (rfl)
    | (exact big_lit (by decide) (by decide))
    | (exact big_of (by assumption) (by assumption) (by assumption))
    | (exact big_sub (by assumption) (by assumption) (by assumption) (by assumption) (by assumption))
    | (exact Or.inl (big_lit (by decide) (by decide)))
    | (exact Or.inl (big_of (by assumption) (by assumption) (by assumption)))
    | (exact Or.inl (big_sub (by assumption) (by assumption) (by assumption) (by assumption) (by assumption)))
    | (exact Or.inr (big_lit (by decide) (by decide)))
    | (exact Or.inr (big_of (by assumption) (by assumption) (by assumption)))
    | (exact Or.inr (big_sub (by assumption) (by assumption) (by assumption) (by assumption) (by assumption)))
    | (exact ⟨_, _, _, rfl, odbl_rep C hp1 (by assumption) (by assumption) (by assumption) (by assumption) (by assumption) (by assumption) (by assumption) (by assumption) (by assumption) (by assumption) (by assumption) (by assumption) (by assumption) (by assumption) (by assumption) (by assumption) (by assumption) (by assumption) (by assumption) (by assumption)⟩)
theorem oaddW (C : Crv P N px py) {d : Addr} (hd : ∀ k v, QP P N px py k v → ACon prog w 40 700 d (a1 v) (QP P N px py (2 * k))) {j k : Int} {v u : AV} (h : QP P N px py j v) (h' : QP P N px py k u) : xw (ACon prog w 49 797) (Moadd d) (rho0 0 (a2 v u)) (QP P N px py (j + k)) (fun _ => QP P N px py (j + k) .none) := by
  have hP := C.prm.pos
  have hP2 := C.prm.2.1
  have hprm := C.prm
  obtain ⟨X1, Y1, Z1, rfl, hp1⟩ := h
  obtain ⟨bX01, bX11⟩ := hp1.1
  obtain ⟨bY01, bY11⟩ := hp1.2.1
  obtain ⟨bZ01, bZ11⟩ := hp1.2.2.1
  obtain ⟨X2, Y2, Z2, rfl, hp2⟩ := h'
  obtain ⟨bX02, bX12⟩ := hp2.1
  obtain ⟨bY02, bY12⟩ := hp2.2.1
  obtain ⟨bZ02, bZ12⟩ := hp2.2.2.1
  repeat' (first | (refine (mul2 hprm (by first | assumption | decide | omega) (by first | assumption | decide | omega) (by first | assumption | decide | omega) (by first | assumption | decide | omega)).use (by decide) (by decide) ?_; rintro _ ⟨nn, rfl, hnn, hn0, hn1⟩) | (refine (rmul2 hprm (by first | assumption | decide | omega) (by first | assumption | decide | omega) (by first | assumption | decide | omega) (by first | assumption | decide | omega)).use (by decide) (by decide) ?_; rintro _ ⟨nn, rfl, hnn, hn0, hn1⟩) | (refine (sub2 hprm (by first | assumption | decide | omega) (by first | assumption | decide | omega) (by first | assumption | decide | omega) (by first | assumption | decide | omega)).use (by decide) (by decide) ?_; rintro _ ⟨nn, rfl, hnn, hn0, hn1⟩) | (refine (div2 hprm (by first | assumption | decide | omega) (by first | assumption | decide | omega) (by first | assumption | decide | omega) (by first | assumption | decide | omega)).use (by decide) (by decide) ?_; rintro _ ⟨nn, rfl, hnn, hn0, hn1⟩) | (refine (eq2 hprm).use (by decide) (by decide) ?_; rintro _ (⟨rfl, heq⟩ | ⟨rfl, heq⟩)) | (refine (one2 hprm).use (by decide) (by decide) ?_; rintro _ ⟨nn, rfl, rfl, hn0, hn1⟩) | (refine (zero2 hprm).use (by decide) (by decide) ?_; rintro _ ⟨nn, rfl, rfl, hn0, hn1⟩) | intro _ | apply And.intro)
  all_goals first
    | (assumption)
    | (decide)
    | (rfl)
    | (exact big_lit (by decide) (by decide))
    | (exact big_of (by assumption) (by assumption) (by assumption))
    | (exact big_sub (by assumption) (by assumption) (by assumption) (by assumption) (by assumption))
    | (exact Or.inl (big_lit (by decide) (by decide)))
    | (exact Or.inl (big_of (by assumption) (by assumption) (by assumption)))
    | (exact Or.inl (big_sub (by assumption) (by assumption) (by assumption) (by assumption) (by assumption)))
    | (exact Or.inr (big_lit (by decide) (by decide)))
    | (exact Or.inr (big_of (by assumption) (by assumption) (by assumption)))
    | (exact Or.inr (big_sub (by assumption) (by assumption) (by assumption) (by assumption) (by assumption)))
    | (exact ⟨_, _, _, rfl, hp2.idx C (C.sum0 (hp1.z0 C (by first | assumption | omega))).symm⟩)
    | (exact ⟨_, _, _, rfl, hp1.idx C (C.sum0' (hp2.z0 C (by first | assumption | omega))).symm⟩)
    | (exact (hd _ _ ⟨_, _, _, rfl, hp1⟩).use (by decide) (by decide) fun av h9 => h9.re fun A B D hABD => oadd_dbl C hp1 hp2 (by first | assumption | omega) (by first | assumption | omega) (by assumption) (by assumption) (by assumption) (by assumption) (by first | assumption | decide | omega) (by first | assumption | decide | omega) hABD)
    | (exact ⟨_, _, _, rfl, PRep.zz rfl (oadd_inf C hp1 hp2 (by first | assumption | omega) (by first | assumption | omega) (by assumption) (by assumption) (by assumption) (by assumption) (by first | assumption | decide | omega) (by first | assumption | decide | omega) ⟨by decide, hprm.1⟩ ⟨by decide, hprm.1⟩)⟩)
    | (exact ⟨_, _, _, rfl, oadd_rep C hp1 hp2 (by first | assumption | omega) (by first | assumption | omega) (by assumption) (by assumption) (by assumption) (by assumption) (by assumption) (by assumption) (by assumption) (by assumption) (by assumption) (by assumption) (by assumption) (by assumption) (by assumption) (by assumption) (by assumption) (by assumption) (by assumption) (by assumption) (by assumption) (by assumption) (by assumption) (by first | assumption | decide | omega)⟩)
    | (exfalso; omega)
theorem onormW (C : Crv P N px py) {k X1 Y1 Z1 : Int} (hp1 : PRep P N px py k X1 Y1 Z1) (hz : Z1 ≠ 0) : xw (ACon prog w 29 397) Monorm (rho0 0 (a1 (q3 P X1 Y1 Z1))) (fun av => av = np P px py k) (fun _ => .none = np P px py k) := by
  have hP := C.prm.pos
  have hP2 := C.prm.2.1
  have hprm := C.prm
  obtain ⟨bX01, bX11⟩ := hp1.1
  obtain ⟨bY01, bY11⟩ := hp1.2.1
  obtain ⟨bZ01, bZ11⟩ := hp1.2.2.1
  repeat' (first | (refine (mul2 hprm (by first | assumption | decide | omega) (by first | assumption | decide | omega) (by first | assumption | decide | omega) (by first | assumption | decide | omega)).use (by decide) (by decide) ?_; rintro _ ⟨nn, rfl, hnn, hn0, hn1⟩) | (refine (rmul2 hprm (by first | assumption | decide | omega) (by first | assumption | decide | omega) (by first | assumption | decide | omega) (by first | assumption | decide | omega)).use (by decide) (by decide) ?_; rintro _ ⟨nn, rfl, hnn, hn0, hn1⟩) | (refine (sub2 hprm (by first | assumption | decide | omega) (by first | assumption | decide | omega) (by first | assumption | decide | omega) (by first | assumption | decide | omega)).use (by decide) (by decide) ?_; rintro _ ⟨nn, rfl, hnn, hn0, hn1⟩) | (refine (div2 hprm (by first | assumption | decide | omega) (by first | assumption | decide | omega) (by first | assumption | decide | omega) (by first | assumption | decide | omega)).use (by decide) (by decide) ?_; rintro _ ⟨nn, rfl, hnn, hn0, hn1⟩) | (refine (eq2 hprm).use (by decide) (by decide) ?_; rintro _ (⟨rfl, heq⟩ | ⟨rfl, heq⟩)) | (refine (one2 hprm).use (by decide) (by decide) ?_; rintro _ ⟨nn, rfl, rfl, hn0, hn1⟩) | (refine (zero2 hprm).use (by decide) (by decide) ?_; rintro _ ⟨nn, rfl, rfl, hn0, hn1⟩) | intro _ | apply And.intro)
  all_goals first
    | (assumption)
    | (decide)
    | (rfl)
    | (exact big_lit (by decide) (by decide))
    | (exact big_of (by assumption) (by assumption) (by assumption))
    | (exact big_sub (by assumption) (by assumption) (by assumption) (by assumption) (by assumption))
    | (exact Or.inl (big_lit (by decide) (by decide)))
    | (exact Or.inl (big_of (by assumption) (by assumption) (by assumption)))
    | (exact Or.inl (big_sub (by assumption) (by assumption) (by assumption) (by assumption) (by assumption)))
    | (exact Or.inr (big_lit (by decide) (by decide)))
    | (exact Or.inr (big_of (by assumption) (by assumption) (by assumption)))
    | (exact Or.inr (big_sub (by assumption) (by assumption) (by assumption) (by assumption) (by assumption)))
    | (exact npEq (onormE C hp1 hz (by assumption) (by assumption)))
theorem odbl1A (C : Crv P N px py) {k : Int} {v : AV} (h : QP P N px py k v) : ACon prog w 40 700 428 (a1 v) (QP P N px py (2 * k)) := fn_ok (D := 39) (U := 697) (f428 w) (by rfl) (b428 w) (odblW C h)
theorem oadd1A (C : Crv P N px py) {j k : Int} {v u : AV} (h : QP P N px py j v) (h' : QP P N px py k u) : ACon prog w 50 800 435 (a2 v u) (QP P N px py (j + k)) := fn_ok (D := 49) (U := 797) (f435 w) (by rfl) (b435 w) (oaddW C (fun _ _ h => odbl1A C h) h h')
noncomputable def omul1_IHA (prog : Program) (w : World) (P N : Int) (px py : Int → Int) (M : Nat) : Prop := ∀ (n : Int), n.toNat < M → 0 ≤ n → n < 127 → ∀ {k : Int} {v : AV}, QP P N px py (k) v → ACon prog w (n.toNat + 80) (10 * n.toNat + 1300) 442 (a2 v (.int n)) (QP P N px py (k * n))
theorem omul1_stepA (C : Crv P N px py) {M : Nat} (IH : omul1_IHA prog w P N px py M) {n : Int} (hM : n.toNat < M + 1) (hn0 : 0 ≤ n) (hn1 : n < 127) {k : Int} {v : AV} (h : QP P N px py (k) v) : ACon prog w (n.toNat + 80) (10 * n.toNat + 1300) 442 (a2 v (.int n)) (QP P N px py (k * n)) := by
  have hP := C.prm.pos
  have hP2 := C.prm.2.1
  have hprm := C.prm
  obtain ⟨X, Y, Z, rfl, hp⟩ := h
  refine fn_ok (D := n.toNat + 79) (U := 10 * n.toNat + 1297) (f442 w) (by rfl) (b442 w) ?_
  repeat' (first | (refine (odbl1A C ⟨_, _, _, rfl, hp⟩).use (leA (by decide)) (leA (by decide)) ?_; rintro v' h') | (have hF := Half.of hn0 (by assumption) (by assumption) (by assumption) hM; exact (IH _ hF.lt hF.r0 (Int.lt_trans hF.rn hn1) (by assumption)).use hF.u3 hF.u4 fun av h9 => h9.idxE (mul_halfB (by assumption) (by assumption) (by first | assumption | decide | omega))) | (exact (oadd1A C (by assumption) ⟨_, _, _, rfl, hp⟩).use (leA (by decide)) (leA (by decide)) fun av h9 => h9.idxE (mul_halfB1 (by assumption) (by assumption) (by first | assumption | decide | omega))) | (have hF := Half.of hn0 (by assumption) (by assumption) (by assumption) hM; refine (IH _ hF.lt hF.r0 (Int.lt_trans hF.rn hn1) (by assumption)).use hF.u3 hF.u4 ?_; clear hF; rintro v'' h'') | (refine (one2 hprm).use (leA (by decide)) (leA (by decide)) ?_; rintro _ ⟨nn, rfl, rfl, hn0, hn1⟩) | (refine (zero2 hprm).use (leA (by decide)) (leA (by decide)) ?_; rintro _ ⟨nn, rfl, rfl, hn0, hn1⟩) | intro _ | apply And.intro)
  all_goals first
    | (assumption)
    | (decide)
    | (rfl)
    | (exact big_lit (by decide) (by decide))
    | (exact big_of (by assumption) (by assumption) (by assumption))
    | (exact big_sub (by assumption) (by assumption) (by assumption) (by assumption) (by assumption))
    | (exact Or.inl (big_lit (by decide) (by decide)))
    | (exact Or.inl (big_of (by assumption) (by assumption) (by assumption)))
    | (exact Or.inl (big_sub (by assumption) (by assumption) (by assumption) (by assumption) (by assumption)))
    | (exact Or.inr (big_lit (by decide) (by decide)))
    | (exact Or.inr (big_of (by assumption) (by assumption) (by assumption)))
    | (exact Or.inr (big_sub (by assumption) (by assumption) (by assumption) (by assumption) (by assumption)))
    | (exact ⟨_, _, _, rfl, PRep.zz rfl (PRep.ofInf C (C.mul00 (by first | assumption | decide | omega)) ⟨by decide, hprm.1⟩ ⟨by decide, hprm.1⟩)⟩)
    | (exact ⟨_, _, _, rfl, hp.idxE (by rw [show n = 1 from (by first | assumption | decide | omega), Int.mul_one])⟩)
    | (exfalso; omega)
theorem omul1_allA (C : Crv P N px py) : ∀ M, omul1_IHA prog w P N px py M := by
  intro M
  induction M with
  | zero => intro n h; exact absurd h (Nat.not_lt_zero _)
  | succ M ih => intro n h h0 h1 k v hv; exact omul1_stepA C ih h h0 h1 hv
theorem omul1A (C : Crv P N px py) {n k : Int} {v : AV} (hn0 : 0 ≤ n) (hn1 : n < 127) (h : QP P N px py (k) v) : ACon prog w 210 2600 442 (a2 v (.int n)) (QP P N px py (k * n)) :=
  (omul1_allA C (n.toNat + 1) n (by omega) hn0 hn1 h).use (by omega) (by omega) fun _ h => h
theorem onorm1A (C : Crv P N px py) {k X1 Y1 Z1 : Int} (hp1 : PRep P N px py k X1 Y1 Z1) (hz : Z1 ≠ 0) : ACon prog w 30 400 449 (a1 (q3 P X1 Y1 Z1)) (fun av => av = np P px py k) := fn_ok (D := 29) (U := 397) (f449 w) (by rfl) (b449 w) (onormW C hp1 hz)
end
end
section
theorem f463 (w : World) : fetch (hd.heap_1 w.params) 463 = some (1, Modbl) := by kernel_rfl
theorem b463 (w : World) : ∀ vs : List Value, vs.length = 1 → bindArgs (fdOf (hd.heap_1 w.params) 463) ⟨vs, []⟩ = pure ((psOf (hd.heap_1 w.params) 463).zip vs) := bind1 fun _ => by kernel_rfl
theorem f470 (w : World) : fetch (hd.heap_1 w.params) 470 = some (2, Moadd 463) := by kernel_rfl
theorem b470 (w : World) : ∀ vs : List Value, vs.length = 2 → bindArgs (fdOf (hd.heap_1 w.params) 470) ⟨vs, []⟩ = pure ((psOf (hd.heap_1 w.params) 470).zip vs) := bind2 fun _ _ => by kernel_rfl
noncomputable def M477 : MS := (.iff (.cmp .Eq (.v 1) (.lit 0)) (.ret (.tup (.lcons (.meth (.item (.v 0) 0) 1 .lnil) (.lcons (.meth (.item (.v 0) 0) 1 .lnil) (.lcons (.meth (.item (.v 0) 0) 2 .lnil) .lnil))))) (.iff (.cmp .Eq (.v 1) (.lit 1)) (.ret (.v 0)) (.iff (.not (.bin .Mod (.v 1) (.lit 2))) (.ret (.call 477 (.lcons (.call 463 (.lcons (.v 0) .lnil)) (.lcons (.bin .FloorDiv (.v 1) (.lit 2)) .lnil)))) (.ret (.call 470 (.lcons (.call 477 (.lcons (.call 463 (.lcons (.v 0) .lnil)) (.lcons (.toint (.bin .FloorDiv (.v 1) (.lit 2))) .lnil))) (.lcons (.v 0) .lnil)))) .nil) .nil) .nil)
theorem f477 (w : World) : fetch (hd.heap_1 w.params) 477 = some (2, M477) := by kernel_rfl
theorem b477 (w : World) : ∀ vs : List Value, vs.length = 2 → bindArgs (fdOf (hd.heap_1 w.params) 477) ⟨vs, []⟩ = pure ((psOf (hd.heap_1 w.params) 477).zip vs) := bind2 fun _ _ => by kernel_rfl
theorem f484 (w : World) : fetch (hd.heap_1 w.params) 484 = some (1, Monorm) := by kernel_rfl
theorem b484 (w : World) : ∀ vs : List Value, vs.length = 1 → bindArgs (fdOf (hd.heap_1 w.params) 484) ⟨vs, []⟩ = pure ((psOf (hd.heap_1 w.params) 484).zip vs) := bind1 fun _ => by kernel_rfl
section
variable {prog : Program} {w : World} {P N b gx gy : Int} {px py : Int → Int}
theorem odbl2A (C : Crv P N px py) {k : Int} {v : AV} (h : QP P N px py k v) : ACon prog w 40 700 463 (a1 v) (QP P N px py (2 * k)) := fn_ok (D := 39) (U := 697) (f463 w) (by rfl) (b463 w) (odblW C h)
theorem oadd2A (C : Crv P N px py) {j k : Int} {v u : AV} (h : QP P N px py j v) (h' : QP P N px py k u) : ACon prog w 50 800 470 (a2 v u) (QP P N px py (j + k)) := fn_ok (D := 49) (U := 797) (f470 w) (by rfl) (b470 w) (oaddW C (fun _ _ h => odbl2A C h) h h')
noncomputable def omul2_IHA (prog : Program) (w : World) (P N : Int) (px py : Int → Int) (M : Nat) : Prop := ∀ (n : Int), n.toNat < M → 0 ≤ n → n < 127 → ∀ {k : Int} {v : AV}, QP P N px py (k) v → ACon prog w (n.toNat + 80) (10 * n.toNat + 1300) 477 (a2 v (.int n)) (QP P N px py (k * n))
theorem omul2_stepA (C : Crv P N px py) {M : Nat} (IH : omul2_IHA prog w P N px py M) {n : Int} (hM : n.toNat < M + 1) (hn0 : 0 ≤ n) (hn1 : n < 127) {k : Int} {v : AV} (h : QP P N px py (k) v) : ACon prog w (n.toNat + 80) (10 * n.toNat + 1300) 477 (a2 v (.int n)) (QP P N px py (k * n)) := by
  have hP := C.prm.pos
  have hP2 := C.prm.2.1
  have hprm := C.prm
  obtain ⟨X, Y, Z, rfl, hp⟩ := h
  refine fn_ok (D := n.toNat + 79) (U := 10 * n.toNat + 1297) (f477 w) (by rfl) (b477 w) ?_
  repeat' (first | (refine (odbl2A C ⟨_, _, _, rfl, hp⟩).use (leA (by decide)) (leA (by decide)) ?_; rintro v' h') | (have hF := Half.of hn0 (by assumption) (by assumption) (by assumption) hM; exact (IH _ hF.lt hF.r0 (Int.lt_trans hF.rn hn1) (by assumption)).use hF.u3 hF.u4 fun av h9 => h9.idxE (mul_halfB (by assumption) (by assumption) (by first | assumption | decide | omega))) | (exact (oadd2A C (by assumption) ⟨_, _, _, rfl, hp⟩).use (leA (by decide)) (leA (by decide)) fun av h9 => h9.idxE (mul_halfB1 (by assumption) (by assumption) (by first | assumption | decide | omega))) | (have hF := Half.of hn0 (by assumption) (by assumption) (by assumption) hM; refine (IH _ hF.lt hF.r0 (Int.lt_trans hF.rn hn1) (by assumption)).use hF.u3 hF.u4 ?_; clear hF; rintro v'' h'') | (refine (one2 hprm).use (leA (by decide)) (leA (by decide)) ?_; rintro _ ⟨nn, rfl, rfl, hn0, hn1⟩) | (refine (zero2 hprm).use (leA (by decide)) (leA (by decide)) ?_; rintro _ ⟨nn, rfl, rfl, hn0, hn1⟩) | intro _ | apply And.intro)
  all_goals first
    | (assumption)
    | (decide)
    | (rfl)
    | (exact big_lit (by decide) (by decide))
    | (exact big_of (by assumption) (by assumption) (by assumption))
    | (exact big_sub (by assumption) (by assumption) (by assumption) (by assumption) (by assumption))
    | (exact Or.inl (big_lit (by decide) (by decide)))
    | (exact Or.inl (big_of (by assumption) (by assumption) (by assumption)))
    | (exact Or.inl (big_sub (by assumption) (by assumption) (by assumption) (by assumption) (by assumption)))
    | (exact Or.inr (big_lit (by decide) (by decide)))
    | (exact Or.inr (big_of (by assumption) (by assumption) (by assumption)))
    | (exact Or.inr (big_sub (by assumption) (by assumption) (by assumption) (by assumption) (by assumption)))
    | (exact ⟨_, _, _, rfl, PRep.zz rfl (PRep.ofInf C (C.mul00 (by first | assumption | decide | omega)) ⟨by decide, hprm.1⟩ ⟨by decide, hprm.1⟩)⟩)
    | (exact ⟨_, _, _, rfl, hp.idxE (by rw [show n = 1 from (by first | assumption | decide | omega), Int.mul_one])⟩)
    | (exfalso; omega)
theorem omul2_allA (C : Crv P N px py) : ∀ M, omul2_IHA prog w P N px py M := by
  intro M
  induction M with
  | zero => intro n h; exact absurd h (Nat.not_lt_zero _)
  | succ M ih => intro n h h0 h1 k v hv; exact omul2_stepA C ih h h0 h1 hv
theorem omul2A (C : Crv P N px py) {n k : Int} {v : AV} (hn0 : 0 ≤ n) (hn1 : n < 127) (h : QP P N px py (k) v) : ACon prog w 210 2600 477 (a2 v (.int n)) (QP P N px py (k * n)) :=
  (omul2_allA C (n.toNat + 1) n (by omega) hn0 hn1 h).use (by omega) (by omega) fun _ h => h
theorem onorm2A (C : Crv P N px py) {k X1 Y1 Z1 : Int} (hp1 : PRep P N px py k X1 Y1 Z1) (hz : Z1 ≠ 0) : ACon prog w 30 400 484 (a1 (q3 P X1 Y1 Z1)) (fun av => av = np P px py k) := fn_ok (D := 29) (U := 397) (f484 w) (by rfl) (b484 w) (onormW C hp1 hz)
end
end
section
noncomputable def M456 : MS := (.ret (.cmp .Eq (.item (.v 0) (-1)) (.meth (.item (.v 0) (-1)) 2 .lnil)))
theorem f456 (w : World) : fetch (hd.heap_1 w.params) 456 = some (1, M456) := by kernel_rfl
theorem b456 (w : World) : ∀ vs : List Value, vs.length = 1 → bindArgs (fdOf (hd.heap_1 w.params) 456) ⟨vs, []⟩ = pure ((psOf (hd.heap_1 w.params) 456).zip vs) := bind1 fun _ => by kernel_rfl
noncomputable def M505 : MS := (.ret (.ite (.cmp .Eq (.v 0) (.tup (.lcons (.lit 0) (.lcons (.lit 0) .lnil)))) .none (.tup (.lcons (.call 255 (.lcons (.item (.v 0) 0) (.lcons (.v 1) .lnil))) (.lcons (.call 255 (.lcons (.item (.v 0) 1) (.lcons (.v 1) .lnil))) .lnil)))))
theorem f505 (w : World) : fetch (hd.heap_1 w.params) 505 = some (2, M505) := by kernel_rfl
theorem b505 (w : World) : ∀ vs : List Value, vs.length = 2 → bindArgs (fdOf (hd.heap_1 w.params) 505) ⟨vs, []⟩ = pure ((psOf (hd.heap_1 w.params) 505).zip vs) := bind2 fun _ _ => by kernel_rfl
noncomputable def M512 : MS := (.iff (.cmp .Eq (.v 0) (.tup (.lcons (.lit 0) (.lcons (.lit 0) .lnil)))) (.ret (.tup (.lcons (.call 417 (.lcons (.v 1) (.lcons (.v 2) .lnil))) (.lcons (.call 417 (.lcons (.v 1) (.lcons (.v 2) .lnil))) (.lcons (.call 417 (.lcons (.lit 0) (.lcons (.v 2) .lnil))) .lnil))))) .nil (.ret (.tup (.lcons (.call 417 (.lcons (.bin .Mult (.item (.v 0) 0) (.v 1)) (.lcons (.v 2) .lnil))) (.lcons (.call 417 (.lcons (.bin .Mult (.item (.v 0) 1) (.v 1)) (.lcons (.v 2) .lnil))) (.lcons (.call 417 (.lcons (.v 1) (.lcons (.v 2) .lnil))) .lnil))))))
theorem f512 (w : World) : fetch (hd.heap_1 w.params) 512 = some (3, M512) := by kernel_rfl
theorem b512 (w : World) : ∀ vs : List Value, vs.length = 3 → bindArgs (fdOf (hd.heap_1 w.params) 512) ⟨vs, []⟩ = pure ((psOf (hd.heap_1 w.params) 512).zip vs) := bind3 fun _ _ _ => by kernel_rfl
noncomputable def M519 : MS := (.iff (.cmp .Eq (.v 0) (.tup (.lcons (.lit 0) (.lcons (.lit 0) .lnil)))) (.ret (.tup (.lcons (.lit 0) (.lcons (.lit 0) (.lcons (.lit 1) .lnil))))) .nil (.ret (.tup (.lcons (.bin .Mod (.bin .Mult (.bin .Mult (.item (.v 0) 0) (.v 1)) (.v 1)) (.v 2)) (.lcons (.bin .Mod (.bin .Mult (.bin .Mult (.bin .Mult (.item (.v 0) 1) (.v 1)) (.v 1)) (.v 1)) (.v 2)) (.lcons (.v 1) .lnil))))))
theorem f519 (w : World) : fetch (hd.heap_1 w.params) 519 = some (3, M519) := by kernel_rfl
theorem b519 (w : World) : ∀ vs : List Value, vs.length = 3 → bindArgs (fdOf (hd.heap_1 w.params) 519) ⟨vs, []⟩ = pure ((psOf (hd.heap_1 w.params) 519).zip vs) := bind3 fun _ _ _ => by kernel_rfl
noncomputable def M526 : MS := (.iff (.call 456 (.lcons (.v 0) .lnil)) (.ret (.tup (.lcons (.lit 0) (.lcons (.lit 0) .lnil)))) .nil (.unp (4 :: (5 :: [])) (.callv 1 (.lcons (.v 0) .lnil)) (.ret (.tup (.lcons (.attr (.v 4) 0) (.lcons (.attr (.v 5) 0) .lnil))))))
theorem f526 (w : World) : fetch (hd.heap_1 w.params) 526 = some (2, M526) := by kernel_rfl
theorem b526 (w : World) : ∀ vs : List Value, vs.length = 2 → bindArgs (fdOf (hd.heap_1 w.params) 526) ⟨vs, []⟩ = pure ((psOf (hd.heap_1 w.params) 526).zip vs) := bind2 fun _ _ => by kernel_rfl
noncomputable def M533 : MS := (.ret (.ite (.isnone (.v 0)) (.tup (.lcons (.lit 0) (.lcons (.lit 0) .lnil))) (.tup (.lcons (.attr (.item (.v 0) 0) 0) (.lcons (.attr (.item (.v 0) 1) 0) .lnil)))))
theorem f533 (w : World) : fetch (hd.heap_1 w.params) 533 = some (1, M533) := by kernel_rfl
theorem b533 (w : World) : ∀ vs : List Value, vs.length = 1 → bindArgs (fdOf (hd.heap_1 w.params) 533) ⟨vs, []⟩ = pure ((psOf (hd.heap_1 w.params) 533).zip vs) := bind1 fun _ => by kernel_rfl
section
variable {prog : Program} {w : World} {P N b gx gy : Int} {px py : Int → Int}
theorem isinfA (hprm : Prm P) {X Y Z : Int} (hZ0 : 0 ≤ Z) (hZ1 : Z < P) : ACon prog w 20 300 456 (a1 (q3 P X Y Z)) (EqP Z 0) := by
  refine fn_ok (D := 19) (U := 297) (f456 w) (by rfl) (b456 w) ?_
  repeat' (first | (refine (zero2 hprm).use (by decide) (by decide) ?_; rintro _ ⟨nn, rfl, rfl, hn0, hn1⟩) | (exact (eq2 hprm).use (by decide) (by decide) fun _ h => h) | intro _ | apply And.intro)
  all_goals first
    | (assumption)
    | (decide)
    | (rfl)
    | (exact big_lit (by decide) (by decide))
    | (exact big_of (by assumption) (by assumption) (by assumption))
    | (exact big_sub (by assumption) (by assumption) (by assumption) (by assumption) (by assumption))
    | (exact Or.inl (big_lit (by decide) (by decide)))
    | (exact Or.inl (big_of (by assumption) (by assumption) (by assumption)))
    | (exact Or.inl (big_sub (by assumption) (by assumption) (by assumption) (by assumption) (by assumption)))
    | (exact Or.inr (big_lit (by decide) (by decide)))
    | (exact Or.inr (big_of (by assumption) (by assumption) (by assumption)))
    | (exact Or.inr (big_sub (by assumption) (by assumption) (by assumption) (by assumption) (by assumption)))
    | (fail)
theorem hplainA (C : Crv P N px py) {k : Int} : ACon prog w 20 300 505 (a2 (pt px py k) (.int P)) (AP P N px py k) := by
  have hP := C.prm.pos
  have hP2 := C.prm.2.1
  have hprm := C.prm
  obtain ⟨bx0k, bx1k, by0k, by1k⟩ := C.bnd k
  refine fn_ok (D := 19) (U := 297) (f505 w) (by rfl) (b505 w) ?_
  repeat' (first | (refine (new1 hprm).use (by decide) (by decide) ?_; rintro _ ⟨nn, rfl, hnn, hn0, hn1⟩) | intro _ | apply And.intro)
  all_goals first
    | (assumption)
    | (decide)
    | (rfl)
    | (exact big_lit (by decide) (by decide))
    | (exact big_of (by assumption) (by assumption) (by assumption))
    | (exact big_sub (by assumption) (by assumption) (by assumption) (by assumption) (by assumption))
    | (exact Or.inl (big_lit (by decide) (by decide)))
    | (exact Or.inl (big_of (by assumption) (by assumption) (by assumption)))
    | (exact Or.inl (big_sub (by assumption) (by assumption) (by assumption) (by assumption) (by assumption)))
    | (exact Or.inr (big_lit (by decide) (by decide)))
    | (exact Or.inr (big_of (by assumption) (by assumption) (by assumption)))
    | (exact Or.inr (big_sub (by assumption) (by assumption) (by assumption) (by assumption) (by assumption)))
    | (exact .inl ⟨C.zz (by assumption), rfl⟩)
    | (exact .inr ⟨C.nzz (by assumption), bpEq (C.pmod k (by assumption) (by assumption))⟩)
theorem hquickA (C : Crv P N px py) {k sc : Int} (hs0 : 1 ≤ sc) (hs1 : sc < P) : ACon prog w 20 300 512 (a3 (pt px py k) (.int sc) (.int P)) (QP P N px py k) := by
  have hP := C.prm.pos
  have hP2 := C.prm.2.1
  have hprm := C.prm
  obtain ⟨bx0k, bx1k, by0k, by1k⟩ := C.bnd k
  refine fn_ok (D := 19) (U := 297) (f512 w) (by rfl) (b512 w) ?_
  repeat' (first | (refine (new2 hprm).use (by decide) (by decide) ?_; rintro _ ⟨nn, rfl, hnn, hn0, hn1⟩) | intro _ | apply And.intro)
  all_goals first
    | (assumption)
    | (decide)
    | (rfl)
    | (exact big_lit (by decide) (by decide))
    | (exact big_of (by assumption) (by assumption) (by assumption))
    | (exact big_sub (by assumption) (by assumption) (by assumption) (by assumption) (by assumption))
    | (exact Or.inl (big_lit (by decide) (by decide)))
    | (exact Or.inl (big_of (by assumption) (by assumption) (by assumption)))
    | (exact Or.inl (big_sub (by assumption) (by assumption) (by assumption) (by assumption) (by assumption)))
    | (exact Or.inr (big_lit (by decide) (by decide)))
    | (exact Or.inr (big_of (by assumption) (by assumption) (by assumption)))
    | (exact Or.inr (big_sub (by assumption) (by assumption) (by assumption) (by assumption) (by assumption)))
    | (exact ⟨_, _, _, rfl, quick_inf C (C.zz (by assumption)) ⟨by assumption, by assumption⟩ ⟨by assumption, by assumption⟩ (by assumption)⟩)
    | (exact ⟨_, _, _, rfl, quick_pt C (C.nzz (by assumption)) hs0 hs1 (by assumption) (by assumption) (by assumption)⟩)
theorem hscaledA (C : Crv P N px py) {k sc : Int} (hs0 : 1 ≤ sc) (hs1 : sc < P) : ACon prog w 20 300 519 (a3 (pt px py k) (.int sc) (.int P)) (JP P N px py k) := by
  have hP := C.prm.pos
  have hP2 := C.prm.2.1
  have hprm := C.prm
  obtain ⟨bx0k, bx1k, by0k, by1k⟩ := C.bnd k
  have hbs : big sc := ⟨by omega, by omega⟩
  refine fn_ok (D := 19) (U := 297) (f519 w) (by rfl) (b519 w) ?_
  repeat' (first | intro _ | apply And.intro)
  all_goals first
    | (assumption)
    | (decide)
    | (rfl)
    | (exact big_lit (by decide) (by decide))
    | (exact big_of (by assumption) (by assumption) (by assumption))
    | (exact big_sub (by assumption) (by assumption) (by assumption) (by assumption) (by assumption))
    | (exact Or.inl (big_lit (by decide) (by decide)))
    | (exact Or.inl (big_of (by assumption) (by assumption) (by assumption)))
    | (exact Or.inl (big_sub (by assumption) (by assumption) (by assumption) (by assumption) (by assumption)))
    | (exact Or.inr (big_lit (by decide) (by decide)))
    | (exact Or.inr (big_of (by assumption) (by assumption) (by assumption)))
    | (exact Or.inr (big_sub (by assumption) (by assumption) (by assumption) (by assumption) (by assumption)))
    | (exact Or.inr hbs)
    | (exact ⟨_, _, _, rfl, JRep.ofInf C (C.zz (by assumption)) (by omega) (by omega)⟩)
    | (exact ⟨_, _, _, rfl, scaled_pt C (C.nzz (by assumption)) hs0 hs1 (by assumption) (by assumption)⟩)
theorem ptEq {px py : Int → Int} {k X Y : Int} (h : X = px k ∧ Y = py k) : t2 (.int X) (.int Y) = pt px py k := by obtain ⟨rfl, rfl⟩ := h; rfl
theorem hofplainA (C : Crv P N px py) {k : Int} {v : AV} (h : AP P N px py k v) : ACon prog w 20 300 533 (a1 v) (fun av => av = pt px py k) := by
  rcases h with ⟨k0, rfl⟩ | ⟨kn, rfl⟩
  · refine fn_ok (D := 19) (U := 297) (f533 w) (by rfl) (b533 w) ?_
    repeat' (first | intro _ | apply And.intro)
    all_goals first
      | (assumption)
      | (decide)
      | (rfl)
      | (exact big_lit (by decide) (by decide))
      | (exact big_of (by assumption) (by assumption) (by assumption))
      | (exact big_sub (by assumption) (by assumption) (by assumption) (by assumption) (by assumption))
      | (exact Or.inl (big_lit (by decide) (by decide)))
      | (exact Or.inl (big_of (by assumption) (by assumption) (by assumption)))
      | (exact Or.inl (big_sub (by assumption) (by assumption) (by assumption) (by assumption) (by assumption)))
      | (exact Or.inr (big_lit (by decide) (by decide)))
      | (exact Or.inr (big_of (by assumption) (by assumption) (by assumption)))
      | (exact Or.inr (big_sub (by assumption) (by assumption) (by assumption) (by assumption) (by assumption)))
      | (exact ptEq (C.infT (by assumption)))
  · refine fn_ok (D := 19) (U := 297) (f533 w) (by rfl) (b533 w) ?_
    repeat' (first | intro _ | apply And.intro)
    all_goals first
      | (assumption)
      | (decide)
      | (rfl)
      | (exact big_lit (by decide) (by decide))
      | (exact big_of (by assumption) (by assumption) (by assumption))
      | (exact big_sub (by assumption) (by assumption) (by assumption) (by assumption) (by assumption))
      | (exact Or.inl (big_lit (by decide) (by decide)))
      | (exact Or.inl (big_of (by assumption) (by assumption) (by assumption)))
      | (exact Or.inl (big_sub (by assumption) (by assumption) (by assumption) (by assumption) (by assumption)))
      | (exact Or.inr (big_lit (by decide) (by decide)))
      | (exact Or.inr (big_of (by assumption) (by assumption) (by assumption)))
      | (exact Or.inr (big_sub (by assumption) (by assumption) (by assumption) (by assumption) (by assumption)))
      | (rfl)
theorem htold1A (C : Crv P N px py) {k : Int} {v : AV} (h : QP P N px py k v) : ACon prog w 60 900 526 (a2 v (.fn 449)) (fun av => av = pt px py k) := by
  have hP := C.prm.pos
  have hP2 := C.prm.2.1
  have hprm := C.prm
  obtain ⟨X1, Y1, Z1, rfl, hp1⟩ := h
  obtain ⟨bX01, bX11⟩ := hp1.1
  obtain ⟨bY01, bY11⟩ := hp1.2.1
  obtain ⟨bZ01, bZ11⟩ := hp1.2.2.1
  refine fn_ok (D := 59) (U := 897) (f526 w) (by rfl) (b526 w) ?_
  repeat' (first | (refine (isinfA hprm bZ01 bZ11).use (by decide) (by decide) ?_; rintro _ (⟨rfl, heq⟩ | ⟨rfl, heq⟩)) | (refine (onorm1A C hp1 (by assumption)).use (by decide) (by decide) ?_; rintro _ rfl) | intro _ | apply And.intro)
  all_goals first
    | (assumption)
    | (decide)
    | (rfl)
    | (exact big_lit (by decide) (by decide))
    | (exact big_of (by assumption) (by assumption) (by assumption))
    | (exact big_sub (by assumption) (by assumption) (by assumption) (by assumption) (by assumption))
    | (exact Or.inl (big_lit (by decide) (by decide)))
    | (exact Or.inl (big_of (by assumption) (by assumption) (by assumption)))
    | (exact Or.inl (big_sub (by assumption) (by assumption) (by assumption) (by assumption) (by assumption)))
    | (exact Or.inr (big_lit (by decide) (by decide)))
    | (exact Or.inr (big_of (by assumption) (by assumption) (by assumption)))
    | (exact Or.inr (big_sub (by assumption) (by assumption) (by assumption) (by assumption) (by assumption)))
    | (exact ptEq (C.infT (hp1.z0 C (by first | assumption | omega))))
    | (rfl)
theorem htold2A (C : Crv P N px py) {k : Int} {v : AV} (h : QP P N px py k v) : ACon prog w 60 900 526 (a2 v (.fn 484)) (fun av => av = pt px py k) := by
  have hP := C.prm.pos
  have hP2 := C.prm.2.1
  have hprm := C.prm
  obtain ⟨X1, Y1, Z1, rfl, hp1⟩ := h
  obtain ⟨bX01, bX11⟩ := hp1.1
  obtain ⟨bY01, bY11⟩ := hp1.2.1
  obtain ⟨bZ01, bZ11⟩ := hp1.2.2.1
  refine fn_ok (D := 59) (U := 897) (f526 w) (by rfl) (b526 w) ?_
  repeat' (first | (refine (isinfA hprm bZ01 bZ11).use (by decide) (by decide) ?_; rintro _ (⟨rfl, heq⟩ | ⟨rfl, heq⟩)) | (refine (onorm2A C hp1 (by assumption)).use (by decide) (by decide) ?_; rintro _ rfl) | intro _ | apply And.intro)
  all_goals first
    | (assumption)
    | (decide)
    | (rfl)
    | (exact big_lit (by decide) (by decide))
    | (exact big_of (by assumption) (by assumption) (by assumption))
    | (exact big_sub (by assumption) (by assumption) (by assumption) (by assumption) (by assumption))
    | (exact Or.inl (big_lit (by decide) (by decide)))
    | (exact Or.inl (big_of (by assumption) (by assumption) (by assumption)))
    | (exact Or.inl (big_sub (by assumption) (by assumption) (by assumption) (by assumption) (by assumption)))
    | (exact Or.inr (big_lit (by decide) (by decide)))
    | (exact Or.inr (big_of (by assumption) (by assumption) (by assumption)))
    | (exact Or.inr (big_sub (by assumption) (by assumption) (by assumption) (by assumption) (by assumption)))
    | (exact ptEq (C.infT (hp1.z0 C (by first | assumption | omega))))
    | (rfl)
end
end
section
noncomputable def M491 : MS := (.ret (.lst (.lcons (.tup (.lcons (.lit 19) (.lcons (.lit 13) (.lcons (.lit 0) (.lcons (.lit 2) (.lcons (.lit 4) (.lcons (.lit 16) .lnil))))))) (.lcons (.tup (.lcons (.lit 19) (.lcons (.lit 13) (.lcons (.lit 0) (.lcons (.lit 3) (.lcons (.lit 1) (.lcons (.lit 17) .lnil))))))) (.lcons (.tup (.lcons (.lit 31) (.lcons (.lit 43) (.lcons (.lit 0) (.lcons (.lit 3) (.lcons (.lit 1) (.lcons (.lit 2) .lnil))))))) (.lcons (.tup (.lcons (.lit 43) (.lcons (.lit 31) (.lcons (.lit 0) (.lcons (.lit 7) (.lcons (.lit 2) (.lcons (.lit 31) .lnil))))))) (.lcons (.tup (.lcons (.lit 67) (.lcons (.lit 79) (.lcons (.lit 0) (.lcons (.lit 7) (.lcons (.lit 2) (.lcons (.lit 22) .lnil))))))) (.lcons (.tup (.lcons (.lit 67) (.lcons (.lit 73) (.lcons (.lit 0) (.lcons (.lit 2) (.lcons (.lit 2) (.lcons (.lit 55) .lnil))))))) (.lcons (.tup (.lcons (.lit 79) (.lcons (.lit 67) (.lcons (.lit 0) (.lcons (.lit 7) (.lcons (.lit 1) (.lcons (.lit 18) .lnil))))))) (.lcons (.tup (.lcons (.lit 79) (.lcons (.lit 97) (.lcons (.lit 0) (.lcons (.lit 3) (.lcons (.lit 1) (.lcons (.lit 2) .lnil))))))) (.lcons (.tup (.lcons (.lit 127) (.lcons (.lit 127) (.lcons (.lit 0) (.lcons (.lit 7) (.lcons (.lit 1) (.lcons (.lit 32) .lnil))))))) (.lcons (.tup (.lcons (.lit 127) (.lcons (.lit 127) (.lcons (.lit 0) (.lcons (.lit 3) (.lcons (.lit 1) (.lcons (.lit 2) .lnil))))))) .lnil))))))))))))
theorem f491 (w : World) : fetch (hd.heap_1 w.params) 491 = some (0, M491) := by kernel_rfl
theorem bind0 {fd : FuncData} {ps : List Str} (h : bindArgs fd ⟨[], []⟩ = pure (ps.zip [])) : ∀ vs : List Value, vs.length = 0 → bindArgs fd ⟨vs, []⟩ = pure (ps.zip vs)
  | [], _ => h
theorem b491 (w : World) : ∀ vs : List Value, vs.length = 0 → bindArgs (fdOf (hd.heap_1 w.params) 491) ⟨vs, []⟩ = pure ((psOf (hd.heap_1 w.params) 491).zip vs) := bind0 (by kernel_rfl)
noncomputable def Xlaw0 : XS := (.asg 2 (.idx (.call0 491) (.bin .Mod (.call 498 (.lcons (.v 0) (.lcons (.lit 0) .lnil))) (.lit 10))))
theorem xlaw0 (w : World) : compX (hd.heap_1 w.params) lawScope lns (stm lawBody 0) = some Xlaw0 := by kernel_rfl
noncomputable def Xlaw1 : XS := (.swp3 3 4 5 (.tup (.lcons (.item (.v 2) 0) (.lcons (.item (.v 2) 1) (.lcons (.tup (.lcons (.item (.v 2) 4) (.lcons (.item (.v 2) 5) .lnil))) .lnil)))))
theorem xlaw1 (w : World) : compX (hd.heap_1 w.params) lawScope lns (stm lawBody 1) = some Xlaw1 := by kernel_rfl
noncomputable def Xlaw2 : XS := (.swp2 6 7 (.tup (.lcons (.bin .Mod (.call 498 (.lcons (.v 0) (.lcons (.lit 1) .lnil))) (.v 4)) (.lcons (.bin .Mod (.call 498 (.lcons (.v 0) (.lcons (.lit 2) .lnil))) (.v 4)) .lnil))))
theorem xlaw2 (w : World) : compX (hd.heap_1 w.params) lawScope lns (stm lawBody 2) = some Xlaw2 := by kernel_rfl
noncomputable def Xlaw3 : XS := (.swp2 8 9 (.tup (.lcons (.bin .Mod (.call 498 (.lcons (.v 0) (.lcons (.lit 3) .lnil))) (.lit 3)) (.lcons (.bin .Mod (.call 498 (.lcons (.v 0) (.lcons (.lit 2) .lnil))) (.lit 7)) .lnil))))
theorem xlaw3 (w : World) : compX (hd.heap_1 w.params) lawScope lns (stm lawBody 3) = some Xlaw3 := by kernel_rfl
noncomputable def Xlaw4 : XS := (.asg 10 (.lst (.lcons (.bin .Add (.lit 1) (.bin .Mod (.call 498 (.lcons (.v 0) (.lcons (.lit 4) .lnil))) (.bin .Sub (.v 3) (.lit 1)))) (.lcons (.bin .Add (.lit 1) (.bin .Mod (.call 498 (.lcons (.v 0) (.lcons (.lit 5) .lnil))) (.bin .Sub (.v 3) (.lit 1)))) .lnil))))
theorem xlaw4 (w : World) : compX (hd.heap_1 w.params) lawScope lns (stm lawBody 4) = some Xlaw4 := by kernel_rfl
noncomputable def Xlaw5 : XS := (.swp2 11 12 (.tup (.lcons (.totup (.call 70 (.lcons (.v 5) (.lcons (.v 6) (.lcons (.v 2) .lnil))))) (.lcons (.totup (.call 70 (.lcons (.v 5) (.lcons (.v 7) (.lcons (.v 2) .lnil))))) .lnil))))
theorem xlaw5 (w : World) : compX (hd.heap_1 w.params) lawScope lns (stm lawBody 5) = some Xlaw5 := by kernel_rfl
noncomputable def Xlaw6 : XS := (.cell (Str.ofString "due") (.totup (.call 70 (.lcons (.v 5) (.lcons (.bin .Mod (.idx (.lst (.lcons (.bin .Add (.v 6) (.v 7)) (.lcons (.bin .Mult (.lit 2) (.v 6)) (.lcons (.bin .Mult (.v 6) (.v 9)) .lnil)))) (.v 8)) (.v 4)) (.lcons (.v 2) .lnil))))))
theorem xlaw6 (w : World) : compX (hd.heap_1 w.params) lawScope lns (stm lawBody 6) = some Xlaw6 := by kernel_rfl
noncomputable def Xlaw7 : XS := (.swp3 14 15 16 (.tup (.lcons (.call 505 (.lcons (.v 11) (.lcons (.v 3) .lnil))) (.lcons (.call 512 (.lcons (.v 11) (.lcons (.item (.v 10) 0) (.lcons (.v 3) .lnil)))) (.lcons (.call 519 (.lcons (.v 11) (.lcons (.item (.v 10) 0) (.lcons (.v 3) .lnil)))) .lnil)))))
theorem xlaw7 (w : World) : compX (hd.heap_1 w.params) lawScope lns (stm lawBody 7) = some Xlaw7 := by kernel_rfl
noncomputable def XA0 : XS := (.asg 17 (.call 512 (.lcons (.v 12) (.lcons (.item (.v 10) 1) (.lcons (.v 3) .lnil)))))
theorem xA0 (w : World) : compX (hd.heap_1 w.params) lawScope lns (stm armA 0) = some XA0 := by kernel_rfl
noncomputable def XA1 : XS := (.asg 18 (.lst (.lcons (.call 533 (.lcons (.call 98 (.lcons (.v 14) (.lcons (.call 505 (.lcons (.v 12) (.lcons (.v 3) .lnil))) .lnil))) .lnil)) (.lcons (.call 526 (.lcons (.call 470 (.lcons (.v 15) (.lcons (.v 17) .lnil))) (.lcons (.fnv 484) .lnil))) .lnil))))
theorem xA1 (w : World) : compX (hd.heap_1 w.params) lawScope lns (stm armA 1) = some XA1 := by kernel_rfl
noncomputable def XA2 : XS := (.asg 18 (.bin .Add (.v 18) (.lst (.lcons (.call 526 (.lcons (.call 435 (.lcons (.v 15) (.lcons (.v 17) .lnil))) (.lcons (.fnv 449) .lnil))) (.lcons (.totup (.call 77 (.lcons (.v 11) (.lcons (.v 12) (.lcons (.v 2) .lnil))))) .lnil)))))
theorem xA2 (w : World) : compX (hd.heap_1 w.params) lawScope lns (stm armA 2) = some XA2 := by kernel_rfl
noncomputable def XA3 : XS := (.app 18 (.totup (.call 56 (.lcons (.call 49 (.lcons (.v 16) (.lcons (.call 519 (.lcons (.v 12) (.lcons (.item (.v 10) 1) (.lcons (.v 3) .lnil)))) (.lcons (.v 2) .lnil)))) (.lcons (.v 2) .lnil)))))
theorem xA3 (w : World) : compX (hd.heap_1 w.params) lawScope lns (stm armA 3) = some XA3 := by kernel_rfl
noncomputable def XB0 : XS := (.asg 18 (.lst (.lcons (.call 533 (.lcons (.call 91 (.lcons (.v 14) .lnil)) .lnil)) (.lcons (.call 526 (.lcons (.call 463 (.lcons (.v 15) .lnil)) (.lcons (.fnv 484) .lnil))) (.lcons (.call 526 (.lcons (.call 428 (.lcons (.v 15) .lnil)) (.lcons (.fnv 449) .lnil))) .lnil)))))
theorem xB0 (w : World) : compX (hd.heap_1 w.params) lawScope lns (stm armB 0) = some XB0 := by kernel_rfl
noncomputable def XB1 : XS := (.app 18 (.totup (.call 56 (.lcons (.call 42 (.lcons (.v 16) (.lcons (.v 2) .lnil))) (.lcons (.v 2) .lnil)))))
theorem xB1 (w : World) : compX (hd.heap_1 w.params) lawScope lns (stm armB 1) = some XB1 := by kernel_rfl
noncomputable def XC0 : XS := (.asg 18 (.lst (.lcons (.call 533 (.lcons (.call 105 (.lcons (.v 14) (.lcons (.v 9) .lnil))) .lnil)) (.lcons (.call 526 (.lcons (.call 477 (.lcons (.v 15) (.lcons (.v 9) .lnil))) (.lcons (.fnv 484) .lnil))) .lnil))))
theorem xC0 (w : World) : compX (hd.heap_1 w.params) lawScope lns (stm armC 0) = some XC0 := by kernel_rfl
noncomputable def XC1 : XS := (.asg 18 (.bin .Add (.v 18) (.lst (.lcons (.call 526 (.lcons (.call 442 (.lcons (.v 15) (.lcons (.v 9) .lnil))) (.lcons (.fnv 449) .lnil))) (.lcons (.totup (.call 70 (.lcons (.v 11) (.lcons (.v 9) (.lcons (.v 2) .lnil))))) .lnil)))))
theorem xC1 (w : World) : compX (hd.heap_1 w.params) lawScope lns (stm armC 1) = some XC1 := by kernel_rfl
noncomputable def XC2 : XS := (.app 18 (.totup (.call 56 (.lcons (.call 63 (.lcons (.v 16) (.lcons (.v 9) (.lcons (.v 2) .lnil)))) (.lcons (.v 2) .lnil)))))
theorem xC2 (w : World) : compX (hd.heap_1 w.params) lawScope lns (stm armC 2) = some XC2 := by kernel_rfl
theorem xT1 (w : World) : comp (hd.heap_1 w.params) lawScope lns 30 (ifT (stm lawBody 8)) = some (.cmp .Eq (.v 8) (.lit 0)) := by kernel_rfl
theorem xT2 (w : World) : comp (hd.heap_1 w.params) lawScope lns 30 (ifT armI) = some (.cmp .Eq (.v 8) (.lit 1)) := by kernel_rfl
theorem lawBody_eq : lawBody = [stm lawBody 0, stm lawBody 1, stm lawBody 2, stm lawBody 3, stm lawBody 4, stm lawBody 5, stm lawBody 6, stm lawBody 7, stm lawBody 8, stm lawBody 9] := by kernel_rfl
theorem armA_eq : armA = [stm armA 0, stm armA 1, stm armA 2, stm armA 3] := by kernel_rfl
theorem armB_eq : armB = [stm armB 0, stm armB 1] := by kernel_rfl
theorem armC_eq : armC = [stm armC 0, stm armC 1, stm armC 2] := by kernel_rfl
theorem stm8_eq : stm lawBody 8 = .If (ifT (stm lawBody 8)) armA [armI] (ifP (stm lawBody 8)) := by kernel_rfl
theorem armI_eq : armI = .If (ifT armI) armB armC (ifP armI) := by kernel_rfl
section
variable {prog : Program} {w : World}
theorem curvesA : ACon prog w 4 60 491 .lnil (fun av => ∃ l, av = .lst l ∧ l.len = 10 ∧ ∀ j v, l.nth j = some v → ∃ P N b gx gy, v = cur P N b gx gy ∧ CurveOK P N gx gy) := by
  refine fn_ok (D := 3) (U := 57) (f491 w) (by rfl) (b491 w) ?_
  refine ⟨_, rfl, rfl, ?_⟩
  intro j v h
  cases j with
  | zero => cases h; exact ⟨_, _, _, _, _, rfl, cok0⟩
  | succ j =>
    cases j with
    | zero => cases h; exact ⟨_, _, _, _, _, rfl, cok1⟩
    | succ j =>
      cases j with
      | zero => cases h; exact ⟨_, _, _, _, _, rfl, cok2⟩
      | succ j =>
        cases j with
        | zero => cases h; exact ⟨_, _, _, _, _, rfl, cok3⟩
        | succ j =>
          cases j with
          | zero => cases h; exact ⟨_, _, _, _, _, rfl, cok4⟩
          | succ j =>
            cases j with
            | zero => cases h; exact ⟨_, _, _, _, _, rfl, cok5⟩
            | succ j =>
              cases j with
              | zero => cases h; exact ⟨_, _, _, _, _, rfl, cok6⟩
              | succ j =>
                cases j with
                | zero => cases h; exact ⟨_, _, _, _, _, rfl, cok7⟩
                | succ j =>
                  cases j with
                  | zero => cases h; exact ⟨_, _, _, _, _, rfl, cok8⟩
                  | succ j =>
                    cases j with
                    | zero => cases h; exact ⟨_, _, _, _, _, rfl, cok9⟩
                    | succ j =>
                      cases h
noncomputable def LCO (prog : Program) (w : World) (sa : Addr) (f : Addr) (l : AV) (Φ : AV → Prop) : Prop :=
  ACon prog w 250 3000 f l Φ ∨ (f = 498 ∧ ∃ k, l = a2 (.opq sa) (.int k) ∧ 0 ≤ k ∧ k ≤ 5 ∧ ∀ n, Φ (.int n))
theorem LCO.std {sa f : Addr} {l : AV} {Φ : AV → Prop} (h : ACon prog w 250 3000 f l Φ) : LCO prog w sa f l Φ := .inl h
theorem LCO.at {sa : Addr} {k : Int} {Φ : AV → Prop} (h0 : 0 ≤ k) (h5 : k ≤ 5) (h : ∀ n, Φ (.int n)) : LCO prog w sa 498 (a2 (.opq sa) (.int k)) Φ := .inr ⟨rfl, k, rfl, h0, h5, h⟩
noncomputable def allIs (a : AV) : AV → Prop
  | .lcons b l => b = a ∧ allIs a l
  | .lnil => True
  | _ => False
noncomputable def r1 (sa : Addr) (P NN b : Int) (px py : Int → Int) : Rho := (2, cur P NN b (px 1) (py 1)) :: [(0, .opq sa)]
noncomputable def r2 (sa : Addr) (P NN b : Int) (px py : Int → Int) : Rho := (3, .int P) :: (4, .int NN) :: (5, pt px py 1) :: r1 sa P NN b px py
noncomputable def r3 (sa : Addr) (P NN b : Int) (px py : Int → Int) (mm nn : Int) : Rho := (6, .int mm) :: (7, .int nn) :: r2 sa P NN b px py
noncomputable def r4 (sa : Addr) (P NN b : Int) (px py : Int → Int) (mm nn : Int) (way cnt : Int) : Rho := (8, .int way) :: (9, .int cnt) :: r3 sa P NN b px py mm nn
noncomputable def r5 (sa : Addr) (P NN b : Int) (px py : Int → Int) (mm nn : Int) (way cnt : Int) (s0 s1 : Int) : Rho := (10, .lst (a2 (.int s0) (.int s1))) :: r4 sa P NN b px py mm nn way cnt
noncomputable def r6 (sa : Addr) (P NN b : Int) (px py : Int → Int) (mm nn : Int) (way cnt : Int) (s0 s1 : Int) : Rho := (11, pt px py mm) :: (12, pt px py nn) :: r5 sa P NN b px py mm nn way cnt s0 s1
noncomputable def r7 (sa : Addr) (P NN b : Int) (px py : Int → Int) (mm nn : Int) (way cnt : Int) (s0 s1 : Int) (pl : AV) (X Y Z A B D : Int) : Rho := (14, pl) :: (15, q3 P X Y Z) :: (16, j3 A B D) :: r6 sa P NN b px py mm nn way cnt s0 s1
noncomputable def r8 (sa : Addr) (P NN b : Int) (px py : Int → Int) (mm nn : Int) (way cnt : Int) (s0 s1 : Int) (pl : AV) (X Y Z A B D : Int) (X' Y' Z' : Int) : Rho := (17, q3 P X' Y' Z') :: r7 sa P NN b px py mm nn way cnt s0 s1 pl X Y Z A B D
theorem all_pt {led : Led} {px py : Int → Int} {k : Int} : ∀ {l : AV} {vs : List Value}, Reps w led vs l → allIs (pt px py k) l → ∀ v ∈ vs, ∃ q t u, v = .ref q ∧ (q, tup2 (px k) (py k) t u) ∈ led := by
  intro l
  induction l with
  | lcons a l _ ih =>
    intro vs hr ha v hv
    cases hr with
    | cons x y =>
      rcases List.mem_cons.mp hv with rfl | hv
      · obtain ⟨rfl, _⟩ := ha
        cases x with
        | tup hm hs => cases hs with
          | cons p q => cases q with
            | cons q r => cases r; cases p; cases q; exact ⟨_, _, _, rfl, hm⟩
      · exact ih y ha.2 v hv
  | lnil => intro vs hr _ v hv; cases hr; cases hv
  | _ => intro vs hr; cases hr
section
variable {p : Program} {loose : List Str} {mean : ExcName → Option Value} {mg mb : Str → Option Value} {dp un : Nat} {gd : Option (List Code)} {cn : Str} {a : Addr} {ccd : Value} {outer : List Env} {A₀ : Around} {base h₀ : Heap} {L c sa : Addr} {vs : List Value} {ns : List Int}
theorem law_O (B : Below A₀ base outer h₀) (X : (hd.heap_1 w.params).In h₀) (T : Top p loose mean mg mb h₀) (hd : dp + 250 < 900) (hu : un + 3000 < 8000) (hl : h₀.IsList sa vs.toArray) (hi : IntsAre vs ns) (hlen : ns.length ≤ 63) :
    (lawH p loose mean mg mb dp un gd cn a ccd outer A₀ base h₀ L c).Ok prog w (LCO prog w sa) where
  X := X
  T := T
  hk := by kernel_rfl
  hu := by show un < 9000; omega
  co := by
    intro f l Φ hA vs' led s m Q E F N hr k
    rcases hA with hA | ⟨rfl, j, rfl, h0, h5, hn⟩
    · exact acon_co (H := lawH p loose mean mg mb dp un gd cn a ccd outer A₀ base h₀ L c) B X T (by kernel_rfl) hd (by show un + 3000 < 9000; omega) hA F N hr k
    · cases hr with
      | cons x y => cases x; cases y with
        | cons x y => cases x; cases y; exact at_con B F X N T (by kernel_rfl) (by show dp < 800; omega) (by show un < 8000; omega) hl hi hlen h0 h5 fun n u h' tk' F' N' => k _ _ h' tk' led F' N' (fun _ h => h) .int (hn n)
variable {s : Shared} {m : Str → Option Value} {led : Led} {Q : Flow → Shared → Prop} {E : Value → Shared → Prop}
theorem law_fin {px py : Int → Int} {T : Int} {ρ : Rho} {v : Value} {oc : Obj} (hu : un < 9000) (F : Fr h₀ L s.heap m) (N : News h₀ L s.heap led) (R : EnvR w lns led m ρ) (ht : ∃ l, lk ρ 18 = some (.lst l) ∧ allIs (pt px py T) l ∧ l.len < 1000)
    (hv : Rep w led v (pt px py T)) (hc : (c, oc) ∈ led) (hoc : oc.data = .cell (some v))
    (k : ∀ h' tk' led' m', Fr h₀ L h' m' → News h₀ L h' led' → Q (.ret (.bool true)) { s with heap := h', toks := tk' }) :
    wpAny (model prog w) (lawH p loose mean mg mb dp un gd cn a ccd outer A₀ base h₀ L c).A (execs [stm lawBody 9] (lawH p loose mean mg mb dp un gd cn a ccd outer A₀ base h₀ L c).env) Q E s := by
  obtain ⟨l, h1, h2, h3⟩ := ht
  obtain ⟨u, hm, hr⟩ := R (Str.ofString "told") 18 _ (by kernel_rfl) h1
  cases hr with
  | lst hmem hrs =>
    have hl9 := hrs.len
    cases hv with
    | tup hy hs => cases hs with
      | cons x y => cases y with
        | cons y z => cases z; cases x; cases y; exact wpAny_execs_cons (ret_ok hu F N hm hmem (by omega) (all_pt hrs h2) hc hoc hy fun h' tk' led' F' N' => k h' tk' led' m F' N')
theorem due_eq {P N : Int} {px py : Int → Int} (C : Crv P N px py) {x T : Int} (h : x = T % N) : pt px py (1 * x) = pt px py T := by
  obtain ⟨e1, e2⟩ := C.per (1 * x) T (by rw [h, Int.one_mul, Int.emod_emod])
  show t2 _ _ = t2 _ _
  rw [e1, e2]
theorem law_ok (B : Below A₀ base outer h₀) (X : (hd.heap_1 w.params).In h₀) (T : Top p loose mean mg mb h₀) (hd : dp + 250 < 900) (hu : un + 3000 < 8000) (hl : h₀.IsList sa vs.toArray) (hi : IntsAre vs ns) (hlen : ns.length ≤ 63)
    (F : Fr h₀ L s.heap m) {oc : Obj} (N : News h₀ L s.heap led) (hm : m (Str.ofString "script") = some (.ref sa)) (hc : (c, oc) ∈ led) (hoc : oc.data = .cell none)
    (hk : ∀ h' tk' led' m', Fr h₀ L h' m' → News h₀ L h' led' → Q (.ret (.bool true)) { s with heap := h', toks := tk' }) :
    wpAny (model prog w) (lawH p loose mean mg mb dp un gd cn a ccd outer A₀ base h₀ L c).A (execs lawBody (lawH p loose mean mg mb dp un gd cn a ccd outer A₀ base h₀ L c).env) Q E s := by
  have O := law_O (prog := prog) (gd := gd) (cn := cn) (a := a) (ccd := ccd) (L := L) (c := c) B X T hd hu hl hi hlen
  have R0 : EnvR w lns led m [(0, .opq sa)] := by
    intro x i av h1 h2
    simp only [lk] at h2
    split at h2
    · rename_i hi9
      cases h2
      have := Nat.eq_of_beq_eq_true hi9
      subst this
      have hx : x = Str.ofString "script" := idx_inj h1 (by kernel_rfl)
      subst hx
      exact ⟨_, hm, .opq⟩
    · cases h2
  rw [lawBody_eq]
  refine wpAny_execs_cons (xs_ok O (xlaw0 w) (by intro _ _ e; cases e) (C := fun _ => False) (Nx := fun ρ' => ∃ P N b px py, Crv P N px py ∧ ρ' = (2, cur P N b (px 1) (py 1)) :: [(0, .opq sa)]) ?_ F N R0 ?_)
  · refine LCO.std (curvesA.use (by decide) (by decide) ?_)
    rintro _ ⟨l, rfl, hl1, hl2⟩
    refine LCO.at (by decide) (by decide) ?_
    intro n
    refine ⟨by decide, fun r _ h0 h1 => ⟨⟨h0, by omega, by omega⟩, fun v hv => ?_⟩⟩
    obtain ⟨P, N, b, gx, gy, rfl, px, py, C, rfl, rfl⟩ := hl2 _ _ hv
    exact ⟨P, N, b, px, py, C, rfl⟩
  rintro _ h1 tk1 led1 m1 F1 N1 U1 R1 ⟨P, NN, b, px, py, C, rfl⟩
  have hP := C.prm.pos
  have hP2 := C.prm.2.1
  have hbig := C.big
  have hN7 := C.n7
  have hN1 := C.n1000
  refine wpAny_execs_cons (xs_ok O (xlaw1 w) (by intro _ _ e; cases e) (C := fun _ => False) (Nx := fun ρ' => ρ' = r2 sa P NN b px py) ?_ F1 N1 R1 ?_)
  · rfl
  rintro _ h2 tk2 led2 m2 F2 N2 U2 R2 rfl
  refine wpAny_execs_cons (xs_ok O (xlaw2 w) (by intro _ _ e; cases e) (C := fun _ => False) (Nx := fun ρ' => ∃ m n, (0 ≤ m ∧ m < NN) ∧ (0 ≤ n ∧ n < NN) ∧ ρ' = (6, .int m) :: (7, .int n) :: r2 sa P NN b px py) ?_ F2 N2 R2 ?_)
  · refine LCO.at (by decide) (by decide) fun n1 => ⟨by omega, fun r1 _ h01 h11 => ?_⟩
    refine LCO.at (by decide) (by decide) fun n2 => ⟨by omega, fun r2 _ h02 h12 => ?_⟩
    exact ⟨r1, r2, ⟨h01, h11⟩, ⟨h02, h12⟩, rfl⟩
  rintro _ h3 tk3 led3 m3 F3 N3 U3 R3 ⟨mm, nn, ⟨hm0, hm1⟩, ⟨hn0, hn1⟩, rfl⟩
  refine wpAny_execs_cons (xs_ok O (xlaw3 w) (by intro _ _ e; cases e) (C := fun _ => False) (Nx := fun ρ' => ∃ way cnt T, ((way = 0 ∧ T = mm + nn) ∨ (way = 1 ∧ T = 2 * mm) ∨ (way = 2 ∧ T = mm * cnt)) ∧ (0 ≤ cnt ∧ cnt < 7) ∧ ρ' = r4 sa P NN b px py mm nn way cnt) ?_ F3 N3 R3 ?_)
  · refine LCO.at (by decide) (by decide) fun n1 => ⟨by omega, fun r1 _ h01 h11 => ?_⟩
    refine LCO.at (by decide) (by decide) fun n2 => ⟨by omega, fun r2 _ h02 h12 => ?_⟩
    rcases (by omega : r1 = 0 ∨ r1 = 1 ∨ r1 = 2) with rfl | rfl | rfl
    · exact ⟨0, r2, _, .inl ⟨rfl, rfl⟩, ⟨h02, h12⟩, rfl⟩
    · exact ⟨1, r2, _, .inr (.inl ⟨rfl, rfl⟩), ⟨h02, h12⟩, rfl⟩
    · exact ⟨2, r2, _, .inr (.inr ⟨rfl, rfl⟩), ⟨h02, h12⟩, rfl⟩
  rintro _ h4 tk4 led4 m4 F4 N4 U4 R4 ⟨way, cnt, TT, hway, ⟨hc0, hc1⟩, rfl⟩
  refine wpAny_execs_cons (xs_ok O (xlaw4 w) (by intro _ _ e; cases e) (C := fun _ => False) (Nx := fun ρ' => ∃ s0 s1, (1 ≤ s0 ∧ s0 < P) ∧ (1 ≤ s1 ∧ s1 < P) ∧ ρ' = r5 sa P NN b px py mm nn way cnt s0 s1) ?_ F4 N4 R4 ?_)
  · refine LCO.at (by decide) (by decide) fun n1 => ⟨by omega, fun r1 _ h01 h11 => ?_⟩
    refine LCO.at (by decide) (by decide) fun n2 => ⟨by omega, fun r2 _ h02 h12 => ?_⟩
    exact ⟨1 + r1, 1 + r2, ⟨by omega, by omega⟩, ⟨by omega, by omega⟩, rfl⟩
  rintro _ h5 tk5 led5 m5 F5 N5 U5 R5 ⟨s0, s1, ⟨hs00, hs01⟩, ⟨hs10, hs11⟩, rfl⟩
  refine wpAny_execs_cons (xs_ok O (xlaw5 w) (by intro _ _ e; cases e) (C := fun _ => False) (Nx := fun ρ' => ρ' = r6 sa P NN b px py mm nn way cnt s0 s1) ?_ F5 N5 R5 ?_)
  · refine LCO.std ((smulA (k := 1) C hm0 hm1).use (by decide) (by decide) ?_)
    rintro _ rfl
    refine LCO.std ((smulA (k := 1) C hn0 hn1).use (by decide) (by decide) ?_)
    rintro _ rfl
    show (11, pt px py (1 * mm)) :: (12, pt px py (1 * nn)) :: _ = _
    rw [Int.one_mul, Int.one_mul]
    rfl
  rintro _ h6 tk6 led6 m6 F6 N6 U6 R6 rfl
  have U06 := ((((U1.trans U2).trans U3).trans U4).trans U5).trans U6
  refine wpAny_execs_cons (xc_ok O (xlaw6 w) (C := fun av => av = pt px py TT) (by rfl) (U06.cell _ _ _ hoc hc) hoc ?_ F6 N6 R6 ?_)
  · have hbm : big mm := ⟨by omega, by omega⟩
    refine ⟨.inr hbm, .inl hbm, ?_⟩
    have fin : ∀ x, x = TT % NN → 0 ≤ x → x < NN → LCO prog w sa 70 (a3 (pt px py 1) (.int x) (cur P NN b (px 1) (py 1))) (fun x => match x with | .tup n => AV.tup n = pt px py TT | _ => False) := by
      intro x hx hx0 hx1
      refine LCO.std ((smulA (k := 1) C hx0 hx1).use (by decide) (by decide) ?_)
      rintro _ rfl
      exact due_eq C hx
    rcases hway with ⟨rfl, rfl⟩ | ⟨rfl, rfl⟩ | ⟨rfl, rfl⟩
    · refine ⟨⟨by decide, (show (0 : Int) < ((3 : Nat) : Int) by decide), by decide⟩, fun v hv => ?_⟩
      cases hv
      exact ⟨by omega, fun r hr h0 h1 => fin r hr h0 h1⟩
    · refine ⟨⟨by decide, (show (1 : Int) < ((3 : Nat) : Int) by decide), by decide⟩, fun v hv => ?_⟩
      cases hv
      exact ⟨by omega, fun r hr h0 h1 => fin r hr h0 h1⟩
    · refine ⟨⟨by decide, (show (2 : Int) < ((3 : Nat) : Int) by decide), by decide⟩, fun v hv => ?_⟩
      cases hv
      exact ⟨by omega, fun r hr h0 h1 => fin r hr h0 h1⟩
  rintro vd _ h7 tk7 led7 oc7 F7 N7 R7 hvd hc7 hoc7 rfl
  refine wpAny_execs_cons (xs_ok O (xlaw7 w) (by intro _ _ e; cases e) (C := fun _ => False) (Nx := fun ρ' => ∃ pl X Y Z A B D, AP P NN px py mm pl ∧ PRep P NN px py mm X Y Z ∧ JRep P NN px py mm A B D ∧ ρ' = r7 sa P NN b px py mm nn way cnt s0 s1 pl X Y Z A B D) ?_ F7 N7 R7 ?_)
  · refine LCO.std ((hplainA (k := mm) C).use (by decide) (by decide) fun pl hpl => ?_)
    refine ⟨by decide, ?_⟩
    refine LCO.std ((hquickA (k := mm) C hs00 hs01).use (by decide) (by decide) ?_)
    rintro _ ⟨X, Y, Z, rfl, hq⟩
    refine ⟨by decide, ?_⟩
    refine LCO.std ((hscaledA (k := mm) C hs00 hs01).use (by decide) (by decide) ?_)
    rintro _ ⟨A, B, D, rfl, hj⟩
    exact ⟨pl, X, Y, Z, A, B, D, hpl, hq, hj, rfl⟩
  rintro _ h8 tk8 led8 m8 F8 N8 U8 R8 ⟨pl, X, Y, Z, A, B, D, hpl, hq, hj, rfl⟩
  have hvd8 := U8.rep _ _ rfl hvd
  have hc8 := U8.cell _ _ _ hoc7 hc7
  rw [stm8_eq]
  refine wpAny_execs_cons (xi_ok O (xT1 w) (T := way = 0) (F' := way ≠ 0) ?_ F8 N8 R8 ?_ ?_)
  · exact ⟨fun h => h, fun h => h⟩
  · intro h9 tk9 led9 F9 N9 S9 hw0
    have R9 := R8.mono S9
    have hvd9 := hvd8.mono S9
    have hc9 := S9 _ hc8
    obtain rfl : TT = mm + nn := by omega
    rw [armA_eq]
    refine wpAny_execs_cons (xs_ok O (xA0 w) (by intro _ _ e; cases e) (C := fun _ => False) (Nx := fun ρ' => ∃ X' Y' Z', PRep P NN px py nn X' Y' Z' ∧ ρ' = r8 sa P NN b px py mm nn way cnt s0 s1 pl X Y Z A B D X' Y' Z') ?_ F9 N9 R9 ?_)
    · refine ⟨by decide, ?_⟩
      refine LCO.std ((hquickA (k := nn) C hs10 hs11).use (by decide) (by decide) ?_)
      rintro _ ⟨X', Y', Z', rfl, hq'⟩
      exact ⟨X', Y', Z', hq', rfl⟩
    rintro _ h10 tk10 led10 m10 F10 N10 U10 R10 ⟨X', Y', Z', hq', rfl⟩
    refine wpAny_execs_cons (xs_ok O (xA1 w) (by intro _ _ e; cases e) (C := fun _ => False) (Nx := fun ρ' => ρ' = (18, .lst (a2 (pt px py (mm + nn)) (pt px py (mm + nn)))) :: r8 sa P NN b px py mm nn way cnt s0 s1 pl X Y Z A B D X' Y' Z') ?_ F10 N10 R10 ?_)
    · refine LCO.std ((hplainA (k := nn) C).use (by decide) (by decide) fun pl' hpl' => ?_)
      refine LCO.std ((baddA C hpl hpl').use (by decide) (by decide) fun v1 hv1 => ?_)
      refine LCO.std ((hofplainA C hv1).use (by decide) (by decide) ?_)
      rintro _ rfl
      refine LCO.std ((oadd2A C ⟨_, _, _, rfl, hq⟩ ⟨_, _, _, rfl, hq'⟩).use (by decide) (by decide) fun v2 hv2 => ?_)
      refine LCO.std ((htold2A C hv2).use (by decide) (by decide) ?_)
      rintro _ rfl
      rfl
    rintro _ h11 tk11 led11 m11 F11 N11 U11 R11 rfl
    refine wpAny_execs_cons (xs_ok O (xA2 w) (by intro _ _ e; cases e) (C := fun _ => False) (Nx := fun ρ' => ρ' = (18, .lst (.lcons (pt px py (mm + nn)) (.lcons (pt px py (mm + nn)) (.lcons (pt px py (mm + nn)) (.lcons (pt px py (mm + nn)) .lnil))))) :: (18, .lst (a2 (pt px py (mm + nn)) (pt px py (mm + nn)))) :: r8 sa P NN b px py mm nn way cnt s0 s1 pl X Y Z A B D X' Y' Z') ?_ F11 N11 R11 ?_)
    · refine LCO.std ((oadd1A C ⟨_, _, _, rfl, hq⟩ ⟨_, _, _, rfl, hq'⟩).use (by decide) (by decide) fun v2 hv2 => ?_)
      refine LCO.std ((htold1A C hv2).use (by decide) (by decide) ?_)
      rintro _ rfl
      refine LCO.std ((saddA (j := mm) (k := nn) C).use (by decide) (by decide) ?_)
      rintro _ rfl
      exact ⟨Nat.le_of_ble_eq_true rfl, rfl⟩
    rintro _ h12 tk12 led12 m12 F12 N12 U12 R12 rfl
    refine wpAny_execs_cons (xs_ok O (xA3 w) (by intro _ _ e; cases e) (C := fun _ => False) (Nx := fun ρ' => ∃ l, lk ρ' 18 = some (.lst l) ∧ allIs (pt px py (mm + nn)) l ∧ l.len < 1000) ?_ F12 N12 R12 ?_)
    · refine ⟨by decide, ?_⟩
      refine LCO.std ((hscaledA (k := nn) C hs10 hs11).use (by decide) (by decide) ?_)
      rintro _ ⟨A', B', D', rfl, hj'⟩
      refine LCO.std ((jaddA C hj hj').use (by decide) (by decide) ?_)
      rintro _ ⟨A2, B2, D2, rfl, hj2⟩
      refine LCO.std ((fromjA C hj2).use (by decide) (by decide) ?_)
      rintro _ rfl
      exact ⟨⟨rfl, rfl, Nat.le_of_ble_eq_true rfl⟩, _, rfl, ⟨rfl, rfl, rfl, rfl, rfl, trivial⟩, Nat.le_of_ble_eq_true rfl⟩
    rintro _ h13 tk13 led13 m13 F13 N13 U13 R13 ht
    have U := ((U10.trans U11).trans U12).trans U13
    exact wpAny_execs_nil (law_fin (by omega) F13 N13 R13 ht (U.rep _ _ rfl hvd9) (U.cell _ _ _ hoc7 hc9) hoc7 fun h' tk' led' m' F' N' => hk h' tk' led' m' F' N')
  · intro h9 tk9 led9 F9 N9 S9 hw0
    have R9 := R8.mono S9
    have hvd9 := hvd8.mono S9
    have hc9 := S9 _ hc8
    rw [armI_eq]
    refine wpAny_execs_cons (xi_ok O (xT2 w) (T := way = 1) (F' := way ≠ 1) ?_ F9 N9 R9 ?_ ?_)
    · exact ⟨fun h => h, fun h => h⟩
    · intro h10 tk10 led10 F10 N10 S10 hw1
      have R10 := R9.mono S10
      have hvd10 := hvd9.mono S10
      have hc10 := S10 _ hc9
      obtain rfl : TT = 2 * mm := by omega
      rw [armB_eq]
      refine wpAny_execs_cons (xs_ok O (xB0 w) (by intro _ _ e; cases e) (C := fun _ => False) (Nx := fun ρ' => ρ' = (18, .lst (a3 (pt px py (2 * mm)) (pt px py (2 * mm)) (pt px py (2 * mm)))) :: r7 sa P NN b px py mm nn way cnt s0 s1 pl X Y Z A B D) ?_ F10 N10 R10 ?_)
      · refine LCO.std ((bdblA C hpl).use (by decide) (by decide) fun v1 hv1 => ?_)
        refine LCO.std ((hofplainA C hv1).use (by decide) (by decide) ?_)
        rintro _ rfl
        refine LCO.std ((odbl2A C ⟨_, _, _, rfl, hq⟩).use (by decide) (by decide) fun v2 hv2 => ?_)
        refine LCO.std ((htold2A C hv2).use (by decide) (by decide) ?_)
        rintro _ rfl
        refine LCO.std ((odbl1A C ⟨_, _, _, rfl, hq⟩).use (by decide) (by decide) fun v2 hv2 => ?_)
        refine LCO.std ((htold1A C hv2).use (by decide) (by decide) ?_)
        rintro _ rfl
        rfl
      rintro _ h11 tk11 led11 m11 F11 N11 U11 R11 rfl
      refine wpAny_execs_cons (xs_ok O (xB1 w) (by intro _ _ e; cases e) (C := fun _ => False) (Nx := fun ρ' => ∃ l, lk ρ' 18 = some (.lst l) ∧ allIs (pt px py (2 * mm)) l ∧ l.len < 1000) ?_ F11 N11 R11 ?_)
      · refine LCO.std ((jdblA C hj).use (by decide) (by decide) ?_)
        rintro _ ⟨A2, B2, D2, rfl, hj2⟩
        refine LCO.std ((fromjA C hj2).use (by decide) (by decide) ?_)
        rintro _ rfl
        exact ⟨⟨rfl, rfl, Nat.le_of_ble_eq_true rfl⟩, _, rfl, ⟨rfl, rfl, rfl, rfl, trivial⟩, Nat.le_of_ble_eq_true rfl⟩
      rintro _ h13 tk13 led13 m13 F13 N13 U13 R13 ht
      have U := U11.trans U13
      exact wpAny_execs_nil (wpAny_execs_nil (law_fin (by omega) F13 N13 R13 ht (U.rep _ _ rfl hvd10) (U.cell _ _ _ hoc7 hc10) hoc7 fun h' tk' led' m' F' N' => hk h' tk' led' m' F' N'))
    · intro h10 tk10 led10 F10 N10 S10 hw1
      have R10 := R9.mono S10
      have hvd10 := hvd9.mono S10
      have hc10 := S10 _ hc9
      obtain rfl : TT = mm * cnt := by
        rcases hway with h | h | h
        · exact absurd h.1 hw0
        · exact absurd h.1 hw1
        · exact h.2
      rw [armC_eq]
      refine wpAny_execs_cons (xs_ok O (xC0 w) (by intro _ _ e; cases e) (C := fun _ => False) (Nx := fun ρ' => ρ' = (18, .lst (a2 (pt px py (mm * cnt)) (pt px py (mm * cnt)))) :: r7 sa P NN b px py mm nn way cnt s0 s1 pl X Y Z A B D) ?_ F10 N10 R10 ?_)
      · refine LCO.std ((bmulA C hc0 (by omega) hpl).use (by decide) (by decide) fun v1 hv1 => ?_)
        refine LCO.std ((hofplainA C hv1).use (by decide) (by decide) ?_)
        rintro _ rfl
        refine LCO.std ((omul2A C hc0 (by omega) ⟨_, _, _, rfl, hq⟩).use (by decide) (by decide) fun v2 hv2 => ?_)
        refine LCO.std ((htold2A C hv2).use (by decide) (by decide) ?_)
        rintro _ rfl
        rfl
      rintro _ h11 tk11 led11 m11 F11 N11 U11 R11 rfl
      refine wpAny_execs_cons (xs_ok O (xC1 w) (by intro _ _ e; cases e) (C := fun _ => False) (Nx := fun ρ' => ρ' = (18, .lst (.lcons (pt px py (mm * cnt)) (.lcons (pt px py (mm * cnt)) (.lcons (pt px py (mm * cnt)) (.lcons (pt px py (mm * cnt)) .lnil))))) :: (18, .lst (a2 (pt px py (mm * cnt)) (pt px py (mm * cnt)))) :: r7 sa P NN b px py mm nn way cnt s0 s1 pl X Y Z A B D) ?_ F11 N11 R11 ?_)
      · refine LCO.std ((omul1A C hc0 (by omega) ⟨_, _, _, rfl, hq⟩).use (by decide) (by decide) fun v2 hv2 => ?_)
        refine LCO.std ((htold1A C hv2).use (by decide) (by decide) ?_)
        rintro _ rfl
        refine LCO.std ((smulA (k := mm) C hc0 (by omega)).use (by decide) (by decide) ?_)
        rintro _ rfl
        exact ⟨Nat.le_of_ble_eq_true rfl, rfl⟩
      rintro _ h12 tk12 led12 m12 F12 N12 U12 R12 rfl
      refine wpAny_execs_cons (xs_ok O (xC2 w) (by intro _ _ e; cases e) (C := fun _ => False) (Nx := fun ρ' => ∃ l, lk ρ' 18 = some (.lst l) ∧ allIs (pt px py (mm * cnt)) l ∧ l.len < 1000) ?_ F12 N12 R12 ?_)
      · refine LCO.std ((jmulA C hc0 (by omega) hj).use (by decide) (by decide) ?_)
        rintro _ ⟨A2, B2, D2, rfl, hj2⟩
        refine LCO.std ((fromjA C hj2).use (by decide) (by decide) ?_)
        rintro _ rfl
        exact ⟨⟨rfl, rfl, Nat.le_of_ble_eq_true rfl⟩, _, rfl, ⟨rfl, rfl, rfl, rfl, rfl, trivial⟩, Nat.le_of_ble_eq_true rfl⟩
      rintro _ h13 tk13 led13 m13 F13 N13 U13 R13 ht
      have U := (U11.trans U12).trans U13
      exact wpAny_execs_nil (wpAny_execs_nil (law_fin (by omega) F13 N13 R13 ht (U.rep _ _ rfl hvd10) (U.cell _ _ _ hoc7 hc10) hoc7 fun h' tk' led' m' F' N' => hk h' tk' led' m' F' N'))
end

end
end
section
theorem into {M : Model} {A A' : Around} {env env' : Env} {b b' : List Stmt} {Q : Flow → Shared → Prop} {E : Value → Shared → Prop} {s : Shared} (h : wpAny M A (execs b env) Q E s) (e1 : A = A') (e2 : b = b') (e3 : env = env') : wpAny M A' (execs b' env') Q E s := by
  subst e1 e2 e3; exact h
set_option maxHeartbeats 8000000
local macro_rules | `(tactic| k_qdec) => `(tactic| decide +kernel)
theorem law_holds : PySem.Challenge.rw_af0015_01.Holds := Mine.hd (by
  k_go0
  rename_i w s₀ s₁ mg mb G Y fa o pm doc ho hg KX X V GL T B TE TW w10 w9 M w8 w7 hcd ns hs hlay0 hL' hr hl2 w5 w4 sa vs w1 hL ra wl r0 hI hr' hcond hcond2 K0 hD h₁ tk₁ F oc hoc N0 X0
  refine into (law_ok (p := view) (loose := looseW view looses) (mean := ExcName.means s₀.heap) (mg := mg) (mb := mb) (dp := callerA.depth + 1) (un := callerA.units + 3) (gd := callerA.guards) (cn := Str.ofString "law") (a := fa) (ccd := .ref w8) (outer := []) (A₀ := callerA) (base := s₁.heap) (h₀ := s₁.heap) (L := s₁.heap.objs.size) (c := s₁.heap.objs.size + 1) K0 KX T ?d ?u hL hI ?n F N0 ?m (List.Mem.head _) ?oc ?kfin) ?e1 ?e2 ?e3
  case d => decide
  case u => decide
  case n => omega
  case m => kernel_rfl
  case oc => exact hoc.trans (by kernel_rfl)
  case e1 => kernel_rfl
  case e2 => kernel_rfl
  case e3 => kernel_rfl
  case kfin =>
    intro h' tk' led' m' F' N'
    exact goodW_bool F' hg (fun _ => rfl) (by kernel_rfl))
end
end Mine
theorem PySem.Challenge.cw_af0015_01_holds : PySem.Challenge.rw_af0015_01.Holds :=
  Mine.law_holds
