import PyProof.Rows.All
import Wide.All
import OpenK.AllK
import Wide.FinOn
import Lean
import PySem.Challenge.RW_ai0019_01
open PySem PySem.W PyProof.Rows PySem.Calls PySem.Spec
set_option Elab.async false
set_option maxRecDepth 100000
-- Hd
namespace Mine
set_option maxRecDepth 100000 in
set_option maxHeartbeats 8000000 in
open_top hd for PySem.Challenge.rw_ai0019_01
end Mine
-- A0
namespace Mine
def Con (w : World) (f : Addr) (vs : List Value) (d u : Nat) (pre : Heap → Prop) (R : Value → Prop) : Prop :=
  ∀ (mean : ExcName → Option Value) (mg mb : Str → Option Value) (dp un : Nat) (gd : Option (List Code)) (cn : Str) (cs : Scope) (a : Addr) (ccd : Value) (cl : List (Str × Addr)) (outer : List Env) (A₀ : Around) (base h₀ : Heap) (L : Addr) (m : Str → Option Value) (news : List (Addr × Obj)) (s : Shared) (Q E : Value → Shared → Prop),
    Below A₀ base outer h₀ → Fr h₀ L s.heap m → (hd.heap_39 w.params).In h₀ → News h₀ L s.heap news → Top hd.view_39 (looseW hd.view_39 [Str.ofString "Sha256", Str.ofString "hashlib"]) mean mg mb h₀ → cs.kind = .function → pre base → dp + d < recursionLimit → un + u < cLine →
    (∀ r h' tk', R r → Fr h₀ L h' m → News h₀ L h' news → Q r { s with heap := h', toks := tk' }) →
    wpAny (model PySem.Challenge.rw_ai0019_01.row.prog w) (ktrTop dp un gd cn cs L a ccd cl outer) (call (.ref f) vs) Q E s

theorem Con.use {w : World} {f : Addr} {vs : List Value} {d u : Nat} {pre : Heap → Prop} {R : Value → Prop} (C : Con w f vs d u pre R) {mean : ExcName → Option Value} {mg mb : Str → Option Value} {dp un : Nat} {gd : Option (List Code)} {cn : Str} {cs : Scope} {a : Addr} {ccd : Value} {cl : List (Str × Addr)} {outer : List Env} {A₀ : Around} {base h₀ : Heap} {L : Addr} {m : Str → Option Value} {news : List (Addr × Obj)} {s : Shared} {Q E : Value → Shared → Prop}
    (B : Below A₀ base outer h₀) (F : Fr h₀ L s.heap m) (X : (hd.heap_39 w.params).In h₀) (N : News h₀ L s.heap news) (T : Top hd.view_39 (looseW hd.view_39 [Str.ofString "Sha256", Str.ofString "hashlib"]) mean mg mb h₀) (hk : cs.kind = .function) (hp : pre base) (hd : dp + d < recursionLimit) (hu : un + u < cLine)
    (h : ∀ r h' tk', R r → Fr h₀ L h' m → News h₀ L h' news → Q r { s with heap := h', toks := tk' }) :
    wpAny (model PySem.Challenge.rw_ai0019_01.row.prog w) (ktrTop dp un gd cn cs L a ccd cl outer) (call (.ref f) vs) Q E s := C mean mg mb dp un gd cn cs a ccd cl outer A₀ base h₀ L m news s Q E B F X N T hk hp hd hu h
end Mine
-- R0
namespace Mine

/-- the number of a row of figures, base B -/
@[irreducible] def val (B : Nat) (ds : List Nat) : Nat := ds.foldl (fun a d => a * B + d) 0
/-- a row's octets as numbers -/
@[irreducible] def bds (b : Array UInt8) : List Nat := b.toList.map UInt8.toNat
/-- n figures of x in base B, the greatest first -/
def fixd (B : Nat) : Nat → Nat → List Nat
  | 0, _ => []
  | n + 1, x => fixd B n (x / B) ++ [x % B]
@[irreducible] def bytOf (ds : List Nat) : Array UInt8 := (ds.map UInt8.ofNat).toArray

theorem val_eq (B : Nat) (ds : List Nat) : val B ds = ds.foldl (fun a d => a * B + d) 0 := by
  unfold val
  rfl
theorem bds_eq (b : Array UInt8) : bds b = b.toList.map UInt8.toNat := by
  unfold bds
  rfl
theorem bytOf_eq (ds : List Nat) : bytOf ds = (ds.map UInt8.ofNat).toArray := by
  unfold bytOf
  rfl
theorem val_snoc (B : Nat) (ds : List Nat) (d : Nat) : val B (ds ++ [d]) = val B ds * B + d := by
  simp [val_eq, List.foldl_append]
theorem foldl_lt (B : Nat) : ∀ (ds : List Nat) (a : Nat), (∀ d ∈ ds, d < B) → ds.foldl (fun a d => a * B + d) a < (a + 1) * B ^ ds.length
  | [], a, _ => by simp
  | d :: r, a, h => by
    have hd := h d (.head _)
    have ih := foldl_lt B r (a * B + d) fun x hx => h x (.tail _ hx)
    rw [List.foldl_cons, List.length_cons]
    refine Nat.lt_of_lt_of_le ih ?_
    have e : (a + 1) * B ^ (r.length + 1) = ((a + 1) * B) * B ^ r.length := by rw [Nat.pow_succ, Nat.mul_comm (B ^ r.length) B, Nat.mul_assoc]
    rw [e]
    refine Nat.mul_le_mul_right _ ?_
    rw [Nat.add_mul]
    omega
theorem val_lt (B : Nat) (ds : List Nat) (h : ∀ d ∈ ds, d < B) : val B ds < B ^ ds.length := by
  have := foldl_lt B ds 0 h
  simpa [val_eq] using this
theorem bds_lt (b : Array UInt8) : ∀ d ∈ bds b, d < 256 := by
  intro d hd
  rw [bds_eq] at hd
  obtain ⟨c, _, rfl⟩ := List.mem_map.mp hd
  exact c.toNat_lt
theorem bds_length (b : Array UInt8) : (bds b).length = b.size := by simp [bds_eq]

section
variable {prog : Program} {w : World} {M : Model} {A : Around} {E : Value → Shared → Prop} {s : Shared} {h₀ : Heap} {L : Addr} {m : Str → Option Value} {news : List (Addr × Obj)}

theorem mk_grown {n k : Nat} {Q : Value → Shared → Prop} (hk : k ≤ 100000) (hn : n < 2 ^ k) (h : Q (.int (n : Int) s.toks) { s with toks := s.toks + 1 }) : wpAny M A (mkIntGrown (n : Int)) Q E s := by
  have hb : bitsLine = 134217728 := by first | rfl | decide
  have small : ¬ ((n : Int).natAbs.log2 ≥ bitsLine) := by
    rw [Int.natAbs_natCast, hb]
    rcases Nat.eq_zero_or_pos n with rfl | hp
    · decide
    · have := (Nat.log2_lt (Nat.ne_of_gt hp)).mpr hn
      omega
  unfold mkIntGrown
  rw [if_neg small]
  exact wpAny_mkInt h

theorem fold_int (l : List UInt8) : ∀ (a : Nat), l.foldl (fun (acc : Int) (b : UInt8) => acc * 256 + (b.toNat : Int)) (a : Int) = (((l.map UInt8.toNat).foldl (fun a d => a * 256 + d) a : Nat) : Int) := by
  induction l with
  | nil => intro a; rfl
  | cons c r ih =>
    intro a
    rw [List.foldl_cons, List.map_cons, List.foldl_cons, ← ih]
    congr 1
theorem bval_bits (b : Array UInt8) : val 256 (bds b) < 2 ^ (8 * b.size) := by
  have h := val_lt 256 (bds b) (bds_lt b)
  rw [bds_length] at h
  have e : (256 : Nat) = 2 ^ 8 := by decide
  rw [e, ← Nat.pow_mul, ← e] at h
  exact h
theorem fb_tree {b : Array UInt8} {t u : Tok} {P : Fin → Shared → Prop} (hl : b.size ≤ 4096) (h : P (.done (.ret (.int (val 256 (bds b) : Int) s.toks))) { s with toks := s.toks + 1 }) :
    wpAny M A (Builtin.«int.from_bytes» ⟨[.type "int", .bytes b t, .str (PySem.Str.ofString "big") u], []⟩) P E s := by
  unfold Builtin.«int.from_bytes»
  refine wpAny_bind (wpAny_of_eq (a := true) KFB.type_int ?_)
  refine KFB.if_not rfl ?_
  refine wpAny_bind (wpAny_of_eq (a := true) F.conv_sub_int ?_)
  refine KFB.if_not rfl ?_
  refine wpAny_bind (wpAny_of_eq (a := [some (.bytes b t), some (.str (PySem.Str.ofString "big") u), none]) (by kernel_rfl) ?_)
  refine wpAny_bind (wpAny_of_eq (a := PySem.Str.ofString "big") (by kernel_rfl) ?_)
  refine wpAny_bind (wpAny_of_eq (a := false) rfl ?_)
  refine wpAny_bind (wpAny_of_eq (a := false) (by kernel_rfl) ?_)
  refine wpAny_bind (wpAny_of_eq (a := b) rfl ?_)
  show wpAny _ _ (mkIntGrown (b.toList.foldl (fun (acc : Int) (b : UInt8) => acc * 256 + (b.toNat : Int)) ((0 : Nat) : Int)) >>= fun v => _) _ _ _
  rw [fold_int]
  have hv := bval_bits b
  rw [val_eq, bds_eq] at hv h
  refine wpAny_bind (mk_grown (k := 8 * b.size) (by omega) hv ?_)
  refine KFB.if_so (by decide +kernel) ?_
  exact wpAny_bind (wpAny_pure (wpAny_pure h))
theorem fb_call {x : Addr} {b : Array UInt8} {t u : Tok} {Q : Value → Shared → Prop} (N : News h₀ L s.heap news) (hm : (x, KFB.bound) ∈ news) (hl : b.size ≤ 4096)
    (h : ∀ t' k, Q (.int (val 256 (bds b) : Int) t') { s with toks := k }) : wpAny (model prog w) A (call (.ref x) [.bytes b t, .str (PySem.Str.ofString "big") u]) Q E s :=
  KFB.call_of (KFB.at_of N hm) (fun z => fb_tree hl z) (h _ _)

theorem fixd_eq (B n x : Nat) : (fixd B n x).reverse = (List.range n).map fun i => x / B ^ i % B := by
  induction n generalizing x with
  | zero => rfl
  | succ n ih =>
    show (fixd B n (x / B) ++ [x % B]).reverse = _
    rw [List.reverse_append, ih, List.range_succ_eq_map, List.map_cons, List.map_map]
    simp only [List.reverse_cons, List.reverse_nil, List.nil_append, List.cons_append, Nat.pow_zero, Nat.div_one]
    congr 1
    refine List.map_congr_left fun i _ => ?_
    show x / B / B ^ i % B = x / B ^ (i + 1) % B
    rw [Nat.div_div_eq_div_mul, Nat.pow_succ, Nat.mul_comm B]
theorem fixd_length (B : Nat) : ∀ n x, (fixd B n x).length = n
  | 0, _ => rfl
  | n + 1, x => by rw [fixd, List.length_append, fixd_length B n]; rfl
theorem low_eq {x n : Nat} (hx : x < 256 ^ n) : (KTBy.low (x : Int) n).reverse = (fixd 256 n x).map UInt8.ofNat := by
  have h := KTBy.low_ints (x := (x : Int)) (n := n) (by omega) (by rw [KTBy.p256]; exact Int.ofNat_lt.mpr hx)
  have e : KTBy.low (x : Int) n = (fixd 256 n x).reverse.map UInt8.ofNat := by
    rw [fixd_eq]
    have h2 : (KTBy.low (x : Int) n).map (fun c => UInt8.ofNat ((c.toNat : Nat) : Int).toNat) = ((List.range n).map fun i => x / 256 ^ i % 256).map UInt8.ofNat := by
      have e2 : (fun c : UInt8 => UInt8.ofNat ((c.toNat : Nat) : Int).toNat) = (fun k : Int => UInt8.ofNat k.toNat) ∘ fun c : UInt8 => ((c.toNat : Nat) : Int) := rfl
      rw [e2, ← List.map_map, h, List.map_map, List.map_map]
      refine List.map_congr_left fun i _ => ?_
      show UInt8.ofNat ((x : Int) / 256 ^ i % 256).toNat = UInt8.ofNat (x / 256 ^ i % 256)
      rw [KTBy.p256]
      congr 1
    have e3 : (fun c : UInt8 => UInt8.ofNat ((c.toNat : Nat) : Int).toNat) = _root_.id := by
      funext c
      simp
    rw [e3, List.map_id] at h2
    exact h2
  rw [e, ← List.map_reverse, List.reverse_reverse]
theorem tb_call {x k : Nat} {t u v : Tok} {Q : Value → Shared → Prop} (hk : k ≤ 4096) (hx : x < 256 ^ k) (h : ∀ t' k', Q (.bytes (bytOf (fixd 256 k x)) t') { s with toks := k' }) :
    wpAny (model prog w) A (call (.builtin "int.to_bytes") [.int (x : Int) t, .int (k : Int) u, .str (PySem.Str.ofString "big") v]) Q E s := by
  have hb : Builtin.Int.intBits (x : Int) ≤ 8 * k := by
    refine intBits_le_iff.mpr ?_
    have e : (2 : Nat) ^ 8 = 256 := by decide
    rw [Nat.pow_mul, e, Int.natAbs_natCast]
    exact hx
  refine wpAny_call_entry KTBy.slot (typeIs_int s (x : Int) t) KTBy.entry ?_ (KTBy.args _ _ _)
  show wpAny _ _ (Builtin.Int.intOfSelf (.int (x : Int) t) >>= fun y => _) _ _ s
  refine wpAny_bind (wpAny_of_eq (a := (x : Int)) rfl ?_)
  show wpAny _ _ (Builtin.Int.intBindNamed "to_bytes" ["length", "byteorder", "signed"] 0 2 [.int (k : Int) u, .str (PySem.Str.ofString "big") v] [] >>= fun l => _) _ _ s
  refine wpAny_bind (wpAny_of_eq (a := [some (.int (k : Int) u), some (.str (PySem.Str.ofString "big") v), none]) (by kernel_rfl) ?_)
  show wpAny _ _ (Builtin.Int.intIndex "int.to_bytes" (.int (k : Int) u) >>= fun n => _) _ _ s
  refine wpAny_bind (wpAny_of_eq (a := (k : Int)) rfl ?_)
  refine KTBy.if_not (by show (decide ((k : Int) < -(2 ^ 63 : Int)) || decide ((k : Int) ≥ 2 ^ 63)) = false; rw [decide_eq_false (show ¬ ((k : Int) < -(2 ^ 63 : Int)) by omega), decide_eq_false (show ¬ ((k : Int) ≥ 2 ^ 63) by omega)]; rfl) ?_
  refine wpAny_bind (wpAny_of_eq (a := PySem.Str.ofString "big") (by kernel_rfl) ?_)
  refine wpAny_bind (wpAny_of_eq (a := false) rfl ?_)
  refine wpAny_bind (wpAny_of_eq (a := false) (by kernel_rfl) ?_)
  refine wpAny_ite_false (decide_eq_false (show ¬ ((k : Int) < 0) by omega)) ?_
  refine wpAny_ite_false (decide_eq_false (show ¬ ((k : Int) > 2 ^ 63 - 1 - 33) by omega)) ?_
  refine wpAny_ite_false (decide_eq_false (show ¬ ((k : Int) > (sizeLine : Int)) by rw [sizeLine_eq]; omega)) ?_
  refine KTBy.if_not (by show (decide ((x : Int) < 0) && !false) = false; rw [decide_eq_false (show ¬ (x : Int) < 0 by omega)]; rfl) ?_
  refine KTBy.if_not (by show (_ && decide ((Builtin.Int.intBits (x : Int) : Int) > 8 * (k : Int))) = false; rw [decide_eq_false (show ¬ ((Builtin.Int.intBits (x : Int) : Int) > 8 * (k : Int)) by omega), Bool.and_false]) ?_
  have e : (List.reverse (KTBy.low (x : Int) (Int.toNat (k : Int)))) = (fixd 256 k x).map UInt8.ofNat := by rw [Int.toNat_natCast, low_eq hx]
  refine wpAny_bind (wpAny_mkBytes (wpAny_pure ⟨_, rfl, ?_⟩) ?_)
  · show Q (.bytes (List.reverse (KTBy.low (x : Int) (Int.toNat (k : Int)))).toArray _) _
    rw [e, ← bytOf_eq]
    exact h _ _
  · show (List.reverse (KTBy.low (x : Int) (Int.toNat (k : Int)))).length ≤ sizeLine
    rw [e, List.length_map, fixd_length, sizeLine_eq]
    omega
theorem tb_callZ {x k : Int} {t u v : Tok} {Q : Value → Shared → Prop} (hk0 : 0 ≤ k) (hk : k ≤ 4096) (hx0 : 0 ≤ x) (hx : x < 256 ^ k.toNat) (h : ∀ t' k', Q (.bytes (bytOf (fixd 256 k.toNat x.toNat)) t') { s with toks := k' }) :
    wpAny (model prog w) A (call (.builtin "int.to_bytes") [.int x t, .int k u, .str (PySem.Str.ofString "big") v]) Q E s := by
  obtain ⟨x, rfl⟩ := Int.eq_ofNat_of_zero_le hx0
  obtain ⟨k, rfl⟩ := Int.eq_ofNat_of_zero_le hk0
  rw [Int.toNat_natCast, Int.toNat_natCast] at h
  rw [Int.toNat_natCast, KTBy.p256] at hx
  exact tb_call (by omega) (Int.ofNat_lt.mp hx) h
theorem mul_ok {a b : Int} (ha : Builtin.Int.intBits a ≤ 50000000) (hb : Builtin.Int.intBits b ≤ 50000000) : IntMulOk a b := by
  have h : Builtin.Int.intTooBig (Builtin.Int.intBits a + Builtin.Int.intBits b) = false := by
    have hb2 : bitsLine = 134217728 := by first | rfl | decide
    unfold Builtin.Int.intTooBig
    rw [hb2]
    exact decide_eq_false (by omega)
  unfold IntMulOk
  rw [h]
  simp
theorem bits_mul {a b : Int} {k l : Nat} (ha : Builtin.Int.intBits a ≤ k) (hb : Builtin.Int.intBits b ≤ l) : Builtin.Int.intBits (a * b) ≤ k + l := by
  rw [intBits_le_iff] at *
  rw [Int.natAbs_mul, Nat.pow_add]
  rcases Nat.eq_zero_or_pos b.natAbs with e | hp
  · rw [e, Nat.mul_zero]; exact Nat.mul_pos (Nat.two_pow_pos _) (Nat.two_pow_pos _)
  · exact Nat.lt_of_lt_of_le (Nat.mul_lt_mul_of_pos_right ha hp) (Nat.mul_le_mul_left _ (Nat.le_of_lt hb))
theorem bits_val (b : Array UInt8) : Builtin.Int.intBits (val 256 (bds b) : Int) ≤ 8 * b.size := by
  rw [intBits_le_iff, Int.natAbs_natCast]
  exact bval_bits b
end
end Mine
-- M0
namespace Mine

def figsL : List Nat := [49, 50, 51, 52, 53, 54, 55, 56, 57, 65, 66, 67, 68, 69, 70, 71, 72, 74, 75, 76, 77, 78, 80, 81, 82, 83, 84, 85, 86, 87, 88, 89, 90, 97, 98, 99, 100, 101, 102, 103, 104, 105, 106, 107, 109, 110, 111, 112, 113, 114, 115, 116, 117, 118, 119, 120, 121, 122]
@[irreducible] def fig (d : Nat) : Nat := figsL.getD d 0
theorem fig_eq (d : Nat) : fig d = figsL.getD d 0 := by
  unfold fig
  rfl
abbrev alpha : Str := PySem.Str.ofString "123456789ABCDEFGHJKLMNPQRSTUVWXYZabcdefghijkmnopqrstuvwxyz"
theorem alpha_eq : alpha = PySem.Str.mk figsL.toArray := by decide +kernel
@[irreducible] def strOf (ds : List Nat) : Str := ⟨(ds.map fig).toArray⟩
theorem strOf_eq (ds : List Nat) : strOf ds = ⟨(ds.map fig).toArray⟩ := by
  unfold strOf
  rfl
theorem strOf_length (ds : List Nat) : (strOf ds).length = ds.length := by
  rw [strOf_eq]
  show (ds.map fig).toArray.size = _
  simp
abbrev digit (d : Nat) : Str := ⟨#[fig d]⟩
theorem occ_fig {d : Nat} (h : d < 58) : Builtin.Str.occurrences alpha (digit d) 0 alpha.length 1 = [d] := by
  have key : ∀ d, d < 58 → Builtin.Str.occurrences (PySem.Str.mk figsL.toArray) ⟨#[figsL.getD d 0]⟩ 0 (PySem.Str.mk figsL.toArray).length 1 = [d] := by decide +kernel
  show Builtin.Str.occurrences alpha ⟨#[fig d]⟩ 0 alpha.length 1 = [d]
  rw [alpha_eq, fig_eq]
  exact key d h
theorem fig_inj {a b : Nat} (ha : a < 58) (hb : b < 58) (h : fig a = fig b) : a = b := by
  have key : ∀ a, a < 58 → ∀ b, b < 58 → figsL.getD a 0 = figsL.getD b 0 → a = b := by decide +kernel
  rw [fig_eq, fig_eq] at h
  exact key a ha b hb h
theorem fig_lt {a b : Nat} (ha : a < 58) (hb : b < 58) : fig a < fig b ↔ a < b := by
  have key : ∀ a, a < 58 → ∀ b, b < 58 → (figsL.getD a 0 < figsL.getD b 0 ↔ a < b) := by decide +kernel
  rw [fig_eq, fig_eq]
  exact key a ha b hb

theorem codes_strOf (ds : List Nat) : KStt.codes (strOf ds) = ds.map fun d => ((fig d : Nat) : Int) := by
  rw [strOf_eq]
  simp [KStt.codes]
theorem codes_at {ds : List Nat} {pre post : List Int} {n : Nat} (h : KStt.codes (strOf ds) = pre ++ (n : Int) :: post) : ∃ d, d ∈ ds ∧ n = fig d ∧ ds.take (pre.length + 1) = ds.take pre.length ++ [d] ∧ pre.length < ds.length := by
  rw [codes_strOf] at h
  have hlen : pre.length < ds.length := by
    have := congrArg List.length h
    simp at this
    omega
  have e : (ds.map fun d => ((fig d : Nat) : Int))[pre.length]? = some (n : Int) := by
    rw [h]
    simp
  have e2 : ds[pre.length]? = some ds[pre.length] := by simp
  rw [List.getElem?_map, e2] at e
  refine ⟨ds[pre.length], List.getElem_mem _, ?_, ?_, hlen⟩
  · have e3 : ((fig ds[pre.length] : Nat) : Int) = (n : Int) := by simpa using e
    exact (Int.ofNat_inj.mp e3).symm
  · rw [List.take_add_one, e2]
    rfl
section
variable {prog : Program} {w : World} {M : Model} {A : Around} {E : Value → Shared → Prop} {s : Shared} {h₀ : Heap} {L : Addr} {m : Str → Option Value} {news : List (Addr × Obj)} {t u : Tok} {Q : Value → Shared → Prop}
theorem notin_alpha {d : Nat} (hd : d < 58) (h : Q (.bool false) s) : wpAny (model prog w) A (compareOp .NotIn (.str (digit d) u) (.str alpha t)) Q E s := by
  refine PyProof.Rows.notIn_str ?_
  rw [occ_fig hd]
  exact h
theorem index_alpha {d : Nat} (hd : d < 58) (h : Q (.int (d : Int) s.toks) { s with toks := s.toks + 1 }) : wpAny (model prog w) A (call (.builtin "str.index") [.str alpha t, .str (digit d) u]) Q E s := SC.index (occ_fig hd) h
theorem item_alpha {value slice : PySem.Expr} {i : Int} (h0 : 0 ≤ i) (h1 : i < 58) (h : ∀ t', Q (.str (digit i.toNat) t') { s with toks := s.toks + 1 })
    (hs : subscripted slice false (.str alpha t) (.int i u) = operate [.str alpha t, .int i u] (getItem (.str alpha t) (.int i u)) := by with_unfolding_all rfl)
    (ht : ∀ r, letTemporaryGo value (.str alpha t) r = pure () := by intro _; with_unfolding_all rfl) :
    wpAny (model prog w) A (subscriptTail value slice (.str alpha t) (.int i u)) Q E s := by
  have hl : alpha.length = 58 := by decide +kernel
  obtain ⟨d, rfl⟩ := Int.eq_ofNat_of_zero_le h0
  have e : Txt.item alpha (d : Int) = digit d := by
    have key : ∀ d : Nat, d < 58 → (Txt.item (PySem.Str.mk figsL.toArray) ((d : Nat) : Int)) = PySem.Str.mk #[figsL.getD d 0] := by decide +kernel
    show _ = PySem.Str.mk #[fig d]
    rw [alpha_eq, fig_eq]
    exact key d (by omega)
  refine KXi.item hl (by omega) (by omega) (by decide) (fun _ => ?_) hs ht
  rw [e]
  exact h _
theorem eq_digit {a b : Nat} (ha : a < 58) (hb : b < 58) (h : Q (.bool (decide (a = b))) s) : wpAny (model prog w) A (compareOp .Eq (.str (digit a) t) (.str (digit b) u)) Q E s := by
  refine PySem.P.eq_str ?_
  have e : ((digit a).cps.toList == (digit b).cps.toList) = decide (a = b) := by
    show ([fig a] == [fig b]) = _
    by_cases hab : a = b
    · subst hab
      simp
    · have : fig a ≠ fig b := fun h => hab (fig_inj ha hb h)
      simp [hab, this]
  rw [e]
  exact h
theorem slice_ixs (n : Nat) : Builtin.Str.strSliceIndices none (some (-1)) 1 n = List.range (n - 1) := by
  have hs : max 0 (min ((-1 : Int) + (n : Int)) n) = ((n - 1 : Nat) : Int) := by omega
  have e : Builtin.Str.strSliceIndices none (some (-1)) 1 n = sliceRange 0 (max 0 (min ((-1 : Int) + (n : Int)) n)) 1 := rfl
  rw [e, hs]
  unfold sliceRange
  have hc : (if (1 : Int) > 0 then (if (0 : Int) < ((n - 1 : Nat) : Int) then (((n - 1 : Nat) : Int) - 0 + 1 - 1) / 1 else 0) else (if (0 : Int) > ((n - 1 : Nat) : Int) then ((0 : Int) - ((n - 1 : Nat) : Int) - 1 - 1) / (-1) else 0)) = ((n - 1 : Nat) : Int) := by
    rw [if_pos (by decide)]
    by_cases h : (0 : Int) < ((n - 1 : Nat) : Int)
    · rw [if_pos h, Int.ediv_one]; omega
    · rw [if_neg h]; omega
  dsimp only
  rw [hc, Int.toNat_natCast]
  have hid : (fun k : Nat => ((0 : Int) + 1 * (k : Int)).toNat) = _root_.id := by
    funext k
    show ((0 : Int) + 1 * (k : Int)).toNat = k
    omega
  rw [hid, List.map_id]
theorem pick_range (l : List Nat) : ∀ k, k ≤ l.length → (List.range k).filterMap (l[·]?) = l.take k := by
  intro k
  induction k with
  | zero => intro _; rfl
  | succ k ih =>
    intro hk
    rw [List.range_succ, List.filterMap_append, ih (by omega), List.take_add_one]
    have e : l[k]? = some l[k] := by simp
    simp [e]
theorem slice_dropLast (ds : List Nat) : Txt.slice (strOf ds) none (some (-1)) = strOf ds.dropLast := by
  unfold Txt.slice
  rw [strOf_length, slice_ixs]
  have e : (List.range (ds.length - 1)).filterMap ((strOf ds).cps[·]?) = ds.dropLast.map fig := by
    have e2 : (fun x : Nat => (strOf ds).cps[x]?) = fun x : Nat => (ds.map fig)[x]? := by
      funext x
      rw [strOf_eq]
      simp
    rw [e2, pick_range _ _ (by rw [List.length_map]; omega), ← List.map_take, List.dropLast_eq_take]
  rw [e, List.length_range]
  by_cases h : ds.length = 0
  · have : ds = [] := List.eq_nil_of_length_eq_zero h
    subst this
    rfl
  · have h2 : ((1 : Int) == 1 && (ds.length - 1 == ds.length)) = false := by
      rw [Bool.and_eq_false_iff]
      right
      rw [beq_eq_false_iff_ne]
      omega
    rw [if_neg (by rw [h2]; decide), strOf_eq]
theorem slice_init {value slice : PySem.Expr} {ds : List Nat} {uj : Tok} (hF : Fr h₀ L s.heap m) (hN : News h₀ L s.heap news) (hl : ds.length ≤ 1000) (h : ∀ h' t' k, Fr h₀ L h' m → News h₀ L h' news → Q (.str (strOf ds.dropLast) t') { s with heap := h', toks := k })
    (hs : subscripted slice false (.str (strOf ds) t) (.ref s.heap.objs.size) = operate [.ref s.heap.objs.size, .str (strOf ds) t] (getItem (.str (strOf ds) t) (.ref s.heap.objs.size)) := by with_unfolding_all rfl)
    (ht : ∀ r, letTemporaryGo value (.str (strOf ds) t) r = pure () := by intro _; with_unfolding_all rfl) :
    wpAny (model prog w) A (subscriptTail value slice (.str (strOf ds) t) (.ref s.heap.objs.size)) Q E { s with heap := s.heap.push { cls := .type "slice", data := .fields #[.none, .int (-1) uj, .none] } } := by
  refine slice_strN_ns hF hN ?_ hs ht (by rw [strOf_length, sizeLine_eq]; omega)
  rw [slice_dropLast]
  exact h
theorem zeros_mul {n : Int} (h0 : 0 ≤ n) (hn : n ≤ 1000) (h : ∀ t' k, Q (.bytes (List.replicate n.toNat (0 : UInt8)).toArray t') { s with toks := k }) :
    wpAny (model prog w) A (binaryOp .Mult (.bytes #[0] t) (.int n u)) Q E s := by
  refine bytes_mul_any (b := [0]) (by decide) (by omega) (by omega) (by decide) fun t' k => ?_
  have e : (List.replicate n.toNat [(0 : UInt8)]).flatten = List.replicate n.toNat 0 := by
    generalize n.toNat = k
    induction k with
    | zero => rfl
    | succ k ih => rw [List.replicate_succ, List.flatten_cons, ih, List.replicate_succ]; rfl
  rw [e]
  exact h t' k
/-- the octets of a number, one at least -/
@[irreducible] def natB (n : Nat) : Array UInt8 := bytOf (fixd 256 (max 1 ((Builtin.Int.intBits n + 7) / 8)) n)
theorem natB_eq (n : Nat) : natB n = bytOf (fixd 256 (max 1 ((Builtin.Int.intBits n + 7) / 8)) n) := by
  unfold natB
  rfl
theorem bytes_lt (n k : Nat) (h : Builtin.Int.intBits n ≤ 8 * k) : n < 256 ^ k := by
  have h2 := intBits_le_iff.mp h
  have e : (2 : Nat) ^ 8 = 256 := by decide
  rw [Nat.pow_mul, e, Int.natAbs_natCast] at h2
  exact h2
theorem tb_pos {n : Nat} {v : Tok} {t : Tok} (hb : Builtin.Int.intBits n ≤ 10000) (hz : ((Builtin.Int.intBits n : Int) + 7).fdiv 8 ≠ 0) (h : ∀ t' k, Q (.bytes (natB n) t') { s with toks := k }) :
    wpAny (model prog w) A (call (.builtin "int.to_bytes") [.int (n : Int) t, .int (((Builtin.Int.intBits n : Int) + 7).fdiv 8) u, .str (PySem.Str.ofString "big") v]) Q E s := by
  have e : ((Builtin.Int.intBits n : Int) + 7).fdiv 8 = (((Builtin.Int.intBits n + 7) / 8 : Nat) : Int) := by
    rw [Int.fdiv_eq_ediv_of_nonneg _ (by decide)]
    omega
  rw [e] at hz ⊢
  have hk : max 1 ((Builtin.Int.intBits n + 7) / 8) = (Builtin.Int.intBits n + 7) / 8 := by omega
  rw [natB_eq, hk] at h
  exact tb_call (by omega) (bytes_lt n _ (by omega)) h
theorem tb_zero {n : Nat} {v : Tok} {t : Tok} (hz : ((Builtin.Int.intBits n : Int) + 7).fdiv 8 = 0) (h : ∀ t' k, Q (.bytes (natB n) t') { s with toks := k }) :
    wpAny (model prog w) A (call (.builtin "int.to_bytes") [.int (n : Int) t, .int 1 u, .str (PySem.Str.ofString "big") v]) Q E s := by
  rw [Int.fdiv_eq_ediv_of_nonneg _ (by decide)] at hz
  have hb : Builtin.Int.intBits n = 0 := by omega
  rw [natB_eq, hb] at h
  have hlt := bytes_lt n 1 (by omega)
  exact tb_call (k := 1) (by decide) hlt h
end
theorem natB_size (n : Nat) : (natB n).size = max 1 ((Builtin.Int.intBits n + 7) / 8) := by
  rw [natB_eq, bytOf_eq, List.size_toArray, List.length_map, fixd_length]
theorem val58_bits {ds : List Nat} (h : ∀ d ∈ ds, d < 58) : Builtin.Int.intBits (val 58 ds : Int) ≤ 6 * ds.length := by
  refine intBits_le_iff.mpr ?_
  have h1 := val_lt 58 ds h
  have e : (2 : Nat) ^ 6 = 64 := by decide
  rw [Nat.pow_mul, e, Int.natAbs_natCast]
  exact Nat.lt_of_lt_of_le h1 (Nat.pow_le_pow_left (by decide) _)
/-- how many noughts stand in front -/
def lz (ds : List Nat) : Nat := (ds.takeWhile (· == 0)).length
theorem lz_at : ∀ {ds : List Nat} {i : Nat} {d : Nat}, (∀ x ∈ ds.take i, x = 0) → ds.take (i + 1) = ds.take i ++ [d] → d ≠ 0 → lz ds = i
  | [], i, d, _, h, _ => by simp at h
  | x :: r, 0, d, _, h, hd => by
    have : x = d := by simpa using h
    subst this
    simp [lz, List.takeWhile_cons, hd]
  | x :: r, i + 1, d, hz, h, hd => by
    have hx : x = 0 := hz x (by simp)
    subst hx
    have ih := lz_at (ds := r) (i := i) (d := d) (fun y hy => hz y (by simp [hy])) (by simpa using h) hd
    simp only [lz] at ih ⊢
    rw [List.takeWhile_cons, if_pos (by rfl), List.length_cons, ih]
theorem lz_all : ∀ {ds : List Nat}, (∀ x ∈ ds, x = 0) → lz ds = ds.length
  | [], _ => rfl
  | x :: r, hz => by
    have hx : x = 0 := hz x (by simp)
    subst hx
    have ih := lz_all (ds := r) fun y hy => hz y (by simp [hy])
    simp only [lz] at ih ⊢
    rw [List.takeWhile_cons, if_pos (by rfl), List.length_cons, List.length_cons, ih]
/-- what 'decode' reckons -/
def decP (ds : List Nat) : Array UInt8 := (List.replicate (lz ds.dropLast) (0 : UInt8)).toArray ++ natB (val 58 ds)
theorem lz_le (ds : List Nat) : lz ds ≤ ds.length := by
  unfold lz
  exact List.IsPrefix.length_le (List.takeWhile_prefix _)
/-- the figures of a number, no noughts in front -/
def digs (B : Nat) (n : Nat) : List Nat := if _h : n = 0 ∨ B < 2 then [] else digs B (n / B) ++ [n % B]
termination_by n
decreasing_by exact Nat.div_lt_self (by omega) (by omega)
theorem digs_zero (B : Nat) : digs B 0 = [] := by
  rw [digs]
  simp
theorem digs_pos {B n : Nat} (hB : 2 ≤ B) (hn : 0 < n) : digs B n = digs B (n / B) ++ [n % B] := by
  rw [digs, dif_neg (by omega)]
theorem digs_length {B : Nat} (hB : 2 ≤ B) : ∀ k n, n < 2 ^ k → (digs B n).length ≤ k := by
  intro k
  induction k with
  | zero =>
    intro n hn
    have : n = 0 := by simpa using hn
    subst this
    rw [digs_zero]
    exact Nat.le_refl _
  | succ k ih =>
    intro n hn
    rcases Nat.eq_zero_or_pos n with rfl | hp
    · rw [digs_zero]; exact Nat.zero_le _
    · rw [digs_pos hB hp, List.length_append]
      have h2 : n / B < 2 ^ k := by
        refine Nat.lt_of_le_of_lt (Nat.div_le_div_left hB (by decide)) ?_
        rw [Nat.pow_succ] at hn
        omega
      have := ih _ h2
      simp only [List.length_cons, List.length_nil]
      omega
theorem digs_lt {B : Nat} (hB : 2 ≤ B) (n : Nat) : ∀ d ∈ digs B n, d < B := by
  induction n using Nat.strongRecOn with
  | _ n ih =>
    rcases Nat.eq_zero_or_pos n with rfl | hp
    · rw [digs_zero]; intro d hd; cases hd
    · rw [digs_pos hB hp]
      intro d hd
      rcases List.mem_append.mp hd with h | h
      · exact ih _ (Nat.div_lt_self hp hB) d h
      · rw [List.mem_singleton.mp h]; exact Nat.mod_lt _ (by omega)
theorem strOf_append (a b : List Nat) : strOf a ++ strOf b = strOf (a ++ b) := by
  refine PySem.Str.ext' (Array.toList_inj.mp ?_)
  rw [PySem.Str.cps_append, Array.toList_append, strOf_eq, strOf_eq, strOf_eq]
  simp
theorem digit_eq (d : Nat) : digit d = strOf [d] := by
  rw [strOf_eq]
  rfl
theorem join_digits (ds : List Nat) : Txt.join (PySem.Str.ofString "") (ds.map digit) = strOf ds := by
  have e0 : PySem.Str.ofString "" = Str.empty := by decide +kernel
  have key : ∀ ds : List Nat, Str.join Str.empty (ds.map digit) = strOf ds := by
    intro ds
    induction ds with
    | nil => rw [strOf_eq]; rfl
    | cons d r ih =>
      cases r with
      | nil => rw [strOf_eq]; rfl
      | cons d2 r2 =>
        show digit d ++ Str.empty ++ Str.join Str.empty ((d2 :: r2).map digit) = _
        rw [ih, digit_eq]
        have e1 : strOf [d] ++ Str.empty = strOf [d] := by
          refine PySem.Str.ext' (Array.toList_inj.mp ?_)
          rw [PySem.Str.cps_append, Array.toList_append]
          simp [Str.empty]
        rw [e1, strOf_append]
        rfl
  rw [e0]
  show Builtin.Str.glued Str.empty (ds.map digit) = _
  rw [StrLaws.glued_eq_join, key]
section
variable {prog : Program} {w : World} {M : Model} {A : Around} {E : Value → Shared → Prop} {s : Shared} {h₀ : Heap} {L : Addr} {m : Str → Option Value} {news : List (Addr × Obj)} {t u : Tok} {Q : Value → Shared → Prop}
theorem digits_weight (ds : List Nat) : ((ds.map digit).map (·.length)).sum = ds.length := by
  induction ds with
  | nil => rfl
  | cons d r ih =>
    rw [List.map_cons, List.map_cons, List.sum_cons, ih, List.length_cons]
    show 1 + r.length = r.length + 1
    omega
theorem join_call {D : Addr} {vs : List Value} {ds : List Nat} (hl : s.heap.IsList D vs.toArray) (hi : StrsAre vs (ds.map digit)) (hn : ds.length ≤ 1000) (h : ∀ t' k, Q (.str (strOf ds) t') { s with toks := k }) :
    wpAny (model prog w) A (call (.builtin "str.join") [.str (PySem.Str.ofString "") t, .ref D]) Q E s := by
  refine join_listW hl hi (by decide +kernel) (by rw [digits_weight, List.length_map]; omega) ?_
  rw [join_digits]
  exact h
theorem ones_mul {n : Int} (h0 : 0 ≤ n) (hn : n ≤ 1000) (h : ∀ t' k, Q (.str (strOf (List.replicate n.toNat 0)) t') { s with toks := k }) :
    wpAny (model prog w) A (binaryOp .Mult (.str (digit 0) t) (.int n u)) Q E s := by
  have hl : (digit 0).length = 1 := rfl
  refine SB.mul (mulOk_of 16 1000 (by omega) (by omega) (by omega) (by decide) (by decide)) fun t' k => ?_
  have e : Txt.mul (digit 0) n = strOf (List.replicate n.toNat 0) := by
    unfold Txt.mul
    by_cases h1 : n < 1
    · rw [if_pos h1]
      have : n.toNat = 0 := by omega
      rw [this, strOf_eq]
      rfl
    · rw [if_neg h1]
      by_cases h2 : n = 1
      · subst h2
        rw [if_pos (by decide), strOf_eq]
        rfl
      · rw [if_neg (by rw [hl]; simp [h2])]
        rw [strOf_eq]
        have e2 : ∀ k : Nat, ∀ acc : List Nat, (List.replicate k (digit 0).cps).foldl (· ++ ·) acc.toArray = (acc ++ List.replicate k (fig 0)).toArray := by
          intro k
          induction k with
          | zero => intro acc; simp
          | succ k ih =>
            intro acc
            rw [List.replicate_succ, List.foldl_cons]
            have e3 : acc.toArray ++ (digit 0).cps = (acc ++ [fig 0]).toArray := by
              show acc.toArray ++ #[fig 0] = _
              simp
            rw [e3, ih, List.replicate_succ]
            simp
        have e4 := e2 n.toNat []
        rw [List.nil_append] at e4
        show PySem.Str.mk (List.foldl (· ++ ·) #[] (List.replicate n.toNat (digit 0).cps)) = _
        rw [e4, List.map_replicate]
  rw [e]
  exact h t' k
theorem add_strOf {a b : List Nat} (hn : a.length + b.length ≤ 10000) (h : ∀ t' k, Q (.str (strOf (a ++ b)) t') { s with toks := k }) :
    wpAny (model prog w) A (binaryOp .Add (.str (strOf a) t) (.str (strOf b) u)) Q E s := by
  refine PyProof.Rows.add_str ?_ (by rw [strOf_length, strOf_length, sizeLine_eq]; omega)
  rw [strOf_append]
  exact h
end
theorem ints_bds (b : Array UInt8) : KBw.bInts b = (bds b).map fun d => ((d : Nat) : Int) := by
  rw [bds_eq, List.map_map]
  rfl
theorem ints_at {ds : List Nat} {pre post : List Int} {n : Int} (h : (ds.map fun d => ((d : Nat) : Int)) = pre ++ n :: post) : ∃ d, d ∈ ds ∧ n = (d : Int) ∧ ds.take (pre.length + 1) = ds.take pre.length ++ [d] ∧ pre.length < ds.length := by
  have hlen : pre.length < ds.length := by
    have := congrArg List.length h
    simp at this
    omega
  have e : (ds.map fun d => ((d : Nat) : Int))[pre.length]? = some n := by
    rw [h]
    simp
  have e2 : ds[pre.length]? = some ds[pre.length] := by simp
  rw [List.getElem?_map, e2] at e
  refine ⟨ds[pre.length], List.getElem_mem _, ?_, ?_, hlen⟩
  · have e3 : ((ds[pre.length] : Nat) : Int) = n := by simpa using e
    exact e3.symm
  · rw [List.take_add_one, e2]
    rfl
/-- a row of figures in another base: as many noughts in front, the number's figures -/
def conv (B C : Nat) (ds : List Nat) : List Nat := List.replicate (lz ds) 0 ++ digs C (val B ds)
def enc (b : Array UInt8) : Str := strOf (conv 256 58 (bds b))
def Stop (P : Prop) : Prop := P
theorem Stop.intro {P : Prop} (h : Stop P) : P := h
end Mine
-- D1
namespace Mine
local macro_rules | `(tactic| k_room) => `(tactic| ((try simp only [depth_under_make, depth_under_kw, depth_in1, depth_deeper, depth_caller]); (try dsimp only [ktrTop]); omega))
local macro_rules | `(tactic| ktr_room) => `(tactic| ((try simp only [depth_under_make, depth_under_kw, depth_in1, depth_deeper, depth_caller]); (try dsimp only [ktrTop]); omega))
local macro_rules | `(tactic| k_units) => `(tactic| ((try simp only [units_in1, units_deeper, Around.mark_units, units_caller]); (try dsimp only [ktrTop]); (have hcL9 := cLine_is); omega))

theorem getm_int (w : World) : findCls (hd.heap_39 w.params) (.type "int") (.type "type") (PySem.Str.ofString "from_bytes") = some (.get (.builtin "classmethod_descriptor.__get__") (.builtin "int.from_bytes") .none (.type "int")) := by
  k_dflt k_is
@[irreducible] def shz (n : Int) : Int := Int.fmod (n * n * 48181483302151357469556550866566148933) (2 ^ Int.toNat 255 - 19)
@[irreducible] def shb (n : Int) : Array UInt8 := bytOf (fixd 256 32 (shz n).toNat)
def sh1 (b : Array UInt8) : Array UInt8 := shb (val 256 (bds (#[1] ++ b)))
def dsha (b : Array UInt8) : Array UInt8 := sh1 (sh1 b)
theorem shb_size (n : Int) : (shb n).size = 32 := by
  unfold shb
  rw [bytOf_eq, List.size_toArray, List.length_map, fixd_length]
theorem dsha_size (b : Array UInt8) : (dsha b).size = 32 := shb_size _
theorem shz_eq (n : Int) : shz n = Int.fmod (n * n * 48181483302151357469556550866566148933) (2 ^ Int.toNat 255 - 19) := by
  unfold shz
  rfl
theorem shb_eq (n : Int) : shb n = bytOf (fixd 256 32 (shz n).toNat) := by
  unfold shb
  rfl
theorem shz_lo (n : Int) : 0 ≤ shz n := by
  rw [shz_eq]
  exact Int.fmod_nonneg_of_pos _ (by decide)
theorem shz_hi (n : Int) : shz n < 256 ^ Int.toNat 32 := by
  rw [shz_eq]
  exact Int.lt_trans (Int.fmod_lt_of_pos _ (by decide)) (by decide)
theorem tb_sha {prog : Program} {w : World} {A : Around} {E : Value → Shared → Prop} {s : Shared} {n : Int} {t u v : Tok} {Q : Value → Shared → Prop} (h : ∀ t' k', Q (.bytes (shb n) t') { s with toks := k' }) :
    wpAny (model prog w) A (call (.builtin "int.to_bytes") [.int (Int.fmod (n * n * 48181483302151357469556550866566148933) (2 ^ Int.toNat 255 - 19)) t, .int 32 u, .str (PySem.Str.ofString "big") v]) Q E s :=
  by
    have h1 := shz_lo n
    have h2 := shz_hi n
    rw [shb_eq] at h
    rw [shz_eq] at h h1 h2
    exact tb_callZ (by decide) (by decide) h1 h2 h
local macro_rules | `(tactic| walk_at "call builtin:int.to_bytes") => `(tactic| (k_here; (refine tb_sha ?_); intro _ _))
local macro_rules | `(tactic| walk_at "binaryOp Add bytes bytes") => `(tactic| (k_here; (with_reducible show wpAny _ _ (binaryOp Operator.Add (Value.bytes _ _) (Value.bytes _ _)) _ _ _); (refine KBy.add_bytes ?mz ?_; (case mz => (simp only [shb_size, Array.size_append, List.size_toArray, List.length_cons, List.length_nil]; omega))); intro _ _))
local macro_rules | `(tactic| walk_at "call ref") => `(tactic| (k_here; (with_reducible show wpAny _ _ (call (Value.ref _) [Value.bytes _ _, Value.str _ _]) _ _ _); k_dflt (refine' fb_call ?mN ?mM ?mz ?_; (case mN => k_asm); (case mM => k_mem); (case mz => (simp only [shb_size, Array.size_append, List.size_toArray, List.length_cons, List.length_nil]; omega))); intro _ _))
local macro_rules | `(tactic| walk_at "binaryOp Mult int int") => `(tactic| (k_here; (refine PyProof.Rows.mul_int ?_ ?mm); (case mm => (refine mul_ok (Nat.le_trans (bits_val _) ?_) (Nat.le_trans (bits_val _) ?_) <;> (simp only [shb_size, Array.size_append, List.size_toArray, List.length_cons, List.length_nil]; omega)))))
local macro_rules | `(tactic| walk_at "binaryOp Mult int int") => `(tactic| (k_here; (refine PyProof.Rows.mul_int ?_ ?mm); (case mm => (refine mul_ok (Nat.le_trans (bits_mul (bits_val _) (bits_val _)) ?_) (by decide +kernel); (simp only [shb_size, Array.size_append, List.size_toArray, List.length_cons, List.length_nil]; omega)))))
local macro_rules | `(tactic| walk_at "getMethod type:int") => `(tactic| (k_here; row_timed "gm0" (with_reducible show wpAny _ _ (getMethod (Value.type "int") _ _) _ _ _); row_timed "gm1" (refine' KFB.getm ?mF ?mN ?mX (getm_int _) ?_); row_timed "gm2" ((case mF => k_asm); (case mN => k_asm); (case mX => k_asm)); row_timed "gm3" (k_whole; intro x' h' F' N' l1); row_timed "gm4" (try k_lt l1); row_timed "gm5" (try k_sweep)))
set_option maxHeartbeats 4000000 in
theorem dsha_con (w : World) (b : Array UInt8) (t : Tok) (hb : b.size ≤ 1000) :
    Con w 89 [.bytes b t] 20 200 (fun h => True) (fun r => ∃ t', r = .bytes (dsha b) t') := by
  intro mean mg mb dp un gd cn cs a ccd cl outer A₀ base h₀ L m news s Q E B F X N T hk hpre hd hu hret
  refine wpAny_call ?_
  k_dflt cell_enter
  w_top off
  k_steps
  exact hret _ _ _ ⟨_, rfl⟩ (by assumption) (cb_drop (by assumption) (by intro p hp; repeat (first | exact hp | refine List.Mem.tail _ ?_)))
end Mine
-- E1
namespace Mine
local macro_rules | `(tactic| k_room) => `(tactic| ((try simp only [depth_under_make, depth_under_kw, depth_in1, depth_deeper, depth_caller]); (try dsimp only [ktrTop]); omega))
local macro_rules | `(tactic| ktr_room) => `(tactic| ((try simp only [depth_under_make, depth_under_kw, depth_in1, depth_deeper, depth_caller]); (try dsimp only [ktrTop]); omega))
local macro_rules | `(tactic| k_units) => `(tactic| ((try simp only [units_in1, units_deeper, Around.mark_units, units_caller]); (try dsimp only [ktrTop]); (have hcL9 := cLine_is); omega))
local macro_rules | `(tactic| walk_at "exec For Name Name cons nil") => `(tactic| (k_here; (rename Fr _ _ _ _ => lF'); (with_unfolding_all refine' For_invVF lF' ?k1 ?k2 ?_; (case k1 => exact rfl); (case k2 => exact rfl); k_whole)))
local macro_rules | `(tactic| walk_at "exec For Name Subscript cons nil") => `(tactic| (k_here; (rename Fr _ _ _ _ => lF'); (with_unfolding_all refine' For_invVF lF' ?k1 ?k2 ?_; (case k1 => exact rfl); (case k2 => exact rfl); k_whole)))
local macro_rules | `(tactic| walk_at "InvEndN") => `(tactic| (refine' kst_end ⟨_, _⟩ ?ka ?kb ?kc ?kd rfl trivial ?ke ?kf ?_; (case ka => assumption); (case kb => assumption); (case kc => exact fun p hp => List.mem_append_left _ hp); (case kd => exact fun p hp => List.mem_append_right _ hp); (case ke => (intro p hp; cases hp with | head => rfl | tail _ h => cases h)); (case kf => (intro z h1 h2 h3; (simp only [List.forall_mem_cons, List.not_mem_nil, false_implies, implies_true, and_true, ne_eq] at h2); (try simp only [List.contains_cons, List.contains_nil, Bool.or_false, Bool.or_eq_false_iff, beq_eq_false_iff_ne, ne_eq] at h3); simp [h1, h2, h3, kstB]))))
theorem truthy_ds {prog : Program} {w : World} {A : Around} {E : Value → Shared → Prop} {s : Shared} {ds : List Nat} {t : Tok} {Q : Bool → Shared → Prop} (h0 : 0 < ds.length) (h1 : ds.length ≤ 1000) (h : ∀ k, Q true { s with toks := k }) : wpAny (model prog w) A (truthy (.str (strOf ds) t)) Q E s := by
  have e := strOf_length ds
  refine PySem.P.truthy_str (by omega) ?_
  have e2 : (((strOf ds).length : Int) != 0) = true := by
    rw [bne_iff_ne]
    omega
  rw [e2]
  exact h _
local macro_rules | `(tactic| walk_at "truthy str") => `(tactic| (k_here; (refine truthy_ds (by omega) (by omega) ?_); intro _; (try dsimp only)))
local macro_rules | `(tactic| walk_at "compareOp NotIn str str") => `(tactic| (k_here; (refine notin_alpha (by assumption) ?_)))
local macro_rules | `(tactic| walk_at "call builtin:str.index") => `(tactic| (k_here; (refine index_alpha (by assumption) ?_)))
local macro_rules | `(tactic| walk_at "call builtin:int.to_bytes") => `(tactic| (k_here; (first | (refine tb_pos (by omega) (by assumption) ?_) | (refine tb_zero (by assumption) ?_)); intro _ _))
local macro_rules | `(tactic| walk_at "subscriptTail Name Slice str ref") => `(tactic| (k_here; (with_reducible show wpAny _ _ (subscriptTail _ _ (Value.str (strOf _) _) (Value.ref _)) _ _ _); (refine' slice_init (s := ⟨_, _, _, _, _⟩) ?mF ?mN ?mh ?_; (case mF => k_asm); (case mN => k_asm); (case mh => omega)); intro _ _ _ _ _))
local macro_rules | `(tactic| walk_at "subscriptTail Name Constant str int") => `(tactic| (k_here; (with_reducible show wpAny _ _ (subscriptTail _ _ (Value.str (PySem.Str.ofString _) _) (Value.int _ _)) _ _ _); (refine item_alpha (by omega) (by omega) ?_); intro _; (try dsimp only)))
local macro_rules | `(tactic| walk_at "compareOp Eq str str") => `(tactic| (k_here; (refine eq_digit (by assumption) (by decide) ?_)))
local macro_rules | `(tactic| walk_at "binaryOp Mult bytes int") => `(tactic| (k_here; (refine zeros_mul (by omega) (by omega) ?_); intro _ _))
local macro_rules | `(tactic| walk_at "binaryOp Add bytes bytes") => `(tactic| (k_here; (refine KBy.add_bytes ?mz ?_; (case mz => (simp only [natB_size, List.size_toArray, List.length_replicate]; omega))); intro _ _))
theorem zero_step {ds : List Nat} {k d : Nat} (htk : ds.take (k + 1) = ds.take k ++ [d]) (hz : ∀ x ∈ ds.take k, x = 0) (hd : d = 0) : ∀ x ∈ ds.take (k + 1), x = 0 := by
  intro x hx
  rw [htk] at hx
  rcases List.mem_append.mp hx with h | h
  · exact hz x h
  · rw [List.mem_singleton.mp h]
    exact hd
theorem dec_end {ds : List Nat} {n k : Nat} {c : Int} (hn : val 58 ds = n) (hc : c = (k : Int)) (hk : lz ds.dropLast = k) : (List.replicate c.toNat (0 : UInt8)).toArray ++ natB n = decP ds := by
  unfold decP
  rw [hc, Int.toNat_natCast, hk, hn]
set_option maxHeartbeats 4000000 in
theorem decode_con (w : World) (ds : List Nat) (t : Tok) (hne : 0 < ds.length) (hb : ds.length ≤ 400) (hds : ∀ d ∈ ds, d < 58) :
    Con w 103 [.str (strOf ds) t] 20 200 (fun _ => True) (fun r => ∃ t', r = .bytes (decP ds) t') := by
  intro mean mg mb dp un gd cn cs a ccd cl outer A₀ base h₀ L m news s Q E B F X N T hk hpre hd hu hret
  refine wpAny_call ?_
  k_dflt cell_enter
  w_top off
  k_steps
  refine KStt.kst_text (σ := Int × Tok) (fun _ => news) (fun c => [(Str.ofString "n", Value.int c.1 c.2)]) (fun _ => True) [Str.ofString "digit"] (fun pre c => c.1 = (val 58 (ds.take pre.length) : Int)) (0, _) rfl (by assumption) (by assumption) trivial (by intro p hp; cases hp with | head => rfl | tail _ h => cases h) (by rw [val_eq]; rfl) ?turn ?done
  case turn =>
    intro c pre post n t u h tk own heq hoff hf hp F₁ N₁
    obtain ⟨d, hdm, rfl, htk, hlt⟩ := codes_at heq
    have hd58 := hds d hdm
    k_steps
    rw [List.length_append]
    show _ = ((val 58 (ds.take (pre.length + 1)) : Nat) : Int)
    rw [htk, val_snoc, hp]
    push_cast
    rfl
  case done =>
    intro c u h tk hf hp F₁ N₁
    rcases c with ⟨n, tn⟩
    rw [KStt.codes_length, strOf_length, List.take_length] at hp
    dsimp only at hp
    subst hp
    dsimp only at F₁
    have hbits := val58_bits hds
    generalize hn : val 58 ds = n at *
    k_steps
    all_goals (
      refine KStt.kst_text (σ := Int × Tok) (fun _ => news) (fun c => [(Str.ofString "pad", Value.int c.1 c.2)]) (fun _ => True) [] (fun pre c => c.1 = pre.length ∧ ∀ d ∈ ds.dropLast.take pre.length, d = 0) (0, _) rfl (by assumption) (by assumption) trivial (by intro p hp; cases hp with | head => rfl | tail _ h => cases h) ⟨rfl, by intro d h; cases h⟩ ?_ ?_
      · intro c pre post n t u h tk own heq hoff hf hp F₁ N₁
        obtain ⟨d, hdm, rfl, htk, hlt⟩ := codes_at heq
        have hd58 : d < 58 := hds d (List.dropLast_subset _ hdm)
        obtain ⟨hp1, hp2⟩ := hp
        have hdl := List.length_dropLast (xs := ds)
        have hsz := lz_le ds.dropLast
        k_steps
        · show c.1 + 1 = _
          rw [List.length_append, hp1]
          push_cast
          rfl
        · rename_i hm
          rw [List.length_append] at hm
          exact zero_step htk hp2 (by assumption) _ hm
        · exact hret _ _ _ ⟨_, congrArg (fun b => Value.bytes b _) (dec_end hn hp1 (lz_at hp2 htk (by assumption)))⟩ (by assumption) (by first | assumption | exact cb_drop (by assumption) (fun p hp => List.mem_append_left _ hp))
      · intro c u h tk hf hp F₁ N₁
        obtain ⟨hp1, hp2⟩ := hp
        rw [KStt.codes_length, strOf_length, List.take_length] at hp2
        rw [KStt.codes_length, strOf_length] at hp1
        have hdl := List.length_dropLast (xs := ds)
        k_steps
        exact hret _ _ _ ⟨_, congrArg (fun b => Value.bytes b _) (dec_end hn hp1 (lz_all hp2))⟩ (by assumption) (by assumption))
theorem truthy_nil {prog : Program} {w : World} {A : Around} {E : Value → Shared → Prop} {s : Shared} {t : Tok} {Q : Bool → Shared → Prop} (h : ∀ k, Q false { s with toks := k }) : wpAny (model prog w) A (truthy (.str (strOf []) t)) Q E s := by
  have e := strOf_length []
  refine PySem.P.truthy_str (by rw [e]; decide) ?_
  rw [e]
  exact h _
local macro_rules | `(tactic| walk_at "truthy str") => `(tactic| (k_here; (refine truthy_nil ?_); intro _; (try dsimp only)))
set_option maxHeartbeats 4000000 in
theorem decode_nil (w : World) (t : Tok) :
    Con w 103 [.str (strOf []) t] 20 200 (fun _ => True) (fun r => ∃ t', r = .bytes #[] t') := by
  intro mean mg mb dp un gd cn cs a ccd cl outer A₀ base h₀ L m news s Q E B F X N T hk hpre hd hu hret
  refine wpAny_call ?_
  k_dflt cell_enter
  w_top off
  k_steps
  exact hret _ _ _ ⟨_, rfl⟩ (by assumption) (by assumption)
/-- what 'decode' gives back -/
def decQ (ds : List Nat) : Array UInt8 := if ds = [] then #[] else decP ds
theorem decode_all (w : World) (ds : List Nat) (t : Tok) (hb : ds.length ≤ 400) (hds : ∀ d ∈ ds, d < 58) :
    Con w 103 [.str (strOf ds) t] 20 200 (fun _ => True) (fun r => ∃ t', r = .bytes (decQ ds) t') := by
  unfold decQ
  by_cases h : ds = []
  · subst h
    rw [if_pos rfl]
    exact decode_nil w t
  · rw [if_neg h]
    exact decode_con w ds t (List.length_pos_iff.mpr h) hb hds
theorem decQ_size {ds : List Nat} (hds : ∀ d ∈ ds, d < 58) : (decQ ds).size ≤ 2 * ds.length + 1 := by
  unfold decQ
  by_cases h : ds = []
  · rw [if_pos h]
    exact Nat.zero_le _
  · rw [if_neg h]
    unfold decP
    have h1 := val58_bits hds
    have h2 := lz_le ds.dropLast
    have h3 := List.length_dropLast (xs := ds)
    have h4 : 0 < ds.length := List.length_pos_iff.mpr h
    rw [Array.size_append, natB_size, List.size_toArray, List.length_replicate]
    omega
end Mine
-- E2
namespace Mine
local macro_rules | `(tactic| k_room) => `(tactic| ((try simp only [depth_under_make, depth_under_kw, depth_in1, depth_deeper, depth_caller]); (try dsimp only [ktrTop]); omega))
local macro_rules | `(tactic| ktr_room) => `(tactic| ((try simp only [depth_under_make, depth_under_kw, depth_in1, depth_deeper, depth_caller]); (try dsimp only [ktrTop]); omega))
local macro_rules | `(tactic| k_units) => `(tactic| ((try simp only [units_in1, units_deeper, Around.mark_units, units_caller]); (try dsimp only [ktrTop]); (have hcL9 := cLine_is); omega))
local macro_rules | `(tactic| walk_at "exec For Name Name cons nil") => `(tactic| (k_here; (rename Fr _ _ _ _ => lF'); (with_unfolding_all refine' For_invVF lF' ?k1 ?k2 ?_; (case k1 => exact rfl); (case k2 => exact rfl); k_whole)))
local macro_rules | `(tactic| walk_at "exec For Name Subscript cons nil") => `(tactic| (k_here; (rename Fr _ _ _ _ => lF'); (with_unfolding_all refine' For_invVF lF' ?k1 ?k2 ?_; (case k1 => exact rfl); (case k2 => exact rfl); k_whole)))
local macro_rules | `(tactic| walk_at "InvEndN") => `(tactic| (refine' kst_end ⟨_, _⟩ ?ka ?kb ?kc ?kd rfl trivial ?ke ?kf ?_; (case ka => assumption); (case kb => assumption); (case kc => exact fun p hp => List.mem_append_left _ hp); (case kd => exact fun p hp => List.mem_append_right _ hp); (case ke => (intro p hp; cases hp with | head => rfl | tail _ h => cases h)); (case kf => (intro z h1 h2 h3; (simp only [List.forall_mem_cons, List.not_mem_nil, false_implies, implies_true, and_true, ne_eq] at h2); (try simp only [List.contains_cons, List.contains_nil, Bool.or_false, Bool.or_eq_false_iff, beq_eq_false_iff_ne, ne_eq] at h3); simp [h1, h2, h3, kstB]))))

local macro_rules | `(tactic| walk_at "call ref") => `(tactic| (k_here; (with_reducible show wpAny _ _ (call (Value.ref _) [Value.bytes _ _, Value.str _ _]) _ _ _); k_dflt (refine' fb_call ?mN ?mM ?mz ?_; (case mN => k_asm); (case mM => k_mem); (case mz => omega)); intro _ _))
local macro_rules | `(tactic| walk_at "getMethod type:int") => `(tactic| (k_here; (refine' KFB.getm ?mF ?mN ?mX (getm_int _) ?_; (case mF => k_asm); (case mN => k_asm); (case mX => k_asm); k_whole; intro x' h' F' N' l1; (try k_lt l1); (try k_sweep))))
local macro_rules | `(tactic| walk_at "exec While Compare cons nil") => `(tactic| (k_here; refine Stop.intro ?_))
local macro_rules | `(tactic| walk_at "pyIter bytes") => `(tactic| (k_here; refine Stop.intro ?_))
local macro_rules | `(tactic| walk_at "KswEnd") => `(tactic| (refine Stop.intro ?_))
local macro_rules | `(tactic| walk_at "subscriptTail Name Name str int") => `(tactic| (k_here; (with_reducible show wpAny _ _ (subscriptTail _ _ (Value.str (PySem.Str.ofString _) _) (Value.int _ _)) _ _ _); (refine item_alpha (Int.fmod_nonneg_of_pos _ (by decide)) (Int.fmod_lt_of_pos _ (by decide)) ?_); intro _; (try dsimp only)))
local macro_rules | `(tactic| walk_at "subscriptTail Name Slice ref ref") => `(tactic| (k_here; k_dflt (refine' krv_lit ?mF ?mN ?ml ?mk ?me ?_ ?ms ?mt ?mz; (case mF => k_asm); (case mN => k_asm); (case ml => kmk_list); (case mk => exact IsPart.int _ _); (case me => rfl); (case ms => with_unfolding_all rfl); (case mt => kmk_pure); (case mz => (simp only [List.size_toArray, sizeLine_eq]; omega))); intro D' h' F' N' l1; (try k_lt l1); (try k_sweep)))
local macro_rules | `(tactic| walk_at "call builtin:str.join") => `(tactic| (k_here; (refine join_call (by is_list) (by assumption) (by omega) ?_); intro _ _))
local macro_rules | `(tactic| walk_at "call builtin:list.append") => `(tactic| (k_here; k_dflt (refine' append_K ?k1 ?k2 ?k3 ?_ ?z; (case k1 => k_asm); (case k2 => k_asm); (case k3 => first | exact Upd.head (by assumption) | exact Upd.tail (by k_ne) (Upd.head (by assumption))); (case z => (simp only [List.size_toArray, sizeLine_eq]; omega)); k_whole); intro h' F' N'; (try k_sweep)))
local macro_rules | `(tactic| walk_at "binaryOp Mult str int") => `(tactic| (k_here; (refine ones_mul (by omega) (by omega) ?_); intro _ _))
local macro_rules | `(tactic| walk_at "binaryOp Add str str") => `(tactic| (k_here; (refine add_strOf ?mz ?_; (case mz => (simp only [List.length_replicate]; omega))); intro _ _))
theorem enc_end {b : Array UInt8} {cs : List Nat} {k : Nat} {c : Int} (hn : digs 58 (val 256 (bds b)) = cs) (hc : c = (k : Int)) (hk : lz (bds b) = k) : strOf (List.replicate c.toNat 0 ++ cs) = enc b := by
  unfold enc conv
  rw [hc, Int.toNat_natCast, hk, hn]
theorem item_zero {prog : Program} {w : World} {A : Around} {E : Value → Shared → Prop} {s : Shared} {t u : Tok} {Q : Value → Shared → Prop} {value slice : PySem.Expr} (h : ∀ t', Q (.str (digit 0) t') { s with toks := s.toks + 1 })
    (hs : subscripted slice false (.str alpha t) (.int 0 u) = operate [.str alpha t, .int 0 u] (getItem (.str alpha t) (.int 0 u)) := by with_unfolding_all rfl)
    (ht : ∀ r, letTemporaryGo value (.str alpha t) r = pure () := by intro _; with_unfolding_all rfl) :
    wpAny (model prog w) A (subscriptTail value slice (.str alpha t) (.int 0 u)) Q E s := item_alpha (by decide) (by decide) h hs ht
theorem allLt_ne {d : Addr} {l : List (Addr × Obj)} (h : AllLt d l) : ∀ p ∈ l, p.1 ≠ d := by
  induction l with
  | nil => intro p hp; cases hp
  | cons q r ih =>
    intro p hp
    cases hp with
    | head => exact Nat.ne_of_lt h.1
    | tail _ hp => exact ih h.2 p hp
theorem strs_rev {vs : List Value} {ys : List Str} (h : StrsAre vs ys) : StrsAre vs.reverse ys.reverse := by
  induction h with
  | nil => exact .nil
  | cons y t _ ih =>
    rw [List.reverse_cons, List.reverse_cons]
    exact ih.append' (.cons _ _ .nil)
theorem digs_step {N : Nat} {n : Int} {cs : List Nat} (h0 : 0 < n) (h : digs 58 N = digs 58 n.toNat ++ cs.reverse) : digs 58 N = digs 58 (n.fdiv 58).toNat ++ (cs ++ [(n.fmod 58).toNat]).reverse := by
  obtain ⟨k, rfl⟩ := Int.eq_ofNat_of_zero_le (Int.le_of_lt h0)
  have e1 : ((k : Int).fdiv 58).toNat = k / 58 := by
    rw [Int.fdiv_eq_ediv_of_nonneg _ (by decide)]
    omega
  have e2 : ((k : Int).fmod 58).toNat = k % 58 := by
    rw [Int.fmod_eq_emod_of_nonneg _ (by decide)]
    omega
  rw [e1, e2, h, Int.toNat_natCast, digs_pos (by decide) (by omega)]
  simp
local macro_rules | `(tactic| walk_at "subscriptTail Name Constant str int") => `(tactic| (k_here; (with_reducible show wpAny _ _ (subscriptTail _ _ (Value.str (PySem.Str.ofString _) _) (Value.int _ _)) _ _ _); (refine item_zero ?_); intro _; (try dsimp only)))
set_option maxHeartbeats 4000000 in
theorem encode_con (w : World) (b : Array UInt8) (t : Tok) (hb : b.size ≤ 100) :
    Con w 96 [.bytes b t] 20 200 (fun _ => True) (fun r => ∃ t', r = .str (enc b) t') := by
  intro mean mg mb dp un gd cn cs a ccd cl outer A₀ base h₀ L m news s Q E B F X N T hk hpre hd hu hret
  refine wpAny_call ?_
  k_dflt cell_enter
  w_top off
  k_steps
  unfold Stop
  rename_i l₁ _ hl₁ _ F₀ N₀
  first
    | (rename_i x₁ _ _; have hx₁ : @LT.lt Nat _ x₁ l₁ := hl₁.1)
    | (rename_i x₁ _ _ _; have hx₁ : @LT.lt Nat _ x₁ l₁ := hl₁.1)
    | (rename_i x₁ _ _ _ _; have hx₁ : @LT.lt Nat _ x₁ l₁ := hl₁.1)
    | (rename_i x₁ _ _ _ _ _; have hx₁ : @LT.lt Nat _ x₁ l₁ := hl₁.1)
    | (rename_i x₁ _ _ _ _ _ _; have hx₁ : @LT.lt Nat _ x₁ l₁ := hl₁.1)
    | (rename_i x₁ _ _ _ _ _ _ _; have hx₁ : @LT.lt Nat _ x₁ l₁ := hl₁.1)
    | (rename_i x₁ _ _ _ _ _ _ _ _; have hx₁ : @LT.lt Nat _ x₁ l₁ := hl₁.1)
    | (rename_i x₁ _ _ _ _ _ _ _ _ _; have hx₁ : @LT.lt Nat _ x₁ l₁ := hl₁.1)
    | (rename_i x₁ _ _ _ _ _ _ _ _ _ _; have hx₁ : @LT.lt Nat _ x₁ l₁ := hl₁.1)
    | (rename_i x₁ _ _ _ _ _ _ _ _ _ _ _; have hx₁ : @LT.lt Nat _ x₁ l₁ := hl₁.1)
    | (rename_i x₁ _ _ _ _ _ _ _ _ _ _ _ _; have hx₁ : @LT.lt Nat _ x₁ l₁ := hl₁.1)
    | (rename_i x₁ _ _ _ _ _ _ _ _ _ _ _ _ _; have hx₁ : @LT.lt Nat _ x₁ l₁ := hl₁.1)
  have hnl : ∀ p ∈ (x₁, KFB.bound) :: news, p.1 ≠ l₁ := List.forall_mem_cons.mpr ⟨Nat.ne_of_lt hl₁.1, allLt_ne hl₁.2⟩
  have hdl := digs_length (B := 58) (by decide) _ _ (bval_bits b)
  refine ksw_while (σ := (Int × Tok) × List Nat × List Value × Nat) (fun c => (l₁, listOf c.2.2.1.toArray c.2.2.2) :: (x₁, KFB.bound) :: news) (fun c => [(Str.ofString "n", Value.int c.1.1 c.1.2)]) (fun c => StrsAre c.2.2.1 (c.2.1.map digit)) [Str.ofString "r"] (fun c => 0 ≤ c.1.1 ∧ digs 58 (val 256 (bds b)) = digs 58 c.1.1.toNat ++ c.2.1.reverse ∧ ∀ d ∈ c.2.1, d < 58) (fun c => c.1.1.toNat) ((val 256 (bds b), _), [], [], 0) F₀ N₀ .nil (by intro p hp; cases hp with | head => rfl | tail _ h => cases h) ⟨by simp, by simp, by intro d hd; cases hd⟩ ?_
  rintro ⟨⟨n, tn⟩, cs, vs, k⟩ u h tk hf hp F₁ N₁
  dsimp only at hf hp F₁ N₁
  obtain ⟨hp0, hp1, hp2⟩ := hp
  have hcl : cs.length ≤ 8 * b.size := by
    have := congrArg List.length hp1
    rw [List.length_append, List.length_reverse] at this
    omega
  have hvl : vs.length = cs.length := by
    have := hf.len_eq
    rw [List.length_map] at this
    exact this
  have hrev := strs_rev hf
  rw [← List.map_reverse] at hrev
  have hrl := List.length_reverse (as := cs)
  have hbl := bds_length b
  have hsz : @LT.lt Nat _ l₁ h.objs.size := Heap.lt_size (N₁ _ (.head _)).1
  k_steps
  · unfold Stop
    rename News _ _ _ _ => nE
    simp only [List.push_toArray] at nE
    refine ksw_end ((n.fdiv 58, _), cs ++ [(n.fmod 58).toNat], vs ++ [Value.str (digit (n.fmod 58).toNat) _], k + 1) (by assumption) nE (fun p hp => List.Mem.tail _ hp) ?kc (fun p hp => by cases hp with | head => rfl | tail _ h => cases h) ?kd ?ke ?kf
    case kc =>
      show StrsAre (vs ++ [_]) ((cs ++ [(n.fmod 58).toNat]).map digit)
      rw [List.map_append]
      exact hf.append' (.cons _ _ .nil)
    case kd => (intro z h2 h3; (simp only [List.forall_mem_cons, List.not_mem_nil, false_implies, implies_true, and_true, ne_eq] at h2); (try simp only [List.contains_cons, List.contains_nil, Bool.or_false, Bool.or_eq_false_iff, beq_eq_false_iff_ne, ne_eq] at h3); simp [h2, h3, kstB])
    case ke =>
      refine ⟨Int.fdiv_nonneg hp0 (by decide), digs_step (by assumption) hp1, fun d hd => ?_⟩
      rcases List.mem_append.mp hd with h9 | h9
      · exact hp2 d h9
      · rw [List.mem_singleton.mp h9]
        have h1 := Int.fmod_lt_of_pos n (b := 58) (by decide)
        have h2 := Int.fmod_nonneg_of_pos n (b := 58) (by decide)
        omega
    case kf =>
      show (n.fdiv 58).toNat < n.toNat
      rw [Int.fdiv_eq_ediv_of_nonneg _ (by decide)]
      omega
  · unfold Stop
    have hn : n.toNat = 0 := by omega
    rw [hn, digs_zero, List.nil_append] at hp1
    refine KStb.kst_bytes (σ := Int × Tok) (fun _ => news) (fun c => [(Str.ofString "pad", Value.int c.1 c.2)]) (fun _ => True) [] (fun pre c => c.1 = pre.length ∧ ∀ d ∈ (bds b).take pre.length, d = 0) (0, _) (ints_bds b) rfl rfl (by assumption) (cb_drop (by assumption) (by intro p hp; repeat (first | exact hp | refine List.Mem.tail _ ?_))) trivial (by intro p hp; cases hp with | head => rfl | tail _ h => cases h) ⟨rfl, by intro d h; cases h⟩ ?_ ?_
    · intro c pre post n t u h tk own heq hlt0 hn0 hn256 hoff hf hp F₁ N₁
      obtain ⟨d, hdm, rfl, htk, hlt⟩ := ints_at heq
      obtain ⟨hq1, hq2⟩ := hp
      k_steps
      · show c.1 + 1 = _
        rw [List.length_append, hq1]
        push_cast
        rfl
      · rename_i hm
        rw [List.length_append] at hm
        exact zero_step htk hq2 (Int.ofNat_inj.mp (by assumption)) _ hm
      · exact hret _ _ _ ⟨_, congrArg (fun x => Value.str x _) (enc_end hp1 hq1 (lz_at hq2 htk (fun e => absurd (congrArg (fun x : Nat => (x : Int)) e) (by assumption))))⟩ (by assumption) (by first | assumption | exact cb_drop (by assumption) (fun p hp => List.mem_append_left _ hp))
    · intro c u h tk hlen hf hp F₁ N₁
      obtain ⟨hq1, hq2⟩ := hp
      rw [List.length_map] at hq1 hq2
      rw [List.take_length] at hq2
      k_steps
      exact hret _ _ _ ⟨_, congrArg (fun x => Value.str x _) (enc_end hp1 hq1 (lz_all hq2))⟩ (by assumption) (by assumption)
end Mine
-- C2
namespace Mine
local macro_rules | `(tactic| k_room) => `(tactic| ((try simp only [depth_under_make, depth_under_kw, depth_in1, depth_deeper, depth_caller]); (try dsimp only [ktrTop]); omega))
local macro_rules | `(tactic| ktr_room) => `(tactic| ((try simp only [depth_under_make, depth_under_kw, depth_in1, depth_deeper, depth_caller]); (try dsimp only [ktrTop]); omega))
local macro_rules | `(tactic| k_units) => `(tactic| ((try simp only [units_in1, units_deeper, Around.mark_units, units_caller]); (try dsimp only [ktrTop]); (have hcL9 := cLine_is); omega))

/-- the script's number at a place: read round and round -/
def cell (ns : List Int) (p : Int) : Int := ns.getD (p.fmod ns.length).toNat 0 + 7 * p
theorem cell_bits {ns : List Int} {p : Int} (h : ∀ n ∈ ns, Builtin.Int.intBits n ≤ 1048576) (h0 : 0 ≤ p) (h1 : p < 100) : Builtin.Int.intBits (cell ns p) ≤ 1048577 := by
  unfold cell
  refine intBits_add_le (m := 1048576) (n := 1048576) ?_ ?_
  · generalize (p.fmod ns.length).toNat = j
    by_cases hj : j < ns.length
    · have e : ns.getD j 0 = ns[j] := by simp [List.getD, hj]
      rw [e]
      exact h _ (List.getElem_mem hj)
    · have e : ns.getD j 0 = 0 := by simp [List.getD, Nat.not_lt.mp hj]
      rw [e]
      decide
  · refine Nat.le_trans (intBits_le_64 ?_ ?_) (by decide) <;> omega
theorem cell_nil {ns : List Int} (h : ns.length = 0) (p : Int) : 0 + 7 * p = cell ns p := by
  have e : ns = [] := List.eq_nil_of_length_eq_zero h
  subst e
  rfl
set_option maxHeartbeats 4000000 in
theorem number_con (w : World) (l : Addr) (vs : List Value) (ns : List Int) (p : Int) (t : Tok) (hp : 0 ≤ p) (hp2 : p < 100) :
    Con w 124 [.ref l, .int p t] 10 100 (fun h => h.IsList l vs.toArray ∧ IntsAre vs ns ∧ ns.length ≤ 63) (fun r => ∃ t', r = .int (cell ns p) t') := by
  intro mean mg mb dp un gd cn cs a ccd cl outer A₀ base h₀ L m news s Q E B F X N T hk hpre hd hu hret
  obtain ⟨hl, hi, hlen⟩ := hpre
  refine wpAny_call ?_
  k_dflt cell_enter
  w_top off
  k_steps
  · exact hret _ _ _ ⟨_, rfl⟩ (by assumption) (by assumption)
  · exact hret _ _ _ ⟨_, congrArg (fun z => Value.int z _) (cell_nil (by omega) p)⟩ (by assumption) (by assumption)

def rowB (x k : Int) : Array UInt8 := bytOf (fixd 256 k.toNat (Int.fmod (x * 16395309179817738009521987751666139093583423331470737840399399094199505546377) (256 ^ k.toNat)).toNat)
theorem rowB_size (x k : Int) : (rowB x k).size = k.toNat := by
  unfold rowB
  rw [bytOf_eq, List.size_toArray, List.length_map, fixd_length]
theorem p256_pos (k : Nat) : (0 : Int) < 256 ^ k := by
  rw [KTBy.p256]
  exact Int.ofNat_lt.mpr (Nat.pow_pos (by decide))
theorem tb_row {prog : Program} {w : World} {A : Around} {E : Value → Shared → Prop} {s : Shared} {x k : Int} {t u v : Tok} {Q : Value → Shared → Prop} (hk0 : 0 ≤ k) (hk : k ≤ 4096) (h : ∀ t' k', Q (.bytes (rowB x k) t') { s with toks := k' }) :
    wpAny (model prog w) A (call (.builtin "int.to_bytes") [.int (Int.fmod (x * 16395309179817738009521987751666139093583423331470737840399399094199505546377) (256 ^ k.toNat)) t, .int k u, .str (PySem.Str.ofString "big") v]) Q E s :=
  tb_callZ hk0 hk (Int.fmod_nonneg_of_pos _ (p256_pos _)) (Int.fmod_lt_of_pos _ (p256_pos _)) h
local macro_rules | `(tactic| walk_at "call builtin:int.to_bytes") => `(tactic| (k_here; (refine tb_row (by assumption) (by omega) ?_); intro _ _))
local macro_rules | `(tactic| walk_at "binaryOp Mult int int") => `(tactic| (k_here; (refine PyProof.Rows.mul_int ?_ ?mm); (case mm => (refine mul_ok (Nat.le_trans (by assumption) ?_) (by decide +kernel); decide))))
local macro_rules | `(tactic| walk_at "binaryOp Mod int int") => `(tactic| (k_here; (refine PyProof.Rows.mod_int' (Int.ne_of_gt (p256_pos _)) ?_)))
local macro_rules | `(tactic| walk_at "binaryOp Pow int int") => `(tactic| (k_here; (refine PyProof.Rows.pow_int_small (by assumption) ?mk (by decide) ?_); (case mk => omega)))
set_option maxHeartbeats 4000000 in
theorem row_con (w : World) (x k : Int) (t u : Tok) (hx : Builtin.Int.intBits x ≤ 1048577) (hk0 : 0 ≤ k) (hk24 : k ≤ 24) :
    Con w 131 [.int x t, .int k u] 10 100 (fun _ => True) (fun r => ∃ t', r = .bytes (rowB x k) t') := by
  intro mean mg mb dp un gd cn cs a ccd cl outer A₀ base h₀ L m news s Q E B F X N T hk hpre hd hu hret
  refine wpAny_call ?_
  k_dflt cell_enter
  w_top off
  k_steps
  exact hret _ _ _ ⟨_, rfl⟩ (by assumption) (by assumption)
end Mine
-- C3
namespace Mine
local macro_rules | `(tactic| walk_at "zz0") => `(tactic| skip)
local macro_rules | `(tactic| k_room) => `(tactic| ((try simp only [depth_under_make, depth_under_kw, depth_in1, depth_deeper, depth_caller]); (try dsimp only [ktrTop]); omega))
local macro_rules | `(tactic| ktr_room) => `(tactic| ((try simp only [depth_under_make, depth_under_kw, depth_in1, depth_deeper, depth_caller]); (try dsimp only [ktrTop]); omega))
local macro_rules | `(tactic| k_units) => `(tactic| ((try simp only [units_in1, units_deeper, Around.mark_units, units_caller]); (try dsimp only [ktrTop]); (have hcL9 := cLine_is); omega))

/-- b[:4], b[:-4], b[-4:] -/
@[irreducible] def hd4 (b : Array UInt8) : Array UInt8 := KBy.picked b none (some 4)
@[irreducible] def ini (b : Array UInt8) : Array UInt8 := KBy.picked b none (some (-4))
@[irreducible] def lst (b : Array UInt8) : Array UInt8 := KBy.picked b (some (-4)) none
theorem hd4_eq (b : Array UInt8) : hd4 b = (b.toList.take 4).toArray := by
  unfold hd4
  rw [KBc.picked_eq]
  show ((b.toList.drop 0).take (clipAt b.size 4 - 0)).toArray = _
  have e : clipAt b.size 4 = min 4 b.size := clipAt_nat b.size 4
  rw [e, List.drop_zero, Nat.sub_zero, ← Array.length_toList]
  congr 1
  rw [List.take_eq_take_iff]
  omega
theorem ini_eq (b : Array UInt8) : ini b = (b.toList.take (b.size - 4)).toArray := by
  unfold ini
  rw [KBc.picked_eq]
  show ((b.toList.drop 0).take (clipAt b.size (-4) - 0)).toArray = _
  have e : clipAt b.size (-4) = b.size - 4 := by
    unfold clipAt
    rw [if_pos (by decide)]
    omega
  rw [e, List.drop_zero, Nat.sub_zero]
theorem lst_eq (b : Array UInt8) : lst b = (b.toList.drop (b.size - 4)).toArray := by
  unfold lst
  rw [KBc.picked_eq]
  show ((b.toList.drop (clipAt b.size (-4))).take (b.size - clipAt b.size (-4))).toArray = _
  have e : clipAt b.size (-4) = b.size - 4 := by
    unfold clipAt
    rw [if_pos (by decide)]
    omega
  rw [e, List.take_of_length_le (by simp)]
theorem hd4_zero (b : Array UInt8) : KBy.picked b (some 0) (some 4) = hd4 b := by
  unfold hd4
  rw [KBc.picked_eq, KBc.picked_eq]
  have e : clipAt b.size 0 = 0 := by
    unfold clipAt
    rw [if_neg (by decide)]
    omega
  show ((b.toList.drop (clipAt b.size 0)).take (clipAt b.size 4 - clipAt b.size 0)).toArray = ((b.toList.drop 0).take (clipAt b.size 4 - 0)).toArray
  rw [e]
theorem hd4_size (b : Array UInt8) : (hd4 b).size = min 4 b.size := by
  rw [hd4_eq, List.size_toArray, List.length_take, Array.length_toList]
theorem ini_size (b : Array UInt8) : (ini b).size = b.size - 4 := by
  rw [ini_eq, List.size_toArray, List.length_take, Array.length_toList]
  omega
theorem lst_size (b : Array UInt8) : (lst b).size = min 4 b.size := by
  rw [lst_eq, List.size_toArray, List.length_drop, Array.length_toList]
  omega
theorem ini_app {b c : Array UInt8} (h : c.size = 4) : ini (b ++ c) = b := by
  rw [ini_eq, Array.size_append, h, Array.toList_append]
  have e : b.size + 4 - 4 = b.toList.length := by rw [Array.length_toList]; omega
  rw [e, List.take_left']
  rfl
theorem lst_app {b c : Array UInt8} (h : c.size = 4) : lst (b ++ c) = c := by
  rw [lst_eq, Array.size_append, h, Array.toList_append]
  have e : b.size + 4 - 4 = b.toList.length := by rw [Array.length_toList]; omega
  rw [e, List.drop_left']
  rfl
section
variable {prog : Program} {w : World} {A : Around} {E : Value → Shared → Prop} {s : Shared} {value slice : PySem.Expr} {b : Array UInt8} {t : Tok} {h₀ : Heap} {L : Addr} {m : PySem.Str → Option Value} {news : List (Addr × Obj)} {l u : Value} {lo hi : Option Int} {Q : Value → Shared → Prop}
theorem slice_P (hF : Fr h₀ L s.heap m) (hN : News h₀ L s.heap news) (hl : IsPart l lo) (hu : IsPart u hi) (hz : b.size ≤ 100000)
    (h : ∀ h' t' k, Fr h₀ L h' m → News h₀ L h' news → Q (.bytes (KBy.picked b lo hi) t') { s with heap := h', toks := k })
    (hs : subscripted slice false (.bytes b t) (.ref s.heap.objs.size) = operate [.ref s.heap.objs.size, .bytes b t] (getItem (.bytes b t) (.ref s.heap.objs.size)) := by with_unfolding_all rfl)
    (ht : ∀ r, letTemporaryGo value (.bytes b t) r = pure () := by intro _; with_unfolding_all rfl) :
    wpAny (model prog w) A (subscriptTail value slice (.bytes b t) (.ref s.heap.objs.size)) Q E { s with heap := s.heap.push { cls := .type "slice", data := .fields #[l, u, .none] } } :=
  KBc.slice_K hF hN rfl hl hu (by rw [KBw.ints_length]; omega) (fun h' t' k a c _ => h h' t' k a c) hs ht
end
local macro_rules | `(tactic| walk_at "call ref") => `(tactic| (k_here; k_dflt (refine' Con.use (dsha_con _ _ _ ?mb) ?mB ?mF ?mX ?mN ?mT ?mk ?mp ?md ?mu ?_; (case mB => k_asm); (case mF => k_asm); (case mX => k_asm); (case mN => k_asm); (case mT => k_asm); (case mk => exact rfl); (case mp => trivial); (case md => ktr_room); (case mu => k_units); (case mb => first | assumption | omega)); intro r9 h9 tk9 R9 F9 N9; obtain ⟨t9, e9⟩ := R9; subst e9; (try dsimp only); (try k_fold)))
local macro_rules | `(tactic| walk_at "call ref") => `(tactic| (k_here; k_dflt (refine' Con.use (encode_con _ _ _ ?mb) ?mB ?mF ?mX ?mN ?mT ?mk ?mp ?md ?mu ?_; (case mB => k_asm); (case mF => k_asm); (case mX => k_asm); (case mN => k_asm); (case mT => k_asm); (case mk => exact rfl); (case mp => trivial); (case md => ktr_room); (case mu => k_units); (case mb => first | assumption | omega | (simp only [Array.size_append, hd4_size, dsha_size]; omega))); intro r9 h9 tk9 R9 F9 N9; obtain ⟨t9, e9⟩ := R9; subst e9; (try dsimp only); (try k_fold)))

local macro_rules | `(tactic| walk_at "subscriptTail Name Slice bytes ref") => `(tactic| (k_here; (refine' slice_P (s := ⟨_, _, _, _, _⟩) ?mF ?mN ?ml ?mu ?mz ?_; (case mF => k_asm); (case mN => k_asm); (case ml => constructor); (case mu => constructor); (case mz => (simp only [dsha_size]; decide))); intro _ _ _ _ _; simp only [hd4_zero]))
local macro_rules | `(tactic| walk_at "binaryOp Add bytes bytes") => `(tactic| (k_here; (refine KBy.add_bytes ?mz ?_; (case mz => (simp only [hd4_size, dsha_size]; omega))); intro _ _))
set_option maxHeartbeats 4000000 in
theorem encode_check_con (w : World) (b : Array UInt8) (t : Tok) (hb : b.size ≤ 90) :
    Con w 110 [.bytes b t] 30 300 (fun _ => True) (fun r => ∃ t', r = .str (enc (b ++ hd4 (dsha b))) t') := by
  intro mean mg mb dp un gd cn cs a ccd cl outer A₀ base h₀ L m news s Q E B F X N T hk hpre hd hu hret
  have hb100 : b.size ≤ 100 := by omega
  refine wpAny_call ?_
  k_dflt cell_enter
  w_top off
  k_steps
  exact hret _ _ _ ⟨_, rfl⟩ (by assumption) (by assumption)
end Mine
-- C4
namespace Mine
local macro_rules | `(tactic| walk_at "zz0") => `(tactic| skip)
local macro_rules | `(tactic| k_room) => `(tactic| ((try simp only [depth_under_make, depth_under_kw, depth_in1, depth_deeper, depth_caller]); (try dsimp only [ktrTop]); omega))
local macro_rules | `(tactic| ktr_room) => `(tactic| ((try simp only [depth_under_make, depth_under_kw, depth_in1, depth_deeper, depth_caller]); (try dsimp only [ktrTop]); omega))
local macro_rules | `(tactic| k_units) => `(tactic| ((try simp only [units_in1, units_deeper, Around.mark_units, units_caller]); (try dsimp only [ktrTop]); (have hcL9 := cLine_is); omega))

theorem ini_fold (b : Array UInt8) : KBy.picked b none (some (-4)) = ini b := by
  unfold ini
  rfl
theorem lst_fold (b : Array UInt8) : KBy.picked b (some (-4)) none = lst b := by
  unfold lst
  rfl
theorem hd4_fold (b : Array UInt8) : KBy.picked b none (some 4) = hd4 b := by
  unfold hd4
  rfl
section
open Builtin
theorem slot_brepr : Slot "bytes" "__repr__" "bytes.__repr__" :=
  .of (owner := "bytes") (n := "__repr__") (by rw [typeLookup_type, builtinLookup_eq_fast]; kernel_rfl) (by decide +kernel) (by decide +kernel) (by decide +kernel)
    (by first | exact .inl (by decide +kernel) | exact .inr (by decide +kernel)) (by rw [isSubtype_type]; kernel_rfl)
theorem entry_brepr : entryFor table "bytes.__repr__" = some Builtin.«bytes.__repr__» := entryFor_of_tree (by kernel_rfl)
theorem args_brepr (a : Value) : argsOk "bytes.__repr__" ⟨[a], []⟩ := by unfold argsOk; kernel_rfl
theorem fold_size (f : UInt8 → Array Nat) (hf : ∀ c, (f c).size ≤ 4) : ∀ (l : List UInt8) (acc : Array Nat), (l.foldl (fun acc c => acc ++ f c) acc).size ≤ acc.size + 4 * l.length
  | [], acc => by simp
  | c :: r, acc => by
    rw [List.foldl_cons, List.length_cons]
    have h := fold_size f hf r (acc ++ f c)
    have h2 := hf c
    rw [Array.size_append] at h
    omega
theorem literal_length (b : Array UInt8) : (Bytes.literal b).length ≤ 3 + 4 * b.size := by
  unfold Bytes.literal
  show (Array.push _ _).size ≤ _
  rw [Array.size_push, ← Array.foldl_toList]
  refine Nat.le_trans (Nat.succ_le_succ (fold_size _ (fun c => ?_) b.toList _)) ?_
  · dsimp only
    (repeat' split) <;> exact Nat.le_of_ble_eq_true rfl
  · rw [Array.length_toList]
    show (2 : Nat) + 4 * b.size + 1 ≤ _
    omega
theorem gives_brepr {b : Array UInt8} {t : Tok} (hb : b.size ≤ 1000) : Gives («bytes.__repr__» ⟨[.bytes b t], []⟩) (.str (Bytes.literal b)) := by
  refine .of_wp fun M A E s Q hq => ?_
  show wpAny M A (Bytes.literalAsked b >>= fun x => retStr x) _ E s
  have e : Bytes.literalAsked b = pure (Bytes.literal b) := by
    unfold Bytes.literalAsked
    have h : Bytes.tooLong (4 * b.size + 3 + 0) = false := KBy.tooLong_not (by omega)
    rw [h]
    rfl
  rw [e]
  refine wpAny_bind (wpAny_pure ?_)
  unfold retStr
  exact wpAny_bind (wpAny_mkStr (wpAny_pure ⟨_, rfl, hq.2⟩) hq.1)
theorem repr_by {prog : Program} {w : World} {A : Around} {E : Value → Shared → Prop} {s : Shared} {b : Array UInt8} {t : Tok} {Q : Value → Shared → Prop} (hb : b.size ≤ 1000) (h : ∀ x t' k, x.length ≤ 4003 → Q (.str x t') { s with toks := k }) :
    wpAny (model prog w) A (pyReprObj (.bytes b t)) Q E s := by
  have hl := literal_length b
  exact wpAny_pyReprObj_gives (typeIs_bytes s b t) slot_brepr entry_brepr (args_brepr _) (gives_brepr hb) (h _ _ _ (by omega)) rfl (by rw [sizeLine_eq]; omega)
end
theorem ne_by {prog : Program} {w : World} {A : Around} {E : Value → Shared → Prop} {s : Shared} {b c : Array UInt8} {t u : Tok} {Q : Value → Shared → Prop} (h : Q (.bool (decide (b ≠ c))) s) : wpAny (model prog w) A (compareOp .NotEq (.bytes b t) (.bytes c u)) Q E s := by
  refine ne_bytes ?_
  have e : (b.toList != c.toList) = decide (b ≠ c) := by
    by_cases hbc : b = c
    · subst hbc
      simp
    · have : b.toList ≠ c.toList := fun e => hbc (Array.toList_inj.mp e)
      simp [hbc, this]
  rw [e]
  exact h
local macro_rules | `(tactic| walk_at "call ref") => `(tactic| (k_here; k_dflt (refine' Con.use (dsha_con _ _ _ ?mb) ?mB ?mF ?mX ?mN ?mT ?mk ?mp ?md ?mu ?_; (case mB => k_asm); (case mF => k_asm); (case mX => k_asm); (case mN => k_asm); (case mT => k_asm); (case mk => exact rfl); (case mp => trivial); (case md => ktr_room); (case mu => k_units); (case mb => (simp only [ini_size]; omega))); intro r9 h9 tk9 R9 F9 N9; obtain ⟨t9, e9⟩ := R9; subst e9; (try dsimp only); (try k_fold)))
local macro_rules | `(tactic| walk_at "call ref") => `(tactic| (k_here; k_dflt (refine' Con.use (decode_all _ _ _ ?mb ?mc) ?mB ?mF ?mX ?mN ?mT ?mk ?mp ?md ?mu ?_; (case mB => k_asm); (case mF => k_asm); (case mX => k_asm); (case mN => k_asm); (case mT => k_asm); (case mk => exact rfl); (case mp => trivial); (case md => ktr_room); (case mu => k_units); (case mb => assumption); (case mc => assumption)); intro r9 h9 tk9 R9 F9 N9; obtain ⟨t9, e9⟩ := R9; subst e9; (try dsimp only); (try k_fold)))

local macro_rules | `(tactic| walk_at "subscriptTail Name Slice bytes ref") => `(tactic| (k_here; (refine' slice_P (s := ⟨_, _, _, _, _⟩) ?mF ?mN ?ml ?mu ?mz ?_; (case mF => k_asm); (case mN => k_asm); (case ml => constructor); (case mu => constructor); (case mz => first | omega | (rw [dsha_size]; decide))); intro _ _ _ _ _; simp only [hd4_zero, ini_fold, lst_fold, hd4_fold]))
local macro_rules | `(tactic| walk_at "compareOp NotEq bytes bytes") => `(tactic| (k_here; (refine ne_by ?_)))
theorem ne_same {prog : Program} {w : World} {A : Around} {E : Value → Shared → Prop} {s : Shared} {b c : Array UInt8} {t u : Tok} {Q : Value → Shared → Prop} (e : b = c) (h : Q (.bool false) s) : wpAny (model prog w) A (compareOp .NotEq (.bytes b t) (.bytes c u)) Q E s := by
  subst e
  refine ne_by ?_
  simpa using h
theorem ne_diff {prog : Program} {w : World} {A : Around} {E : Value → Shared → Prop} {s : Shared} {b c : Array UInt8} {t u : Tok} {Q : Value → Shared → Prop} (e : b ≠ c) (h : Q (.bool true) s) : wpAny (model prog w) A (compareOp .NotEq (.bytes b t) (.bytes c u)) Q E s := by
  refine ne_by ?_
  simpa [e] using h
local macro_rules | `(tactic| walk_at "compareOp NotEq bytes bytes") => `(tactic| (k_here; first | (refine ne_same (by assumption) ?_) | (refine ne_diff (by assumption) ?_)))
local macro_rules | `(tactic| walk_at "pyReprObj bytes") => `(tactic| (k_here; (refine repr_by ?mz ?_; (case mz => (simp only [lst_size, hd4_size]; omega))); intro _ _ _ _))
set_option maxHeartbeats 4000000 in
theorem decode_check_ok (w : World) (ds : List Nat) (t : Tok) (hb : ds.length ≤ 400) (hds : ∀ d ∈ ds, d < 58) (hgood : lst (decQ ds) = hd4 (dsha (ini (decQ ds)))) :
    Con w 117 [.str (strOf ds) t] 30 300 (fun _ => True) (fun r => ∃ t', r = .bytes (ini (decQ ds)) t') := by
  intro mean mg mb dp un gd cn cs a ccd cl outer A₀ base h₀ L m news s Q E B F X N T hk hpre hd hu hret
  have hq := decQ_size hds
  refine wpAny_call ?_
  k_dflt cell_enter
  w_top off
  k_steps
  exact hret _ _ _ ⟨_, rfl⟩ (by assumption) (by assumption)
section
variable {prog : Program} {w : World} {A₀ A : Around} {s : Shared} {K : Frag} {base h₀ : Heap} {L f : Addr} {m mg mb : Str → Option Value} {env : Env} {news : List (Addr × Obj)} {p : Program} {loose : List Str} {mean : ExcName → Option Value}
  {R : Result → Shared → Prop} {name qual : Str} {params : Arguments} {body : List Stmt} {scope : Scope} {dV kV doc pm cdv ct oc : Value} {an od : Option Addr} {osl : Array (Option Value)} {args : Args} {binds : List (Str × Value)}
/-- a def with a try of its own, called from a frame that may hold cells -/
theorem enter_try (B : Below A₀ base [] h₀) (F : Fr h₀ L s.heap m) (X₀ : K.In h₀) (N : News h₀ L s.heap news) (T : Top p loose mean mg mb h₀) (hA : A.frames = some [env]) (hf : env.frame = some L) (hke : env.scope.kind = .function)
    (ho : K.lookup f = some ⟨oc, od, .func (fnOf name qual params body scope dV kV doc pm an cdv ct), osl⟩) (hcd : codeIn K cdv qual = true) (hroom : A.depth < recursionLimit)
    (hbind : BindsTo s (fnOf name qual params body scope dV kV doc pm an cdv ct) args binds) (hloc : ∀ y ∈ binds, scope.names.lookup y.1 = some .local)
    (h : ∀ g L' h₁, Fr h₀ L g m → Fr g L' h₁ (fun y => binds.reverse.lookup y) → News g L' h₁ news → Below A base [env] g → K.In g → Top p loose mean mg mb g → KtsDicts ([env].filterMap (·.frame)) g →
      wpAny (model prog w) (A.deeper (envOf qual scope L' f cdv)) (execs body (envOf qual scope L' f cdv))
        (fun fl s' => LeaveS0 ([env].filterMap (·.frame)) h₀ L m g R (match fl with | .ret v => v | _ => .none) s')
        (fun e s' => wpAny (model prog w) (A.deeper (envOf qual scope L' f cdv)) (leaving (envOf qual scope L' f cdv) e) (fun _ s'' => R (.error e) s'') (fun e' s'' => R (.error e') s'') s')
        { s with heap := h₁, toks := s.toks + binds.length })
    (hco : scope.isCoroutine = false) (hgen : scope.isGenerator = false) (hk : scope.kind = .function)
    (hcell : ∀ x ∈ scope.names, x.2 ≠ .cell) : codeAny (model prog w) A (.call (.ref f) args) R s := by
  have X := X₀.keeps F.keep
  obtain ⟨FG, BG, stay, -⟩ := groundX (R := R) B F N hA hf hke
  have mine : [env].filterMap (·.frame) = [L] := by simp [hf]
  have old : h₀.get? L = none := kts_self F
  obtain ⟨oL, es, ep, hL, hdict, hkeys, hrest⟩ := FG.ns
  refine codeAny_call_def (fd := fnOf name qual params body scope dV kV doc pm an cdv ct) (body := body) (binds := binds) hroom (X _ _ ho) rfl (T.nolimit.keeps F.keep) (codeRec_of X hcd) rfl hbind hcell hloc (fun h₁ hns hkeep => ?_) hco hgen hk
  have below : Fr (hideAll s.heap (news.map (·.1))) s.heap.objs.size h₁ (fun y => binds.reverse.lookup y) := ⟨hns, fun b o e => hkeep b o (of_hideAll _ e), Nat.le_of_eq (hideAll_size _ _)⟩
  have led : News (hideAll s.heap (news.map (·.1))) s.heap.objs.size h₁ news := fun q hq => ⟨hkeep _ _ (N q hq).1, Nat.ne_of_lt (Heap.lt_size (N q hq).1), hideAll_none _ (List.mem_map_of_mem hq)⟩
  have dicts : KtsDicts ([env].filterMap (·.frame)) (hideAll s.heap (news.map (·.1))) := by
    rw [mine]
    intro b hb
    rw [List.mem_singleton.mp hb]
    exact ⟨oL, es, ep, hL, hdict⟩
  refine wpAny_mono (h _ s.heap.objs.size h₁ FG below led BG (X₀.keeps stay) (T.keeps stay) dicts) (fun fl s' left => ?_) fun _ _ y => y
  obtain ⟨g', L', m', news', turned, F', N', back⟩ := left
  rw [mine] at turned
  obtain ⟨sl, hsl⟩ := turned.frame L oL hL (List.mem_singleton.mpr rfl)
  have kept : ∀ b o, h₀.get? b = some o → g'.get? b = some o := fun b o e => by
    refine turned.other b o (stay b o e) fun q => ?_
    rw [List.mem_singleton.mp q, old] at e
    cases e
  refine back ⟨⟨_, es, ep, F'.keep _ _ hsl, hdict, hkeys, hrest⟩, fun b o e => F'.keep b o (kept b o e), F.above⟩ fun q hq => ⟨(N' q hq).1, fun e => ?_, ?_⟩
  · have z := (N' q hq).2.2
    rw [e, hsl] at z
    cases z
  · have z := (N' q hq).2.2
    cases e : h₀.get? q.1 with
    | none => rfl
    | some o =>
      rw [kept _ _ e] at z
      cases z
end
/-- a contract for a call out of the first frame -/
def ConT (w : World) (f : Addr) (vs : List Value) (d u : Nat) (R : Value → Prop) : Prop :=
  ∀ (mean : ExcName → Option Value) (mg mb : Str → Option Value) (dp un : Nat) (gd : Option (List Code)) (cn : Str) (cs : Scope) (a : Addr) (ccd : Value) (cl : List (Str × Addr)) (A₀ : Around) (h₀ : Heap) (L : Addr) (m : Str → Option Value) (news : List (Addr × Obj)) (s : Shared) (Q E : Value → Shared → Prop),
    Below A₀ h₀ [] h₀ → Fr h₀ L s.heap m → (hd.heap_39 w.params).In h₀ → News h₀ L s.heap news → Top hd.view_39 (looseW hd.view_39 [Str.ofString "Sha256", Str.ofString "hashlib"]) mean mg mb h₀ → cs.kind = .function → dp + d < recursionLimit → un + u < cLine →
    (∀ r h' tk', R r → Fr h₀ L h' m → News h₀ L h' news → Q r { s with heap := h', toks := tk' }) →
    wpAny (model PySem.Challenge.rw_ai0019_01.row.prog w) (ktrTop dp un gd cn cs L a ccd cl []) (call (.ref f) vs) Q E s
set_option maxHeartbeats 4000000 in
theorem checked_bad (w : World) (ds : List Nat) (t : Tok) (hb : ds.length ≤ 400) (hds : ∀ d ∈ ds, d < 58) (hbad : lst (decQ ds) ≠ hd4 (dsha (ini (decQ ds)))) :
    ConT w 138 [.str (strOf ds) t] 40 400 (fun r => r = .none) := by
  intro mean mg mb dp un gd cn cs a ccd cl A₀ h₀ L m news s Q E B F X N T hk hd hu hret
  have hq := decQ_size hds
  refine wpAny_call ?_
  refine' enter_try ?k1 ?k2 ?k3 ?k4 ?k5 ?kA ?kf ?ke ?k6 ?k7 ?k8 ?k9 ?kB ?_ ?c2 ?c3 ?c4 ?c5
  case kA => exact rfl
  case kf => exact rfl
  case ke => exact hk
  case k2 => k_asm
  case k1 => k_asm
  case k3 => k_asm
  case k4 => k_asm
  case k5 => k_asm
  case k6 => k_dflt k_is
  case k7 => k_dflt k_is
  case k8 => k_room
  case k9 => exact BindsTo.of_eq rfl
  case kB => exact locs rfl
  case c2 => exact rfl
  case c3 => exact rfl
  case c4 => exact rfl
  case c5 => decide
  intro g' L' h' FG' F' N' B' X' T' D'
  (try dsimp only)
  (try k_lift B')
  (try k_fold)
  w_top off
  k_steps
  exact hret _ _ _ rfl (by assumption) (by assumption)
local macro_rules | `(tactic| walk_at "call ref") => `(tactic| (k_here; k_dflt (refine' Con.use (decode_check_ok _ _ _ ?mb ?mc ?me) ?mB ?mF ?mX ?mN ?mT ?mk ?mp ?md ?mu ?_; (case mB => k_asm); (case mF => k_asm); (case mX => k_asm); (case mN => k_asm); (case mT => k_asm); (case mk => exact rfl); (case mp => trivial); (case md => ktr_room); (case mu => k_units); (case mb => assumption); (case mc => assumption); (case me => assumption)); intro r9 h9 tk9 R9 F9 N9; obtain ⟨t9, e9⟩ := R9; subst e9; (try dsimp only); (try k_fold)))
set_option maxHeartbeats 4000000 in
theorem checked_good (w : World) (ds : List Nat) (t : Tok) (hb : ds.length ≤ 400) (hds : ∀ d ∈ ds, d < 58) (hgood : lst (decQ ds) = hd4 (dsha (ini (decQ ds)))) :
    Con w 138 [.str (strOf ds) t] 40 400 (fun _ => True) (fun r => ∃ t', r = .bytes (ini (decQ ds)) t') := by
  intro mean mg mb dp un gd cn cs a ccd cl outer A₀ base h₀ L m news s Q E B F X N T hk hpre hd hu hret
  refine wpAny_call ?_
  k_dflt cell_enter
  w_top off
  k_steps
  exact hret _ _ _ ⟨_, rfl⟩ (by assumption) (by assumption)
end Mine
-- L0
namespace Mine

theorem foldl_val (B : Nat) : ∀ (r : List Nat) (a : Nat), r.foldl (fun a d => a * B + d) a = a * B ^ r.length + r.foldl (fun a d => a * B + d) 0
  | [], a => by simp
  | x :: r, a => by
    rw [List.foldl_cons, List.foldl_cons, foldl_val B r (a * B + x), foldl_val B r (0 * B + x), List.length_cons, Nat.pow_succ, Nat.zero_mul, Nat.zero_add, Nat.add_mul, Nat.mul_assoc, Nat.mul_comm B, Nat.add_assoc]
theorem val_cons (B d : Nat) (r : List Nat) : val B (d :: r) = d * B ^ r.length + val B r := by
  rw [val_eq, val_eq, List.foldl_cons, foldl_val, Nat.zero_mul, Nat.zero_add]
theorem val_zeros (B k : Nat) (l : List Nat) : val B (List.replicate k 0 ++ l) = val B l := by
  induction k with
  | zero => rfl
  | succ k ih => rw [List.replicate_succ, List.cons_append, val_cons, ih, Nat.zero_mul, Nat.zero_add]
theorem val_nil (B : Nat) : val B [] = 0 := by
  rw [val_eq]
  rfl
theorem val_digs {B : Nat} (hB : 2 ≤ B) (n : Nat) : val B (digs B n) = n := by
  induction n using Nat.strongRecOn with
  | _ n ih =>
    rcases Nat.eq_zero_or_pos n with rfl | hp
    · rw [digs_zero, val_nil]
    · rw [digs_pos hB hp, val_snoc, ih _ (Nat.div_lt_self hp hB), Nat.mul_comm]
      exact Nat.div_add_mod n B
theorem digs_head {B : Nat} (hB : 2 ≤ B) (n : Nat) : digs B n = [] ∨ ∃ d r, digs B n = d :: r ∧ d ≠ 0 := by
  induction n using Nat.strongRecOn with
  | _ n ih =>
    rcases Nat.eq_zero_or_pos n with rfl | hp
    · exact .inl (digs_zero B)
    · right
      rw [digs_pos hB hp]
      rcases ih _ (Nat.div_lt_self hp hB) with h | ⟨d, r, h, hd⟩
      · rw [h]
        refine ⟨n % B, [], rfl, fun hz => ?_⟩
        have h2 := val_digs hB (n / B)
        rw [h, val_nil] at h2
        have h3 := Nat.div_add_mod n B
        rw [← h2, hz] at h3
        omega
      · rw [h]
        exact ⟨d, r ++ [n % B], rfl, hd⟩
theorem lz_cons_zero (l : List Nat) : lz (0 :: l) = lz l + 1 := by
  unfold lz
  rw [List.takeWhile_cons, if_pos (by rfl), List.length_cons]
theorem lz_cons_pos {d : Nat} (l : List Nat) (h : d ≠ 0) : lz (d :: l) = 0 := by
  unfold lz
  rw [List.takeWhile_cons, if_neg (by simpa using h)]
  rfl
theorem lz_zeros (k : Nat) (l : List Nat) : lz (List.replicate k 0 ++ l) = k + lz l := by
  induction k with
  | zero => rw [Nat.zero_add]; rfl
  | succ k ih => rw [List.replicate_succ, List.cons_append, lz_cons_zero, ih]; omega
theorem lz_digs {B : Nat} (hB : 2 ≤ B) (n : Nat) : lz (digs B n) = 0 := by
  rcases digs_head hB n with h | ⟨d, r, h, hd⟩
  · rw [h]; rfl
  · rw [h, lz_cons_pos r hd]
theorem lz_conv {B C : Nat} (hC : 2 ≤ C) (ds : List Nat) : lz (conv B C ds) = lz ds := by
  unfold conv
  rw [lz_zeros, lz_digs hC, Nat.add_zero]
theorem conv_lt {B C : Nat} (hC : 2 ≤ C) (ds : List Nat) : ∀ d ∈ conv B C ds, d < C := by
  intro d hd
  unfold conv at hd
  rcases List.mem_append.mp hd with h | h
  · rw [(List.mem_replicate.mp h).2]; omega
  · exact digs_lt hC _ d h
theorem split_lz (ds : List Nat) : ds = List.replicate (lz ds) 0 ++ ds.drop (lz ds) := by
  induction ds with
  | nil => rfl
  | cons d r ih =>
    by_cases h : d = 0
    · subst h
      rw [lz_cons_zero, List.replicate_succ, List.cons_append, List.drop_succ_cons, ← ih]
    · rw [lz_cons_pos r h]
      rfl
theorem drop_lz (ds : List Nat) : ds.drop (lz ds) = [] ∨ ∃ d r, ds.drop (lz ds) = d :: r ∧ d ≠ 0 := by
  induction ds with
  | nil => exact .inl rfl
  | cons d r ih =>
    by_cases h : d = 0
    · subst h
      rw [lz_cons_zero, List.drop_succ_cons]
      exact ih
    · rw [lz_cons_pos r h]
      exact .inr ⟨d, r, rfl, h⟩
theorem val_pos {B d : Nat} (hB : 2 ≤ B) (r : List Nat) (hd : d ≠ 0) : 0 < val B (d :: r) := by
  rw [val_cons]
  have : 0 < d * B ^ r.length := Nat.mul_pos (by omega) (Nat.pow_pos (by omega))
  omega
theorem digs_val {B : Nat} (hB : 2 ≤ B) : ∀ (k : Nat) (r : List Nat), r.length = k → ∀ d, d ≠ 0 → (∀ x ∈ d :: r, x < B) → digs B (val B (d :: r)) = d :: r
  | 0, r, hk, d, hd, hx => by
    have hr : r = [] := List.eq_nil_of_length_eq_zero hk
    subst hr
    have hdB := hx d (.head _)
    rw [val_cons, val_nil, List.length_nil, Nat.pow_zero, Nat.mul_one, Nat.add_zero, digs_pos hB (by omega), Nat.div_eq_of_lt hdB, digs_zero, Nat.mod_eq_of_lt hdB]
    rfl
  | k + 1, r, hk, d, hd, hx => by
    have hne : r ≠ [] := by
      intro e
      rw [e] at hk
      cases hk
    obtain ⟨l, x, hlx⟩ : ∃ l x, r = l ++ [x] := ⟨r.dropLast, r.getLast hne, (List.dropLast_concat_getLast hne).symm⟩
    subst hlx
    have e : d :: (l ++ [x]) = (d :: l) ++ [x] := rfl
    have hxB := hx x (by rw [e]; simp)
    have h1 := digs_val hB k l (by simpa using hk) d hd fun y hy => hx y (by rw [e]; exact List.mem_append_left _ hy)
    have hp := val_pos hB l hd
    rw [e, val_snoc, digs_pos hB (by have := Nat.mul_pos hp (show 0 < B by omega); omega)]
    have hdiv : (val B (d :: l) * B + x) / B = val B (d :: l) := by
      rw [Nat.mul_comm, Nat.mul_add_div (by omega), Nat.div_eq_of_lt hxB, Nat.add_zero]
    have hmod : (val B (d :: l) * B + x) % B = x := by
      rw [Nat.mul_comm, Nat.mul_add_mod, Nat.mod_eq_of_lt hxB]
    rw [hdiv, hmod, h1]
theorem digs_val_drop {B : Nat} (hB : 2 ≤ B) (ds : List Nat) (h : ∀ x ∈ ds, x < B) : digs B (val B ds) = ds.drop (lz ds) := by
  have e : val B ds = val B (ds.drop (lz ds)) := by
    conv => lhs; rw [split_lz ds]
    rw [val_zeros]
  rw [e]
  rcases drop_lz ds with h1 | ⟨d, r, h1, hd⟩
  · rw [h1, val_nil, digs_zero]
  · rw [h1]
    refine digs_val hB _ r rfl d hd fun x hx => h x ?_
    rw [← h1] at hx
    exact List.drop_subset _ _ hx
/-- there and back -/
theorem conv_conv {B C : Nat} (hB : 2 ≤ B) (hC : 2 ≤ C) (ds : List Nat) (h : ∀ x ∈ ds, x < B) : conv C B (conv B C ds) = ds := by
  have e1 : val C (conv B C ds) = val B ds := by
    unfold conv
    rw [val_zeros, val_digs hC]
  have e2 := lz_conv (B := B) hC ds
  show List.replicate (lz (conv B C ds)) 0 ++ digs B (val C (conv B C ds)) = ds
  rw [e1, e2, digs_val_drop hB ds h, ← split_lz]
theorem conv_cons_zero (B C : Nat) (ds : List Nat) : conv B C (0 :: ds) = 0 :: conv B C ds := by
  unfold conv
  rw [lz_cons_zero, val_cons, Nat.zero_mul, Nat.zero_add, List.replicate_succ, List.cons_append]
theorem conv_one {B C d : Nat} (hC : 2 ≤ C) (hd : d < C) : conv B C [d] = [d] := by
  unfold conv
  rw [val_cons, val_nil, List.length_nil, Nat.pow_zero, Nat.mul_one, Nat.add_zero]
  by_cases h : d = 0
  · subst h
    rw [digs_zero]
    rfl
  · rw [lz_cons_pos _ h, digs_pos hC (by omega), Nat.div_eq_of_lt hd, digs_zero, Nat.mod_eq_of_lt hd]
    rfl
theorem digs_bound {B : Nat} (hB : 2 ≤ B) (n : Nat) : n < B ^ (digs B n).length := by
  have h := val_lt B (digs B n) (digs_lt hB n)
  rw [val_digs hB] at h
  exact h
theorem digs_low {B : Nat} (hB : 2 ≤ B) {n : Nat} (hn : 0 < n) : B ^ ((digs B n).length - 1) ≤ n := by
  rcases digs_head hB n with h | ⟨d, r, h, hd⟩
  · have h2 := val_digs hB n
    rw [h, val_nil] at h2
    omega
  · have h2 := val_digs hB n
    rw [h, val_cons] at h2
    rw [h, List.length_cons, Nat.add_sub_cancel, ← h2]
    have : B ^ r.length ≤ d * B ^ r.length := Nat.le_mul_of_pos_left _ (by omega)
    omega
theorem lex_val {B : Nat} : ∀ (a b : List Nat), a.length = b.length → (∀ x ∈ a, x < B) → (∀ x ∈ b, x < B) → (a < b ↔ val B a < val B b)
  | [], [], _, _, _ => by simp [val_nil]
  | x :: a, y :: b, hl, ha, hb => by
    have hl' : a.length = b.length := by simpa using hl
    have ih := lex_val a b hl' (fun z hz => ha z (.tail _ hz)) (fun z hz => hb z (.tail _ hz))
    have h1 := val_lt B a fun z hz => ha z (.tail _ hz)
    have h2 := val_lt B b fun z hz => hb z (.tail _ hz)
    rw [List.cons_lt_cons_iff, ih, val_cons, val_cons, hl']
    rw [hl'] at h1
    generalize B ^ b.length = P at *
    constructor
    · rintro (h | ⟨rfl, h⟩)
      · have : (x + 1) * P ≤ y * P := Nat.mul_le_mul_right _ h
        rw [Nat.add_mul, Nat.one_mul] at this
        omega
      · omega
    · intro h
      rcases Nat.lt_trichotomy x y with hxy | rfl | hxy
      · exact .inl hxy
      · exact .inr ⟨rfl, by omega⟩
      · have : (y + 1) * P ≤ x * P := Nat.mul_le_mul_right _ hxy
        rw [Nat.add_mul, Nat.one_mul] at this
        omega
theorem order_digs {B : Nat} (hB : 2 ≤ B) (n k : Nat) : n < k ↔ ((digs B n).length < (digs B k).length ∨ ((digs B n).length = (digs B k).length ∧ digs B n < digs B k)) := by
  have lex := fun h => lex_val (B := B) (digs B n) (digs B k) h (digs_lt hB n) (digs_lt hB k)
  rw [val_digs hB, val_digs hB] at lex
  have key : ∀ a b : Nat, (digs B a).length < (digs B b).length → a < b := by
    intro a b h
    have h1 := digs_bound hB a
    rcases Nat.eq_zero_or_pos b with rfl | hb
    · rw [digs_zero] at h
      simp at h
    · have h2 := digs_low hB hb
      have h3 : B ^ (digs B a).length ≤ B ^ ((digs B b).length - 1) := Nat.pow_le_pow_right (by omega) (by omega)
      omega
  constructor
  · intro h
    rcases Nat.lt_trichotomy (digs B n).length (digs B k).length with h1 | h1 | h1
    · exact .inl h1
    · exact .inr ⟨h1, (lex h1).mpr h⟩
    · have := key k n h1
      omega
  · rintro (h | ⟨h1, h2⟩)
    · exact key n k h
    · exact (lex h1).mp h2
/-- the octets of a number, as many as needed -/
theorem fixd_digs {B : Nat} (hB : 2 ≤ B) : ∀ (k n : Nat), n < B ^ k → fixd B k n = List.replicate (k - (digs B n).length) 0 ++ digs B n
  | 0, n, h => by
    have : n = 0 := by simpa using h
    subst this
    rw [digs_zero]
    rfl
  | k + 1, n, h => by
    have h2 : n / B < B ^ k := by
      rw [Nat.div_lt_iff_lt_mul (by omega), ← Nat.pow_succ]
      exact h
    have ih := fixd_digs hB k (n / B) h2
    show fixd B k (n / B) ++ [n % B] = _
    rcases Nat.eq_zero_or_pos n with rfl | hp
    · rw [ih, Nat.zero_div, digs_zero, Nat.zero_mod]
      show List.replicate k 0 ++ [] ++ [0] = List.replicate (k + 1) 0 ++ []
      rw [List.append_nil, List.append_nil, ← List.replicate_succ']
    · rw [ih, digs_pos hB hp, List.length_append, List.append_assoc]
      congr 2
      show _ = k + 1 - (_ + 1)
      omega
theorem bits_digs {n : Nat} (hn : 0 < n) : (Builtin.Int.intBits n + 7) / 8 = (digs 256 n).length := by
  have h1 := digs_bound (B := 256) (by decide) n
  have h2 := digs_low (B := 256) (by decide) hn
  generalize hL : (digs 256 n).length = k at *
  have e2 : (2 : Nat) ^ 8 = 256 := by decide
  have hk : k ≠ 0 := by
    intro h
    rw [h] at h1
    simp at h1
    omega
  have a1 : Builtin.Int.intBits n ≤ 8 * k := by
    rw [intBits_le_iff, Nat.pow_mul, e2, Int.natAbs_natCast]
    exact h1
  have a2 : ¬ Builtin.Int.intBits n ≤ 8 * (k - 1) := by
    rw [intBits_le_iff, Nat.pow_mul, e2, Int.natAbs_natCast]
    omega
  omega
theorem natB_digs {n : Nat} (hn : 0 < n) : natB n = bytOf (digs 256 n) := by
  have h := bits_digs hn
  have hl : 0 < (digs 256 n).length := by
    rcases Nat.eq_zero_or_pos (digs 256 n).length with e | e
    · have h1 := digs_bound (B := 256) (by decide) n
      rw [e] at h1
      simp at h1
      omega
    · exact e
  rw [natB_eq, h]
  have e : max 1 (digs 256 n).length = (digs 256 n).length := by omega
  rw [e, fixd_digs (by decide) _ _ (digs_bound (by decide) n), Nat.sub_self]
  rfl
theorem bytOf_append (a b : List Nat) : bytOf (a ++ b) = bytOf a ++ bytOf b := by
  rw [bytOf_eq, bytOf_eq, bytOf_eq, List.map_append]
  simp
theorem bytOf_zeros (k : Nat) : bytOf (List.replicate k 0) = (List.replicate k (0 : UInt8)).toArray := by
  rw [bytOf_eq, List.map_replicate]
  rfl
theorem bds_bytOf {ds : List Nat} (h : ∀ d ∈ ds, d < 256) : bds (bytOf ds) = ds := by
  rw [bds_eq, bytOf_eq, List.map_map]
  have e : ∀ d ∈ ds, (UInt8.toNat ∘ UInt8.ofNat) d = d := fun d hd => by
    show (UInt8.ofNat d).toNat = d
    rw [UInt8.toNat_ofNat']
    exact Nat.mod_eq_of_lt (h d hd)
  rw [List.map_congr_left e]
  simp
theorem bytOf_bds (b : Array UInt8) : bytOf (bds b) = b := by
  rw [bytOf_eq, bds_eq, List.map_map]
  have e : (UInt8.ofNat ∘ UInt8.toNat) = _root_.id := by
    funext c
    simp
  rw [e, List.map_id]
theorem lz_dropLast {ds : List Nat} (h : ∃ x ∈ ds, x ≠ 0) : lz ds.dropLast = lz ds := by
  induction ds with
  | nil => obtain ⟨x, hx, _⟩ := h; cases hx
  | cons d r ih =>
    by_cases hd : d = 0
    · subst hd
      have h2 : ∃ x ∈ r, x ≠ 0 := by
        obtain ⟨x, hx, hx0⟩ := h
        cases hx with
        | head => exact absurd rfl hx0
        | tail _ hx => exact ⟨x, hx, hx0⟩
      have hne : r ≠ [] := by
        intro e
        subst e
        obtain ⟨x, hx, _⟩ := h2
        cases hx
      rw [List.dropLast_cons_of_ne_nil hne, lz_cons_zero, lz_cons_zero, ih h2]
    · rw [lz_cons_pos r hd]
      cases r with
      | nil => rfl
      | cons e r2 => rw [List.dropLast_cons_of_ne_nil (by simp), lz_cons_pos _ hd]
theorem decQ_conv {ds : List Nat} (h : ∀ d ∈ ds, d < 58) : decQ ds = bytOf (conv 58 256 ds) := by
  unfold decQ
  by_cases hne : ds = []
  · subst hne
    rw [if_pos rfl]
    unfold conv
    rw [val_nil, digs_zero, bytOf_eq]
    rfl
  · rw [if_neg hne]
    unfold decP conv
    by_cases hz : ∃ x ∈ ds, x ≠ 0
    · have hp : 0 < val 58 ds := by
        rcases drop_lz ds with h1 | ⟨d, r, h1, hd⟩
        · exfalso
          obtain ⟨x, hx, hx0⟩ := hz
          rw [split_lz ds, h1, List.append_nil] at hx
          exact hx0 (List.mem_replicate.mp hx).2
        · have e : val 58 ds = val 58 (ds.drop (lz ds)) := by
            conv => lhs; rw [split_lz ds]
            rw [val_zeros]
          rw [e, h1]
          exact val_pos (by decide) r hd
      rw [lz_dropLast hz, natB_digs hp, bytOf_append, bytOf_zeros]
    · have hall : ∀ x ∈ ds, x = 0 := fun x hx => Classical.byContradiction fun hx0 => hz ⟨x, hx, hx0⟩
      have hv : val 58 ds = 0 := by
        rw [split_lz ds, lz_all hall, List.drop_length, val_zeros, val_nil]
      have e1 : lz ds = ds.length := lz_all hall
      have e2 : lz ds.dropLast = ds.length - 1 := by
        rw [lz_all fun x hx => hall x (List.dropLast_subset _ hx), List.length_dropLast]
      have hl : 0 < ds.length := List.length_pos_iff.mpr hne
      rw [hv, e1, e2, digs_zero, List.append_nil, bytOf_zeros, natB_eq]
      have e3 : bytOf (fixd 256 (max 1 ((Builtin.Int.intBits ((0 : Nat) : Int) + 7) / 8)) 0) = #[0] := by
        rw [bytOf_eq]
        rfl
      rw [e3]
      obtain ⟨k, hk⟩ := Nat.exists_eq_succ_of_ne_zero (Nat.ne_of_gt hl)
      rw [hk, Nat.succ_sub_one, List.replicate_succ', ← List.append_toArray]
end Mine
-- W0
namespace Mine

def stBody : PySem.Stmt → List PySem.Stmt
  | .FunctionDef _ _ b _ _ _ _ _ _ _ => b
  | _ => []
def stScope : PySem.Stmt → Option Scope
  | .FunctionDef _ _ _ _ _ _ sc _ _ _ => some sc
  | _ => none
def lawSt : PySem.Stmt := PySem.Challenge.pw_ai0019_01.main.body.getLastD (.Pass ⟨0, 0, 0, 0⟩)
def lawBody : List PySem.Stmt := stBody lawSt
def lawScope : Scope := (stScope lawSt).getD { kind := .function, names := [], isGenerator := false, isCoroutine := false, more := [] }
abbrev lawEnv (L fa : Addr) (cd : Value) : Env := envX (Str.ofString "law") lawScope L fa cd [(Str.ofString "script", L + 1)]
abbrev lawA (L fa : Addr) (cd : Value) : Around := callerA.deeper (lawEnv L fa cd)
theorem fr_with {h₀ h : Heap} {L : Addr} {m : Str → Option Value} {x : Str} {v : Value} (F : Fr h₀ L h m) (e : m x = some v) : Fr h₀ L h (fun y => if y = x then some v else m y) := by
  have em : (fun y => if y = x then some v else m y) = m := by
    funext y
    by_cases hy : y = x
    · rw [if_pos hy, hy, e]
    · rw [if_neg hy]
  rw [em]
  exact F
/-- a turn's or a piece's end: the frame, the ledger -/
def TurnEnd (h₀ : Heap) (L : Addr) (news : List (Addr × Obj)) (s : Shared) (f : Flow) (s₂ : Shared) : Prop :=
  f = .next ∧ ∃ h' tk' m', s₂ = { s with heap := h', toks := tk' } ∧ Fr h₀ L h' m' ∧ News h₀ L h' news
section
variable {prog : Program} {w : World} {A : Around} {E : Value → Shared → Prop} {s : Shared} {env : Env} {h₀ : Heap} {x : Str} {body : List Stmt} {Q : Flow → Shared → Prop}
/-- a loop over a made list of any values; the ledger behind it stays -/
theorem iter_vals {l : Addr} {vs : List Value} {nn : Nat} {m₀ : Str → Option Value} {news news₀ : List (Addr × Obj)} (hh : A.handled = none) (F : Fr h₀ env.locals s.heap m₀) (N₀ : News h₀ env.locals s.heap news₀) (hl : (l, listOf vs.toArray nn) ∈ news₀) (hin : ∀ p ∈ news, p ∈ news₀) (hoff : ∀ p ∈ news, p.1 ≠ l)
    (turn : ∀ v (m₁ : Str → Option Value) h tk own, v ∈ vs → Fr h₀ env.locals h (fun y => if y = x then some v else m₁ y) → News h₀ env.locals h (news ++ own) →
      wpAny (model prog w) A (execs body env) (TurnEnd h₀ env.locals (news ++ own) s) E { s with heap := h, toks := tk })
    (done : ∀ (m₁ : Str → Option Value) h tk, Fr h₀ env.locals h m₁ → News h₀ env.locals h news → Q .next { s with heap := h, toks := tk }) :
    wpAny (model prog w) A (pyIter (.ref l)) (fun it s₂ => LoopAtV prog w A h₀ env x body Q E it s₂) E s := by
  have there := (N₀ _ hl).1
  have hls : s.heap.IsList l vs.toArray := ⟨_, there, rfl, nn, rfl⟩
  have hne : l ≠ s.heap.objs.size := Nat.ne_of_lt (Heap.lt_size there)
  have N : News h₀ env.locals s.heap news := fun p hp => N₀ p (hin p hp)
  refine wpAny_pyIter_list hls ?_
  have W := Walks.list (prog := prog) (w := w) hh s.heap.objs.size l hne vs.toArray
  refine loop_invN (fun _ _ nx => nx = news) W ?_ ?_ ?_ ?_ ⟨⟨_, Heap.get?_push_size _ rfl, rfl, rfl⟩, hls.at fun o e => Heap.get?_push_of_some _ e⟩ (F.push _) (fun p hp => ⟨Heap.get?_push_of_some _ (N p hp).1, (N p hp).2⟩) rfl ?_ ?_
  · intro hm
    rcases List.mem_cons.mp hm with e | hm
    · exact absurd F.ns.lt (e ▸ Nat.lt_irrefl _)
    · exact (N₀ _ hl).2.1 ((List.mem_singleton.mp hm).symm)
  · intro b hb
    rw [List.mem_singleton.mp hb]
    exact next_is_new F
  · intro p hp hI
    exact absurd (Heap.lt_size (N p hp).1) ((List.mem_singleton.mp hI) ▸ Nat.lt_irrefl _)
  · intro p hp hI
    rcases List.mem_cons.mp hI with e | hI
    · exact absurd (Heap.lt_size (N p hp).1) (e ▸ Nat.lt_irrefl _)
    · exact hoff p hp (List.mem_singleton.mp hI)
  · rintro i v m₁ news₁ h tk own hi hP hadr _ rfl F₁ N₁
    have hv : v ∈ vs := by
      have : vs[i]? = some v := by simpa using hP
      exact List.mem_of_getElem? this
    refine wpAny_mono (turn v m₁ h tk own hv F₁ N₁) (fun f s₂ p => ?_) fun _ _ y => y
    obtain ⟨rfl, h', tk', m', rfl, F', N'⟩ := p
    exact ⟨h', tk', m', _, _, rfl, F', N', fun p hp => List.mem_append_left _ hp, fun p hp => List.mem_append_right _ hp, rfl, rfl⟩
  · rintro m₁ news₁ h tk rfl F₁ N₁
    exact done m₁ h tk F₁ N₁
end
end Mine
-- C5
namespace Mine

/-- the figures of a row: what 'encode' writes -/
@[irreducible] def encD (b : Array UInt8) : List Nat := conv 256 58 (bds b)
theorem encD_eq (b : Array UInt8) : encD b = conv 256 58 (bds b) := by
  unfold encD
  rfl
theorem enc_eq (b : Array UInt8) : enc b = strOf (encD b) := by
  rw [encD_eq]
  rfl
theorem encD_lt (b : Array UInt8) : ∀ d ∈ encD b, d < 58 := by
  rw [encD_eq]
  exact conv_lt (by decide) _
theorem encD_length (b : Array UInt8) : (encD b).length ≤ 9 * b.size := by
  rw [encD_eq]
  unfold conv
  have h1 := lz_le (bds b)
  have h2 := digs_length (B := 58) (by decide) _ _ (bval_bits b)
  rw [bds_length] at h1
  rw [List.length_append, List.length_replicate]
  omega
theorem dec_enc (b : Array UInt8) : decQ (encD b) = b := by
  rw [decQ_conv (encD_lt b), encD_eq, conv_conv (by decide) (by decide) _ (bds_lt b), bytOf_bds]
theorem enc_dec {ds : List Nat} (h : ∀ d ∈ ds, d < 58) : encD (decQ ds) = ds := by
  rw [encD_eq, decQ_conv h, bds_bytOf (conv_lt (by decide) _), conv_conv (by decide) (by decide) _ h]
theorem encD_ne {b : Array UInt8} (h : 0 < b.size) : encD b ≠ [] := by
  intro e
  have h2 := dec_enc b
  rw [e] at h2
  rw [← h2] at h
  exact absurd h (by decide)
theorem chk_size (b : Array UInt8) : (hd4 (dsha b)).size = 4 := by
  rw [hd4_size, dsha_size]
  rfl
theorem con_mono {w : World} {f : Addr} {vs : List Value} {d u : Nat} {pre : Heap → Prop} {R R' : Value → Prop} (C : Con w f vs d u pre R) (h : ∀ r, R r → R' r) : Con w f vs d u pre R' := by
  intro mean mg mb dp un gd cn cs a ccd cl outer A₀ base h₀ L m news s Q E B F X N T hk hpre hd hu hret
  exact C mean mg mb dp un gd cn cs a ccd cl outer A₀ base h₀ L m news s Q E B F X N T hk hpre hd hu fun r h' tk' hr => hret r h' tk' (h r hr)
theorem encode_D (w : World) (b : Array UInt8) (t : Tok) (hb : b.size ≤ 100) : Con w 96 [.bytes b t] 20 200 (fun _ => True) (fun r => ∃ t', r = .str (strOf (encD b)) t') :=
  con_mono (encode_con w b t hb) fun r ⟨t', e⟩ => ⟨t', by rw [e, enc_eq]⟩
theorem encode_check_D (w : World) (b : Array UInt8) (t : Tok) (hb : b.size ≤ 90) : Con w 110 [.bytes b t] 30 300 (fun _ => True) (fun r => ∃ t', r = .str (strOf (encD (b ++ hd4 (dsha b)))) t') :=
  con_mono (encode_check_con w b t hb) fun r ⟨t', e⟩ => ⟨t', by rw [e, enc_eq]⟩
theorem decode_D (w : World) (b : Array UInt8) (t : Tok) (hb : b.size ≤ 40) : Con w 103 [.str (strOf (encD b)) t] 20 200 (fun _ => True) (fun r => ∃ t', r = .bytes b t') :=
  con_mono (decode_all w (encD b) t (by have := encD_length b; omega) (encD_lt b)) fun r ⟨t', e⟩ => ⟨t', by rw [e, dec_enc]⟩
theorem check_back (w : World) (b : Array UInt8) (t : Tok) (hb : b.size ≤ 36) : Con w 117 [.str (strOf (encD (b ++ hd4 (dsha b)))) t] 30 300 (fun _ => True) (fun r => ∃ t', r = .bytes b t') := by
  have hs : (b ++ hd4 (dsha b)).size = b.size + 4 := by rw [Array.size_append, chk_size]
  have e := dec_enc (b ++ hd4 (dsha b))
  refine con_mono (decode_check_ok w _ t (by have := encD_length (b ++ hd4 (dsha b)); omega) (encD_lt _) ?_) fun r ⟨t', er⟩ => ⟨t', ?_⟩
  · rw [e, lst_app (chk_size b), ini_app (chk_size b)]
  · rw [er, e, ini_app (chk_size b)]
theorem decode_fig (w : World) (d : Nat) (t : Tok) (hd : d < 58) : Con w 103 [.str (digit d) t] 20 200 (fun _ => True) (fun r => ∃ t', r = .bytes (bytOf [d]) t') := by
  rw [digit_eq]
  have h : ∀ x ∈ [d], x < 58 := fun x hx => by rw [List.mem_singleton.mp hx]; exact hd
  exact con_mono (decode_all w [d] t (by simp) h) fun r ⟨t', e⟩ => ⟨t', by rw [e, decQ_conv h, conv_one (by decide) (by omega)]⟩
theorem encD_fig {d : Nat} (hd : d < 58) : encD (bytOf [d]) = [d] := by
  rw [encD_eq, bds_bytOf (fun x hx => by rw [List.mem_singleton.mp hx]; omega), conv_one (by decide) hd]
theorem encD_zero (b : Array UInt8) : encD (#[0] ++ b) = 0 :: encD b := by
  rw [encD_eq, encD_eq, bds_eq, Array.toList_append, List.map_append, ← bds_eq b]
  show conv 256 58 (0 :: bds b) = _
  rw [conv_cons_zero]

section
variable {prog : Program} {w : World} {A : Around} {E : Value → Shared → Prop} {s : Shared} {h₀ : Heap} {L : Addr} {m : Str → Option Value} {news : List (Addr × Obj)} {t u : Tok} {Q : Value → Shared → Prop}
theorem ne_str_same {x : Str} (h : Q (.bool false) s) : wpAny (model prog w) A (compareOp .NotEq (.str x t) (.str x u)) Q E s := by
  refine PySem.P.ne_str ?_
  have e : (x.cps.toList != x.cps.toList) = false := by simp
  rw [e]
  exact h
theorem ne_str_nil {ds : List Nat} (hd : ds ≠ []) (h : Q (.bool true) s) : wpAny (model prog w) A (compareOp .NotEq (.str (strOf ds) t) (.str (PySem.Str.ofString "") u)) Q E s := by
  refine PySem.P.ne_str ?_
  have e0 : PySem.Str.ofString "" = Str.empty := by decide +kernel
  have e : ((strOf ds).cps.toList != (PySem.Str.ofString "").cps.toList) = true := by
    rw [e0, bne_iff_ne]
    intro e
    have h2 := congrArg List.length e
    have h3 := strOf_length ds
    rw [Array.length_toList] at h2
    have h4 : (strOf ds).cps.size = 0 := h2
    have h5 : ds.length = 0 := by
      rw [← h3]
      exact h4
    exact hd (List.eq_nil_of_length_eq_zero h5)
  rw [e]
  exact h
theorem ne_nil_nil (h : Q (.bool false) s) : wpAny (model prog w) A (compareOp .NotEq (.str (strOf []) t) (.str (PySem.Str.ofString "") u)) Q E s := by
  have e0 : PySem.Str.ofString "" = strOf [] := by
    rw [strOf_eq]
    decide +kernel
  rw [e0]
  exact ne_str_same h
theorem add_digit {a : List Nat} {d : Nat} (hn : a.length ≤ 9000) (h : ∀ t' k, Q (.str (strOf (a ++ [d])) t') { s with toks := k }) : wpAny (model prog w) A (binaryOp .Add (.str (strOf a) t) (.str (digit d) u)) Q E s := by
  rw [digit_eq]
  exact add_strOf (by simp only [List.length_cons, List.length_nil]; omega) h
theorem two_eq : PySem.Str.ofString "2" = strOf [1] := by
  rw [strOf_eq]
  have e : fig 1 = 50 := by rw [fig_eq]; rfl
  show _ = PySem.Str.mk [fig 1].toArray
  rw [e]
  decide +kernel
theorem one_eq : PySem.Str.ofString "1" = digit 0 := by
  have e : fig 0 = 49 := by rw [fig_eq]; rfl
  show _ = PySem.Str.mk #[fig 0]
  rw [e]
  decide +kernel
theorem item_last {value slice : PySem.Expr} {ds : List Nat} (hne : ds ≠ []) (hl : ds.length ≤ 10000) (h : ∀ t', Q (.str (digit (ds.getLast hne)) t') { s with toks := s.toks + 1 })
    (hs : subscripted slice false (.str (strOf ds) t) (.int (-1) u) = operate [.str (strOf ds) t, .int (-1) u] (getItem (.str (strOf ds) t) (.int (-1) u)) := by with_unfolding_all rfl)
    (ht : ∀ r, letTemporaryGo value (.str (strOf ds) t) r = pure () := by intro _; with_unfolding_all rfl) :
    wpAny (model prog w) A (subscriptTail value slice (.str (strOf ds) t) (.int (-1) u)) Q E s := by
  have hp : 0 < ds.length := List.length_pos_iff.mpr hne
  have e : Txt.item (strOf ds) (-1) = digit (ds.getLast hne) := by
    unfold Txt.item Txt.charAt
    rw [strOf_length]
    have e1 : seqIndex? (-1) ds.length = some (ds.length - 1) := by
      have h1 : ((-1 : Int) + (ds.length : Int)) = ((ds.length - 1 : Nat) : Int) := by omega
      have h2 : ((ds.length - 1 : Nat) : Int) < (ds.length : Int) := by omega
      simp [seqIndex?, h1, h2]
    rw [e1]
    have e2 : (strOf ds).cps[ds.length - 1]? = some (fig (ds.getLast hne)) := by
      rw [strOf_eq]
      have e3 : ds[ds.length - 1]? = some ds[ds.length - 1] := List.getElem?_eq_getElem (by omega)
      simp [List.getLast_eq_getElem]
      exact ⟨_, e3, rfl⟩
    show PySem.Str.mk #[((some (ds.length - 1)).bind fun x => (strOf ds).cps[x]?).getD 0] = _
    rw [Option.bind_some, e2]
    rfl
  refine KXi.item (strOf_length ds) (by omega) (by omega) (by omega) (fun _ => ?_) hs ht
  rw [e]
  exact h _
end
end Mine
-- C6
namespace Mine
section
open Builtin
theorem slot_blstrip : Slot "bytes" "lstrip" "bytes.lstrip" :=
  .of (owner := "bytes") (n := "lstrip") (by rw [typeLookup_type, builtinLookup_eq_fast]; kernel_rfl) (by decide +kernel) (by decide +kernel) (by decide +kernel)
    (by first | exact .inl (by decide +kernel) | exact .inr (by decide +kernel)) (by rw [isSubtype_type]; kernel_rfl)
theorem type_blstrip : typeOf (.builtin "bytes.lstrip") = pure (.type "method_descriptor") := by show builtinType _ = _; rw [builtinType_eq_fast]; kernel_rfl
theorem entry_blstrip : entryFor table "bytes.lstrip" = some Builtin.«bytes.lstrip» := entryFor_of_tree (by kernel_rfl)
theorem args_blstrip (a b : Value) : argsOk "bytes.lstrip" ⟨[a, b], []⟩ := by unfold argsOk; kernel_rfl
theorem slot_blt : Slot "bytes" (cmpInfo .Lt).2.1 "bytes.__lt__" :=
  .of (owner := "bytes") (n := "__lt__") (by rw [typeLookup_type, builtinLookup_eq_fast]; kernel_rfl) (by decide +kernel) (by decide +kernel) (by decide +kernel)
    (by first | exact .inl (by decide +kernel) | exact .inr (by decide +kernel)) (by rw [isSubtype_type]; kernel_rfl)
theorem entry_blt : entryFor table "bytes.__lt__" = some Builtin.«bytes.__lt__» := entryFor_of_tree (by kernel_rfl)
theorem args_blt (a b : Value) : argsOk "bytes.__lt__" ⟨[a, b], []⟩ := by unfold argsOk; kernel_rfl

theorem order_lt : ∀ a b : List UInt8, (Bytes.order a b == .lt) = decide (a.map UInt8.toNat < b.map UInt8.toNat)
  | [], [] => by simp [Bytes.order]
  | [], _ :: _ => by simp [Bytes.order]
  | _ :: _, [] => by simp [Bytes.order]
  | x :: a, y :: b => by
    have ih := order_lt a b
    rw [List.map_cons, List.map_cons]
    unfold Bytes.order
    by_cases h1 : x < y
    · have h1' : x.toNat < y.toNat := UInt8.lt_iff_toNat_lt.mp h1
      rw [if_pos h1]
      simp [List.cons_lt_cons_iff, h1']
    · by_cases h2 : x > y
      · have h2' : y.toNat < x.toNat := UInt8.lt_iff_toNat_lt.mp h2
        rw [if_neg h1, if_pos h2]
        have h3 : ¬ x.toNat < y.toNat := by omega
        have h4 : ¬ x.toNat = y.toNat := by omega
        simp [List.cons_lt_cons_iff, h3, h4]
      · have h3 : ¬ x.toNat < y.toNat := fun h => h1 (UInt8.lt_iff_toNat_lt.mpr h)
        have h4 : ¬ y.toNat < x.toNat := fun h => h2 (UInt8.lt_iff_toNat_lt.mpr h)
        have h5 : x.toNat = y.toNat := by omega
        rw [if_neg h1, if_neg h2, ih]
        simp [List.cons_lt_cons_iff, h3, h5]
theorem gives_blt (b c : Array UInt8) (t u : Tok) : Gives («bytes.__lt__» ⟨[.bytes b t, .bytes c u], []⟩) (.val (.bool (decide (bds b < bds c)))) := by
  refine .of_wp fun M A E s Q hq => ?_
  show wpAny M A (isInstance (.bytes c u) (.type "bytes") >>= fun r => _) _ E s
  refine wpAny_bind (wpAny_isInstance (typeIs_bytes s c u) F.sub_bytes_bytes ?_)
  exact wpAny_pure ⟨_, rfl, by rw [bds_eq, bds_eq, ← order_lt] at hq; exact hq⟩
section
variable {prog : Program} {w : World} {M : Model} {A : Around} {E : Value → Shared → Prop} {s : Shared} {h₀ : Heap} {L : Addr} {m : Str → Option Value} {news : List (Addr × Obj)} {t u : Tok} {Q : Value → Shared → Prop} {b c : Array UInt8}
theorem lt_by (h : Q (.bool (decide (bds b < bds c))) s) : wpAny (model prog w) A (compareOp .Lt (.bytes b t) (.bytes c u)) Q E s :=
  compareOp_gives (op := .Lt) (typeIs_bytes s b t) (typeIs_bytes s c u) slot_blt entry_blt (args_blt _ _) (gives_blt b c t u) (fun e => nomatch e) h

theorem meth_blstrip {pl : Sem Bool} {Q : Value × List Value → Shared → Prop} (h : Q (.builtin "bytes.lstrip", [.bytes b t]) s) : wpAny M A (getMethod (.bytes b t) "lstrip" pl) Q E s :=
  by with_reducible exact KBd.method_of (.bytes b t) (typeIs_bytes _ _ _) slot_blstrip type_blstrip KBd.noRef h
theorem dropWhile_size (l : List UInt8) : (l.dropWhile (fun c => (#[(0 : UInt8)]).contains c)).length + lz (l.map UInt8.toNat) = l.length := by
  induction l with
  | nil => rfl
  | cons x r ih =>
    rw [List.map_cons, List.dropWhile_cons]
    by_cases h : x = 0
    · subst h
      have e : (#[(0 : UInt8)]).contains 0 = true := by simp
      rw [if_pos e]
      have e2 : (0 : UInt8).toNat = 0 := rfl
      rw [e2, lz_cons_zero, List.length_cons]
      omega
    · have e : (#[(0 : UInt8)]).contains x = false := by simp [h]
      rw [if_neg (by rw [e]; decide), lz_cons_pos]
      · rfl
      · intro hz
        exact h (UInt8.toNat_inj.mp hz)
theorem meets_blstrip : Meets («bytes.lstrip» ⟨[.bytes b t, .bytes #[0] u], []⟩) (fun _ R s => b.size ≤ sizeLine ∧ ∀ (c : Array UInt8) t' k, c.size + lz (bds b) = b.size → R (.ok (.ret (.bytes c t'))) { s with toks := k }) := by
  refine .of_wp fun prog w A R s hS => ?_
  obtain ⟨hz, h⟩ := hS
  have hd : (b.toList.dropWhile (fun c => (#[(0 : UInt8)]).contains c)).length + lz (bds b) = b.size := by
    have hd := dropWhile_size b.toList
    rw [← bds_eq, Array.length_toList] at hd
    exact hd
  show wpAny _ _ (Bytes.bytesLike _ (.bytes #[0] u) >>= fun set => _) _ _ s
  refine wpAny_bind (wpAny_of_eq KBd.like_eq ?_)
  show wpAny _ _ (if ((b.toList.dropWhile (fun c => (#[(0 : UInt8)]).contains c)).length == b.size) = true then _ else _) _ _ s
  by_cases hsame : ((b.toList.dropWhile (fun c => (#[(0 : UInt8)]).contains c)).length == b.size) = true
  · rw [if_pos hsame]
    have hl : lz (bds b) = 0 := by
      have h9 : (b.toList.dropWhile (fun c => (#[(0 : UInt8)]).contains c)).length = b.size := beq_iff_eq.mp hsame
      rw [h9] at hd
      omega
    refine wpAny_bind (wpAny_rule ?_)
    refine wpAny_bind ?_
    show wpAny _ _ (typeOf (.bytes b t) >>= fun ty => _) _ _ s
    refine wpAny_bind (wpAny_typeOf (typeIs_bytes s b t) ?_)
    refine wpAny_pure (wpAny_pure ⟨_, rfl, ?_⟩)
    exact h b t s.toks (by rw [hl]; rfl)
  · rw [if_neg hsame]
    refine wpAny_bind ?_
    show wpAny _ _ (mkBytes _) _ _ s
    refine wpAny_mkBytes (wpAny_pure ⟨_, rfl, h _ _ _ ?_⟩) ?_
    · rw [List.size_toArray]
      exact hd
    · rw [List.size_toArray]
      exact Nat.le_trans (Nat.le_of_add_right_le (Nat.le_of_eq hd)) hz
theorem lstrip_by (hb : b.size ≤ 10000) (h : ∀ (c : Array UInt8) t' k, c.size + lz (bds b) = b.size → Q (.bytes c t') { s with toks := k }) :
    wpAny (model prog w) A (call (.builtin "bytes.lstrip") [.bytes b t, .bytes #[0] u]) Q E s :=
  call_meets slot_blstrip (typeIs_bytes _ _ _) entry_blstrip (args_blstrip _ _) meets_blstrip ⟨by rw [sizeLine_eq]; omega, h⟩

theorem strip_ones {ds : List Nat} (hds : ∀ d ∈ ds, d < 58) : Txt.lstripChars (strOf ds) (PySem.Str.ofString "1") = strOf (ds.drop (lz ds)) := by
  have e1 : PySem.Str.ofString "1" = ⟨#[49]⟩ := by decide +kernel
  have e0 : fig 0 = 49 := by rw [fig_eq]; rfl
  have key : ∀ (l : List Nat), (∀ d ∈ l, d < 58) → ((l.map fig).takeWhile (fun c => (#[49] : Array Nat).contains c)).length = lz l := by
    intro l
    induction l with
    | nil => intro _; rfl
    | cons d r ih =>
      intro hd
      have ih' := ih fun x hx => hd x (.tail _ hx)
      rw [List.map_cons, List.takeWhile_cons]
      by_cases h : d = 0
      · subst h
        rw [e0, if_pos (by simp), lz_cons_zero, List.length_cons, ih']
      · have hne : fig d ≠ 49 := by
          rw [← e0]
          exact fun e => h (fig_inj (hd d (.head _)) (by decide) e)
        rw [if_neg (by simpa using hne), lz_cons_pos r h]
        rfl
  have k := key ds hds
  have hcps : (strOf ds).cps.toList = ds.map fig := by
    rw [strOf_eq]
  rw [e1]
  unfold Txt.lstripChars
  rw [PyProof.Rows.stripBy_eq]
  refine PySem.Str.ext' (Array.toList_inj.mp ?_)
  rw [StrLaws.strSub_toList]
  have hlo : stripLo (fun c => (#[49] : Array Nat).contains c) true (strOf ds) = lz ds := by
    unfold stripLo
    rw [if_pos rfl, hcps]
    exact k
  have hhi : ∀ lo, stripHi (fun c => (#[49] : Array Nat).contains c) false (strOf ds) lo = ds.length := by
    intro lo
    unfold stripHi
    rw [if_neg (by decide), strOf_length]
  show ((strOf ds).cps.toList.drop (stripLo (fun c => (#[49] : Array Nat).contains c) true (strOf ds))).take (stripHi (fun c => (#[49] : Array Nat).contains c) false (strOf ds) (stripLo (fun c => (#[49] : Array Nat).contains c) true (strOf ds)) - stripLo (fun c => (#[49] : Array Nat).contains c) true (strOf ds)) = _
  rw [hhi, hlo, hcps, strOf_eq, List.take_of_length_le (by rw [List.length_drop, List.length_map]; omega), ← List.map_drop]
theorem lstrip_str {ds : List Nat} (hds : ∀ d ∈ ds, d < 58) (hl : ds.length ≤ 10000) (h : ∀ t' k, Q (.str (strOf (ds.drop (lz ds))) t') { s with toks := k }) :
    wpAny (model prog w) A (call (.builtin "str.lstrip") [.str (strOf ds) t, .str (PySem.Str.ofString "1") u]) Q E s :=
  KXw.lstripChars (strip_ones hds) (by rw [strOf_length, sizeLine_eq]; omega) h
theorem len_by (hb : b.size ≤ 100000) (h : ∀ t' k, Q (.int (b.size : Int) t') { s with toks := k }) : wpAny (model prog w) A (call (.builtin "len") [.bytes b t]) Q E s :=
  len_bytes (by omega) (h _ _)
end
end
end Mine
-- W6
namespace Mine
theorem con_t {w : World} {f : Addr} {vs : List Value} {d u : Nat} {R : Value → Prop} (C : ConT w f vs d u R) {mean : ExcName → Option Value} {mg mb : Str → Option Value} {dp un : Nat} {gd : Option (List Code)} {cn : Str} {cs : Scope} {a : Addr} {ccd : Value} {cl : List (Str × Addr)} {A₀ : Around} {h₀ : Heap} {L : Addr} {m : Str → Option Value} {news : List (Addr × Obj)} {s : Shared} {Q E : Value → Shared → Prop}
    (B : Below A₀ h₀ [] h₀) (F : Fr h₀ L s.heap m) (X : (hd.heap_39 w.params).In h₀) (N : News h₀ L s.heap news) (T : Top hd.view_39 (looseW hd.view_39 [Str.ofString "Sha256", Str.ofString "hashlib"]) mean mg mb h₀) (hk : cs.kind = .function) (hd : dp + d < recursionLimit) (hu : un + u < cLine)
    (h : ∀ r h' tk', R r → Fr h₀ L h' m → News h₀ L h' news → Q r { s with heap := h', toks := tk' }) :
    wpAny (model PySem.Challenge.rw_ai0019_01.row.prog w) (ktrTop dp un gd cn cs L a ccd cl []) (call (.ref f) vs) Q E s := C mean mg mb dp un gd cn cs a ccd cl A₀ h₀ L m news s Q E B F X N T hk hd hu h
theorem eq_by {prog : Program} {w : World} {A : Around} {E : Value → Shared → Prop} {s : Shared} {b c : Array UInt8} {t u : Tok} {Q : Value → Shared → Prop} (h : Q (.bool (decide (b = c))) s) : wpAny (model prog w) A (compareOp .Eq (.bytes b t) (.bytes c u)) Q E s := by
  refine eq_bytes ?_
  have e : (b.toList == c.toList) = decide (b = c) := by
    by_cases hbc : b = c
    · subst hbc
      simp
    · have : b.toList ≠ c.toList := fun e => hbc (Array.toList_inj.mp e)
      simp [hbc, this]
  rw [e]
  exact h
theorem eq_yes {prog : Program} {w : World} {A : Around} {E : Value → Shared → Prop} {s : Shared} {b c : Array UInt8} {t u : Tok} {Q : Value → Shared → Prop} (e : b = c) (h : Q (.bool true) s) : wpAny (model prog w) A (compareOp .Eq (.bytes b t) (.bytes c u)) Q E s := by
  subst e
  refine eq_by ?_
  simpa using h
theorem eq_no {prog : Program} {w : World} {A : Around} {E : Value → Shared → Prop} {s : Shared} {b c : Array UInt8} {t u : Tok} {Q : Value → Shared → Prop} (e : b ≠ c) (h : Q (.bool false) s) : wpAny (model prog w) A (compareOp .Eq (.bytes b t) (.bytes c u)) Q E s := by
  refine eq_by ?_
  simpa [e] using h
local macro_rules | `(tactic| walk_at "compareOp Eq bytes bytes") => `(tactic| (k_here; first | (refine eq_yes (by assumption) ?_) | (refine eq_no (by assumption) ?_)))
local macro_rules | `(tactic| walk_at "compareOp NotEq bytes bytes") => `(tactic| (k_here; (refine ne_same rfl ?_)))
local macro_rules | `(tactic| walk_at "exec For Name List cons nil") => `(tactic| (k_here; (rename Fr _ _ _ _ => lF'); (with_unfolding_all refine' For_invVF lF' ?k1 ?k2 ?_; (case k1 => exact rfl); (case k2 => exact rfl); k_whole)))
local macro_rules | `(tactic| walk_at "pyIter ref") => `(tactic| (k_here; refine Stop.intro ?_))
local macro_rules | `(tactic| walk_at "call ref") => `(tactic| (k_here; k_dflt (refine' Con.use (dsha_con _ _ _ ?mb) ?mB ?mF ?mX ?mN ?mT ?mk ?mp ?md ?mu ?_; (case mB => k_asm); (case mF => k_asm); (case mX => k_asm); (case mN => k_asm); (case mT => k_asm); (case mk => exact rfl); (case mp => trivial); (case md => decide); (case mu => exact Nat.le_of_ble_eq_true rfl); (case mb => (simp only [ini_size]; omega))); intro r9 h9 tk9 R9 F9 N9; obtain ⟨t9, e9⟩ := R9; subst e9; (try dsimp only); (try k_fold)))
local macro_rules | `(tactic| walk_at "call ref") => `(tactic| (k_here; k_dflt (refine' Con.use (decode_all _ _ _ ?mb ?mc) ?mB ?mF ?mX ?mN ?mT ?mk ?mp ?md ?mu ?_; (case mB => k_asm); (case mF => k_asm); (case mX => k_asm); (case mN => k_asm); (case mT => k_asm); (case mk => exact rfl); (case mp => trivial); (case md => decide); (case mu => exact Nat.le_of_ble_eq_true rfl); (case mb => assumption); (case mc => assumption)); intro r9 h9 tk9 R9 F9 N9; obtain ⟨t9, e9⟩ := R9; subst e9; (try dsimp only); (try k_fold)))
local macro_rules | `(tactic| walk_at "call ref") => `(tactic| (k_here; k_dflt (refine' Con.use (checked_good _ _ _ ?mb ?mc ?mg) ?mB ?mF ?mX ?mN ?mT ?mk ?mp ?md ?mu ?_; (case mB => k_asm); (case mF => k_asm); (case mX => k_asm); (case mN => k_asm); (case mT => k_asm); (case mk => exact rfl); (case mp => trivial); (case md => decide); (case mu => exact Nat.le_of_ble_eq_true rfl); (case mb => assumption); (case mc => assumption); (case mg => assumption)); intro r9 h9 tk9 R9 F9 N9; obtain ⟨t9, e9⟩ := R9; subst e9; (try dsimp only); (try k_fold)))
local macro_rules | `(tactic| walk_at "call ref") => `(tactic| (k_here; k_dflt (refine' con_t (checked_bad _ _ _ ?mb ?mc ?mg) ?mB ?mF ?mX ?mN ?mT ?mk ?md ?mu ?_; (case mB => k_asm); (case mF => k_asm); (case mX => k_asm); (case mN => k_asm); (case mT => k_asm); (case mk => exact rfl); (case md => decide); (case mu => exact Nat.le_of_ble_eq_true rfl); (case mb => assumption); (case mc => assumption); (case mg => assumption)); intro r9 h9 tk9 R9 F9 N9; subst R9; (try dsimp only); (try k_fold)))
local macro_rules | `(tactic| walk_at "subscriptTail Name Slice bytes ref") => `(tactic| (k_here; (refine' slice_P (s := ⟨_, _, _, _, _⟩) ?mF ?mN ?ml ?mu ?mz ?_; (case mF => k_asm); (case mN => k_asm); (case ml => constructor); (case mu => constructor); (case mz => first | omega | (rw [dsha_size]; decide))); intro _ _ _ _ _; simp only [hd4_zero, ini_fold, lst_fold, hd4_fold]))

set_option maxHeartbeats 4000000 in
theorem law_loop (w : World) {mean : ExcName → Option Value} {mg mb : Str → Option Value} {h₀ : Heap} {L fa : Addr} {cd : Value} {m : Str → Option Value} {news : List (Addr × Obj)} {s : Shared} {Q : Flow → Shared → Prop} {E : Value → Shared → Prop} (d1 d2 d3 d4 : List Nat) (t1 t2 t3 t4 : Tok)
    (hd1 : d1.length ≤ 400 ∧ ∀ d ∈ d1, d < 58) (hd2 : d2.length ≤ 400 ∧ ∀ d ∈ d2, d < 58) (hd3 : d3.length ≤ 400 ∧ ∀ d ∈ d3, d < 58) (hd4' : d4.length ≤ 400 ∧ ∀ d ∈ d4, d < 58)
    (B : Below callerA h₀ [] h₀) (X : (hd.heap_39 w.params).In h₀) (T : Top hd.view_39 (looseW hd.view_39 [Str.ofString "Sha256", Str.ofString "hashlib"]) mean mg mb h₀)
    (F : Fr h₀ L s.heap (fun y => if y = Str.ofString "other" then some (.str (strOf d4) t4) else if y = Str.ofString "checked" then some (.str (strOf d3) t3) else if y = Str.ofString "turned" then some (.str (strOf d2) t2) else if y = Str.ofString "figures" then some (.str (strOf d1) t1) else m y))
    (N : News h₀ L s.heap news) (hE : PassesOwn (model PySem.Challenge.rw_ai0019_01.row.prog w) (lawA L fa cd) (lawEnv L fa cd) E)
    (ret : ∀ h' tk' m', Fr h₀ L h' m' → Q (.ret (.bool true)) { s with heap := h', toks := tk' }) :
    wpAny (model PySem.Challenge.rw_ai0019_01.row.prog w) (lawA L fa cd) (execs (lawBody.drop 21) (lawEnv L fa cd)) Q E s := by
  show wpAny _ _ (execs (_ :: _) _) _ _ _
  w_top off
  k_steps
  unfold Stop
  rename_i l₁ _ F₁ N₁ hlt
  refine iter_vals (vs := [Value.str (strOf d1) t1, Value.str (strOf d2) t2, Value.str (strOf d3) t3, Value.str (strOf d4) t4]) (news := news) (nn := 0) rfl (by assumption) (by assumption) (.head _) (fun p hp => .tail _ hp) (fun p hp => Nat.ne_of_lt (hlt p hp)) ?_ ?_
  · intro v m₁ h tk own hv F₂ N₂
    obtain ⟨ds, t, rfl, hb, hds⟩ : ∃ ds t, v = Value.str (strOf ds) t ∧ ds.length ≤ 400 ∧ ∀ d ∈ ds, d < 58 := by
      simp only [List.mem_cons, List.not_mem_nil, or_false] at hv
      rcases hv with rfl | rfl | rfl | rfl
      · exact ⟨_, _, rfl, hd1⟩
      · exact ⟨_, _, rfl, hd2⟩
      · exact ⟨_, _, rfl, hd3⟩
      · exact ⟨_, _, rfl, hd4'⟩
    clear hv
    have hq := decQ_size hds
    by_cases hG : lst (decQ ds) = hd4 (dsha (ini (decQ ds)))
    · have h4 : 4 ≤ (decQ ds).size := by
        have h := congrArg Array.size hG
        rw [lst_size, hd4_size, dsha_size] at h
        omega
      k_steps
      exact ⟨rfl, _, _, _, rfl, by assumption, by assumption⟩
    · k_steps
      all_goals exact ⟨rfl, _, _, _, rfl, by assumption, by assumption⟩
  · intro m₁ h tk F₂ N₂
    k_steps
    exact ret _ _ _ (by assumption)
end Mine
-- W5
namespace Mine
local macro_rules | `(tactic| walk_at "zz0") => `(tactic| skip)
local macro_rules | `(tactic| walk_at "call ref") => `(tactic| (k_here; k_dflt (refine' Con.use (dsha_con _ _ _ ?mb) ?mB ?mF ?mX ?mN ?mT ?mk ?mp ?md ?mu ?_; (case mB => k_asm); (case mF => k_asm); (case mX => k_asm); (case mN => k_asm); (case mT => k_asm); (case mk => exact rfl); (case mp => trivial); (case md => decide); (case mu => exact Nat.le_of_ble_eq_true rfl); (case mb => omega)); intro r9 h9 tk9 R9 F9 N9; obtain ⟨t9, e9⟩ := R9; subst e9; (try dsimp only); (try k_fold)))
local macro_rules | `(tactic| walk_at "call ref") => `(tactic| (k_here; k_dflt (refine' Con.use (number_con _ _ _ _ _ _ ?ma ?mc) ?mB ?mF ?mX ?mN ?mT ?mk ?mp ?md ?mu ?_; (case mB => k_asm); (case mF => k_asm); (case mX => k_asm); (case mN => k_asm); (case mT => k_asm); (case mk => exact rfl); (case mp => assumption); (case md => decide); (case mu => exact Nat.le_of_ble_eq_true rfl); (case ma => decide); (case mc => decide)); intro r9 h9 tk9 R9 F9 N9; obtain ⟨t9, e9⟩ := R9; subst e9; (try dsimp only); (try k_fold)))
local macro_rules | `(tactic| walk_at "call ref") => `(tactic| (k_here; k_dflt (refine' Con.use (encode_D _ _ _ ?mb) ?mB ?mF ?mX ?mN ?mT ?mk ?mp ?md ?mu ?_; (case mB => k_asm); (case mF => k_asm); (case mX => k_asm); (case mN => k_asm); (case mT => k_asm); (case mk => exact rfl); (case mp => trivial); (case md => decide); (case mu => exact Nat.le_of_ble_eq_true rfl); (case mb => first | omega | (simp only [Array.size_append, chk_size]; omega))); intro r9 h9 tk9 R9 F9 N9; obtain ⟨t9, e9⟩ := R9; subst e9; (try dsimp only); (try k_fold)))
local macro_rules | `(tactic| walk_at "call ref") => `(tactic| (k_here; k_dflt (refine' Con.use (encode_check_D _ _ _ ?mb) ?mB ?mF ?mX ?mN ?mT ?mk ?mp ?md ?mu ?_; (case mB => k_asm); (case mF => k_asm); (case mX => k_asm); (case mN => k_asm); (case mT => k_asm); (case mk => exact rfl); (case mp => trivial); (case md => decide); (case mu => exact Nat.le_of_ble_eq_true rfl); (case mb => omega)); intro r9 h9 tk9 R9 F9 N9; obtain ⟨t9, e9⟩ := R9; subst e9; (try dsimp only); (try k_fold)))
local macro_rules | `(tactic| walk_at "call ref") => `(tactic| (k_here; k_dflt (refine' Con.use (check_back _ _ _ ?mb) ?mB ?mF ?mX ?mN ?mT ?mk ?mp ?md ?mu ?_; (case mB => k_asm); (case mF => k_asm); (case mX => k_asm); (case mN => k_asm); (case mT => k_asm); (case mk => exact rfl); (case mp => trivial); (case md => decide); (case mu => exact Nat.le_of_ble_eq_true rfl); (case mb => omega)); intro r9 h9 tk9 R9 F9 N9; obtain ⟨t9, e9⟩ := R9; subst e9; (try dsimp only); (try k_fold)))
local macro_rules | `(tactic| walk_at "subscriptTail Name Slice bytes ref") => `(tactic| (k_here; (refine' slice_P (s := ⟨_, _, _, _, _⟩) ?mF ?mN ?ml ?mu ?mz ?_; (case mF => k_asm); (case mN => k_asm); (case ml => constructor); (case mu => constructor); (case mz => first | omega | (rw [dsha_size]; decide))); intro _ _ _ _ _; simp only [hd4_zero, ini_fold, lst_fold, hd4_fold]))
local macro_rules | `(tactic| walk_at "binaryOp Add bytes bytes") => `(tactic| (k_here; (refine KBy.add_bytes ?mz ?_; (case mz => (simp only [chk_size]; omega))); intro _ _))
local macro_rules | `(tactic| walk_at "compareOp NotEq bytes bytes") => `(tactic| (k_here; (refine ne_same rfl ?_)))
local macro_rules | `(tactic| walk_at "compareOp NotEq str str") => `(tactic| (k_here; first | (refine ne_str_same ?_) | (refine ne_str_nil (by assumption) ?_) | (refine ne_nil_nil ?_)))
local macro_rules | `(tactic| walk_at "subscriptTail Name Slice str ref") => `(tactic| (k_here; (refine' slice_init (s := ⟨_, _, _, _, _⟩) ?mF ?mN ?mh ?_; (case mF => k_asm); (case mN => k_asm); (case mh => omega)); intro _ _ _ _ _))
local macro_rules | `(tactic| walk_at "subscriptTail Name UnaryOp str int") => `(tactic| (k_here; (refine item_last (by assumption) (by omega) ?_); intro _; (try dsimp only)))
local macro_rules | `(tactic| walk_at "subscriptTail Name BinOp str int") => `(tactic| (k_here; (refine item_alpha (Int.fmod_nonneg_of_pos _ (by decide)) (Int.fmod_lt_of_pos _ (by decide)) ?_); intro _; (try dsimp only)))
local macro_rules | `(tactic| walk_at "call builtin:str.index") => `(tactic| (k_here; (refine index_alpha (by assumption) ?_)))
local macro_rules | `(tactic| walk_at "binaryOp Add str str") => `(tactic| (k_here; (refine add_digit ?mz ?_; (case mz => (simp only [List.length_dropLast]; omega))); intro _ _))
local macro_rules | `(tactic| walk_at "execs cons For") => `(tactic| (k_here; refine Stop.intro ?_))

theorem turned_ok {ds : List Nat} {x : Int} (h : ds.length ≤ 390) (hd : ∀ d ∈ ds, d < 58) : (ds.dropLast ++ [(x.fmod 58).toNat]).length ≤ 400 ∧ ∀ d ∈ ds.dropLast ++ [(x.fmod 58).toNat], d < 58 := by
  refine ⟨by rw [List.length_append, List.length_dropLast, List.length_singleton]; omega, fun d hm => ?_⟩
  rcases List.mem_append.mp hm with h1 | h1
  · exact hd d (List.dropLast_subset _ h1)
  · rw [List.mem_singleton.mp h1]
    have h2 := Int.fmod_lt_of_pos x (b := 58) (by decide)
    have h3 := Int.fmod_nonneg_of_pos x (b := 58) (by decide)
    omega
set_option maxHeartbeats 4000000 in
theorem law_5 (w : World) {mean : ExcName → Option Value} {mg mb : Str → Option Value} {h₀ : Heap} {L fa : Addr} {cd : Value} {m : Str → Option Value} {s : Shared} {Q : Flow → Shared → Prop} {E : Value → Shared → Prop} {o : Obj} {l : Addr} {vs : List Value} {ns : List Int}
    (hpre : h₀.IsList l vs.toArray ∧ IntsAre vs ns ∧ ns.length ≤ 63) (hbits : ∀ n ∈ ns, Builtin.Int.intBits n ≤ 1048576) (ho : o.data = .cell (some (.ref l)))
    (B : Below callerA h₀ [] h₀) (X : (hd.heap_39 w.params).In h₀) (T : Top hd.view_39 (looseW hd.view_39 [Str.ofString "Sha256", Str.ofString "hashlib"]) mean mg mb h₀)
    (N : News h₀ L s.heap [(L + 1, o)]) (hE : PassesOwn (model PySem.Challenge.rw_ai0019_01.row.prog w) (lawA L fa cd) (lawEnv L fa cd) E)
    (ret : ∀ h' tk' m', Fr h₀ L h' m' → Q (.ret (.bool true)) { s with heap := h', toks := tk' })
    (one : Array UInt8) (t1 : Tok) (df : List Nat) (t2 : Tok) (hone : one.size ≤ 24) (hdf : df.length ≤ 40) (hdf2 : ∀ d ∈ df, d < 58)
    (F : Fr h₀ L s.heap (fun y => if y = Str.ofString "figures" then some (.str (strOf df) t2) else if y = Str.ofString "one" then some (.bytes one t1) else m y)) :
    wpAny (model PySem.Challenge.rw_ai0019_01.row.prog w) (lawA L fa cd) (execs (lawBody.drop 17) (lawEnv L fa cd)) Q E s := by
  show wpAny _ _ (execs (_ :: _) _) _ _ _
  have hdx : 0 < (encD (one ++ hd4 (dsha one))).length := List.length_pos_iff.mpr (encD_ne (by rw [Array.size_append, chk_size]; omega))
  have hen := encD_length (one ++ hd4 (dsha one))
  have hsz : (one ++ hd4 (dsha one)).size = one.size + 4 := by rw [Array.size_append, chk_size]
  have hlt := encD_lt (one ++ hd4 (dsha one))
  have hxne : encD (one ++ hd4 (dsha one)) ≠ [] := List.length_pos_iff.mp hdx
  have hlx := hlt _ (List.getLast_mem hxne)
  by_cases hne : df = []
  · subst hne
    w_top off
    k_steps
    unfold Stop
    rename Fr _ _ _ _ => F9
    rw [two_eq] at F9
    exact law_loop w [] [1] _ _ _ _ _ _ ⟨by decide, hdf2⟩ ⟨by decide, by decide⟩ ⟨by omega, hlt⟩ (turned_ok (by omega) hlt) B X T F9 (by assumption) hE (fun h' tk' m' F => ret h' tk' m' F)
  · have hlf := hdf2 _ (List.getLast_mem hne)
    k_steps
    unfold Stop
    rename Fr _ _ _ _ => F9
    exact law_loop w df _ _ _ _ _ _ _ ⟨by omega, hdf2⟩ (turned_ok (by omega) hdf2) ⟨by omega, hlt⟩ (turned_ok (by omega) hlt) B X T F9 (by assumption) hE (fun h' tk' m' F => ret h' tk' m' F)
end Mine
-- W4
namespace Mine
local macro_rules | `(tactic| walk_at "zz0") => `(tactic| skip)
local macro_rules | `(tactic| walk_at "zz1") => `(tactic| skip)
local macro_rules | `(tactic| walk_at "zz2") => `(tactic| skip)
local macro_rules | `(tactic| walk_at "zz3") => `(tactic| skip)
local macro_rules | `(tactic| walk_at "call ref") => `(tactic| (k_here; k_dflt (refine' Con.use (number_con _ _ _ _ _ _ ?ma ?mc) ?mB ?mF ?mX ?mN ?mT ?mk ?mp ?md ?mu ?_; (case mB => k_asm); (case mF => k_asm); (case mX => k_asm); (case mN => k_asm); (case mT => k_asm); (case mk => exact rfl); (case mp => assumption); (case md => decide); (case mu => exact Nat.le_of_ble_eq_true rfl); (case ma => first | decide | omega); (case mc => first | decide | omega)); intro r9 h9 tk9 R9 F9 N9; obtain ⟨t9, e9⟩ := R9; subst e9; (try dsimp only); (try k_fold)))

local macro_rules | `(tactic| walk_at "subscriptTail Name BinOp str int") => `(tactic| (k_here; (refine item_alpha (Int.fmod_nonneg_of_pos _ (by decide)) (Int.fmod_lt_of_pos _ (by decide)) ?_); intro _; (try dsimp only)))
theorem add_join {prog : Program} {w : World} {A : Around} {E : Value → Shared → Prop} {s : Shared} {t u : Tok} {Q : Value → Shared → Prop} {a : List Nat} {f : Int → Nat} {ks : List Int} (hn : a.length + ks.length ≤ 9000) (h : ∀ t' k, Q (.str (strOf (a ++ ks.map f)) t') { s with toks := k }) :
    wpAny (model prog w) A (binaryOp .Add (.str (strOf a) t) (.str (Txt.join (PySem.Str.ofString "") (ks.map fun k => digit (f k))) u)) Q E s := by
  have e : ks.map (fun k => digit (f k)) = (ks.map f).map digit := by rw [List.map_map]; rfl
  rw [e, join_digits]
  exact add_strOf (by rw [List.length_map]; omega) h
local macro_rules | `(tactic| walk_at "binaryOp Add str str") => `(tactic| (k_here; (refine add_join ?mz ?_; (case mz => (simp only [List.length_replicate, rangeKs_length]; omega))); intro _ _))
theorem zeros_lt {k : Nat} : ∀ d ∈ List.replicate k 0, d < 58 := fun d hd => by
  rw [(List.mem_replicate.mp hd).2]
  decide
theorem figures_lt {k : Nat} {f : Int → Int} {ks : List Int} : ∀ d ∈ List.replicate k 0 ++ ks.map (fun a => ((f a).fmod 58).toNat), d < 58 := fun d hd => by
  rcases List.mem_append.mp hd with h | h
  · exact zeros_lt d h
  · obtain ⟨a, _, rfl⟩ := List.mem_map.mp h
    have h2 := Int.fmod_lt_of_pos (f a) (b := 58) (by decide)
    have h3 := Int.fmod_nonneg_of_pos (f a) (b := 58) (by decide)
    omega
theorem encode_back (w : World) (ds : List Nat) (t : Tok) (hl : ds.length ≤ 40) (hds : ∀ d ∈ ds, d < 58) : Con w 96 [.bytes (decQ ds) t] 20 200 (fun _ => True) (fun r => ∃ t', r = .str (strOf ds) t') :=
  con_mono (encode_D w _ t (by have := decQ_size hds; omega)) fun r ⟨t', e⟩ => ⟨t', by rw [e, enc_dec hds]⟩
theorem lz_dec {ds : List Nat} (hds : ∀ d ∈ ds, d < 58) : lz (bds (decQ ds)) = lz ds := by
  rw [decQ_conv hds, bds_bytOf (conv_lt (by decide) _), lz_conv (by decide)]
theorem len_strOf {prog : Program} {w : World} {A : Around} {E : Value → Shared → Prop} {s : Shared} {ds : List Nat} {t : Tok} {Q : Value → Shared → Prop} (hl : ds.length ≤ 100000) (h : ∀ t' k, Q (.int (ds.length : Int) t') { s with toks := k }) :
    wpAny (model prog w) A (call (.builtin "len") [.str (strOf ds) t]) Q E s := by
  have e := strOf_length ds
  refine PySem.P.len_str (by omega) ?_
  rw [e]
  exact h _ _
local macro_rules | `(tactic| walk_at "call ref") => `(tactic| (k_here; k_dflt (refine' Con.use (decode_all _ _ _ ?mb ?mc) ?mB ?mF ?mX ?mN ?mT ?mk ?mp ?md ?mu ?_; (case mB => k_asm); (case mF => k_asm); (case mX => k_asm); (case mN => k_asm); (case mT => k_asm); (case mk => exact rfl); (case mp => trivial); (case md => decide); (case mu => exact Nat.le_of_ble_eq_true rfl); (case mb => first | omega | (simp only [List.length_replicate, List.length_append, List.length_map, rangeKs_length]; omega)); (case mc => first | assumption | exact zeros_lt | exact figures_lt)); intro r9 h9 tk9 R9 F9 N9; obtain ⟨t9, e9⟩ := R9; subst e9; (try dsimp only); (try k_fold)))
local macro_rules | `(tactic| walk_at "call ref") => `(tactic| (k_here; k_dflt (refine' Con.use (encode_back _ _ _ ?mb ?mc) ?mB ?mF ?mX ?mN ?mT ?mk ?mp ?md ?mu ?_; (case mB => k_asm); (case mF => k_asm); (case mX => k_asm); (case mN => k_asm); (case mT => k_asm); (case mk => exact rfl); (case mp => trivial); (case md => decide); (case mu => exact Nat.le_of_ble_eq_true rfl); (case mb => first | omega | (simp only [List.length_replicate, List.length_append, List.length_map, rangeKs_length]; omega)); (case mc => first | assumption | exact zeros_lt | exact figures_lt)); intro r9 h9 tk9 R9 F9 N9; obtain ⟨t9, e9⟩ := R9; subst e9; (try dsimp only); (try k_fold)))

local macro_rules | `(tactic| walk_at "call builtin:len") => `(tactic| (k_here; (with_reducible show wpAny _ _ (call _ [Value.str (strOf _) _]) _ _ _); (refine len_strOf ?mz ?_; (case mz => first | omega | (simp only [List.length_replicate, List.length_append, List.length_map, rangeKs_length]; omega))); intro _ _))
theorem ones_mul1 {prog : Program} {w : World} {A : Around} {E : Value → Shared → Prop} {s : Shared} {t u : Tok} {Q : Value → Shared → Prop} {n : Int} (h0 : 0 ≤ n) (hn : n ≤ 1000) (h : ∀ t' k, Q (.str (strOf (List.replicate n.toNat 0)) t') { s with toks := k }) :
    wpAny (model prog w) A (binaryOp .Mult (.str (PySem.Str.ofString "1") t) (.int n u)) Q E s := by
  rw [one_eq]
  exact ones_mul h0 hn h
local macro_rules | `(tactic| walk_at "binaryOp Mult str int") => `(tactic| (k_here; (refine ones_mul1 ?ma ?mc ?_; (case ma => first | exact Int.fmod_nonneg_of_pos _ (by decide) | exact Int.natCast_nonneg _); (case mc => first | omega | (simp only [List.length_replicate, List.length_append, List.length_map, rangeKs_length]; omega))); intro _ _))
local macro_rules | `(tactic| walk_at "getMethod bytes") => `(tactic| (k_here; (with_reducible refine meth_blstrip ?_)))
local macro_rules | `(tactic| walk_at "call builtin:bytes.lstrip") => `(tactic| (k_here; (refine lstrip_by (by omega) ?_); intro _ _ _ _))
local macro_rules | `(tactic| walk_at "call builtin:str.lstrip") => `(tactic| (k_here; (refine lstrip_str (by assumption) (by omega) ?_); intro _ _; (try rw [List.length_drop])))
local macro_rules | `(tactic| walk_at "compareOp NotEq str str") => `(tactic| (k_here; (refine ne_str_same ?_)))
local macro_rules | `(tactic| walk_at "call builtin:len") => `(tactic| (k_here; (with_reducible show wpAny _ _ (call _ [Value.bytes _ _]) _ _ _); (refine len_by (by omega) ?_); intro _ _))
local macro_rules | `(tactic| walk_at "execs cons If") => `(tactic| (k_here; refine Stop.intro ?_))
set_option maxHeartbeats 4000000 in
theorem law_4b (w : World) {mean : ExcName → Option Value} {mg mb : Str → Option Value} {h₀ : Heap} {L fa : Addr} {cd : Value} {m : Str → Option Value} {s : Shared} {Q : Flow → Shared → Prop} {E : Value → Shared → Prop} {o : Obj} {l : Addr} {vs : List Value} {ns : List Int}
    (hpre : h₀.IsList l vs.toArray ∧ IntsAre vs ns ∧ ns.length ≤ 63) (hbits : ∀ n ∈ ns, Builtin.Int.intBits n ≤ 1048576) (ho : o.data = .cell (some (.ref l)))
    (B : Below callerA h₀ [] h₀) (X : (hd.heap_39 w.params).In h₀) (T : Top hd.view_39 (looseW hd.view_39 [Str.ofString "Sha256", Str.ofString "hashlib"]) mean mg mb h₀)
    (N : News h₀ L s.heap [(L + 1, o)]) (hE : PassesOwn (model PySem.Challenge.rw_ai0019_01.row.prog w) (lawA L fa cd) (lawEnv L fa cd) E)
    (ret : ∀ h' tk' m', Fr h₀ L h' m' → Q (.ret (.bool true)) { s with heap := h', toks := tk' })
    (one : Array UInt8) (t1 : Tok) (df : List Nat) (t2 : Tok) (hone : one.size ≤ 24) (hdf : df.length ≤ 40) (hdf2 : ∀ d ∈ df, d < 58)
    (F : Fr h₀ L s.heap (fun y => if y = Str.ofString "figures" then some (.str (strOf df) t2) else if y = Str.ofString "one" then some (.bytes one t1) else m y)) :
    wpAny (model PySem.Challenge.rw_ai0019_01.row.prog w) (lawA L fa cd) (execs (lawBody.drop 15) (lawEnv L fa cd)) Q E s := by
  show wpAny _ _ (execs (_ :: _) _) _ _ _
  have hq := decQ_size hdf2
  have hlz := lz_le df
  have hld := lz_dec hdf2
  have hdr := List.length_drop (i := lz df) (l := df)
  w_top off
  k_steps
  unfold Stop
  refine wpAny_execs_cons ?_
  k_steps
  · exfalso
    omega
  · unfold Stop
    dsimp only
    rename Fr _ _ _ _ => F9
    exact law_5 w hpre hbits ho B X T (by assumption) hE (fun h' tk' m' F => ret h' tk' m' F) one t1 df t2 hone hdf hdf2 (fr_with (x := Str.ofString "figures") (fr_with (x := Str.ofString "one") F9 rfl) rfl)
local macro_rules | `(tactic| walk_at "execs cons Assign cons") => `(tactic| (k_here; refine Stop.intro ?_))
set_option maxHeartbeats 4000000 in
theorem law_4 (w : World) {mean : ExcName → Option Value} {mg mb : Str → Option Value} {h₀ : Heap} {L fa : Addr} {cd : Value} {m : Str → Option Value} {s : Shared} {Q : Flow → Shared → Prop} {E : Value → Shared → Prop} {o : Obj} {l : Addr} {vs : List Value} {ns : List Int}
    (hpre : h₀.IsList l vs.toArray ∧ IntsAre vs ns ∧ ns.length ≤ 63) (hbits : ∀ n ∈ ns, Builtin.Int.intBits n ≤ 1048576) (ho : o.data = .cell (some (.ref l)))
    (B : Below callerA h₀ [] h₀) (X : (hd.heap_39 w.params).In h₀) (T : Top hd.view_39 (looseW hd.view_39 [Str.ofString "Sha256", Str.ofString "hashlib"]) mean mg mb h₀)
    (N : News h₀ L s.heap [(L + 1, o)]) (hE : PassesOwn (model PySem.Challenge.rw_ai0019_01.row.prog w) (lawA L fa cd) (lawEnv L fa cd) E)
    (ret : ∀ h' tk' m', Fr h₀ L h' m' → Q (.ret (.bool true)) { s with heap := h', toks := tk' })
    (one : Array UInt8) (t1 : Tok) (hone : one.size ≤ 24)
    (F : Fr h₀ L s.heap (fun y => if y = Str.ofString "one" then some (.bytes one t1) else m y)) :
    wpAny (model PySem.Challenge.rw_ai0019_01.row.prog w) (lawA L fa cd) (execs (lawBody.drop 12) (lawEnv L fa cd)) Q E s := by
  show wpAny _ _ (execs (_ :: _) _) _ _ _
  have hc30 := Int.fmod_lt_of_pos (cell ns 5) (b := 30) (by decide)
  have hc0 := Int.fmod_nonneg_of_pos (cell ns 5) (b := 30) (by decide)
  have hm4 := Int.fmod_lt_of_pos (cell ns 6) (b := 4) (by decide)
  have hm0 := Int.fmod_nonneg_of_pos (cell ns 6) (b := 4) (by decide)
  w_top off
  k_steps
  unfold Stop
  refine wpAny_execs_cons ?_
  k_steps
  unfold Stop
  refine wpAny_execs_cons ?_
  k_steps
  unfold Stop
  refine wpAny_execs_cons ?_
  k_steps
  · unfold Stop
    (try dsimp only)
    rename Fr _ _ _ _ => F9
    refine law_4b w hpre hbits ho B X T (cb_drop (by assumption) (by intro p hp; repeat (first | exact hp | refine List.Mem.tail _ ?_))) hE (fun h' tk' m' F => ret h' tk' m' F) one t1 _ _ hone ?_ zeros_lt (fr_with (x := Str.ofString "figures") (fr_with (x := Str.ofString "one") F9 rfl) rfl)
    simp only [List.length_replicate, List.length_append, List.length_map, rangeKs_length]
    omega
  · unfold Stop
    (try dsimp only)
    rename Fr _ _ _ _ => F9
    refine law_4b w hpre hbits ho B X T (cb_drop (by assumption) (by intro p hp; repeat (first | exact hp | refine List.Mem.tail _ ?_))) hE (fun h' tk' m' F => ret h' tk' m' F) one t1 _ _ hone ?_ figures_lt (fr_with (x := Str.ofString "figures") (fr_with (x := Str.ofString "one") F9 rfl) rfl)
    simp only [List.length_replicate, List.length_append, List.length_map, rangeKs_length]
    omega
end Mine
-- C7
namespace Mine
section
variable {prog : Program} {w : World} {A : Around} {E : Value → Shared → Prop} {s : Shared} {t u t1 t2 t3 t4 : Tok}
theorem rich_lt_int {i j : Int} {Q : Value → Shared → Prop} (h : Q (.bool (decide (i < j))) s) : wpAny (model prog w) A (richCompare .Lt (.int i t) (.int j u)) Q E s := by
  have := PyProof.Rows.lt_int (prog := prog) (w := w) (A := A) (E := E) (t := t) (u := u) h
  exact this
theorem rich_lt_str {x y : Str} {Q : Value → Shared → Prop} (h : Q (.bool (x.cps.toList < y.cps.toList)) s) : wpAny (model prog w) A (richCompare .Lt (.str x t) (.str y u)) Q E s := by
  have := PyProof.Rows.lt_str (prog := prog) (w := w) (A := A) (E := E) (t := t) (u := u) h
  exact this
theorem tup_lt_tree {ta tb : Addr} {i j : Int} {x y : Str} {P : Fin → Shared → Prop} (ha : IsTup s.heap ta #[.int i t1, .str x t2]) (hb : IsTup s.heap tb #[.int j t3, .str y t4])
    (h : P (.done (.ret (.bool (decide (i < j ∨ (i = j ∧ x.cps.toList < y.cps.toList)))))) s) :
    wpAny (model prog w) A (Builtin.«tuple.__lt__» ⟨[.ref ta, .ref tb], []⟩) P E s := by
  show wpAny _ _ (isInstance (.ref tb) (.type "tuple") >>= _) _ _ s
  refine wpAny_bind (wpAny_isInstance hb.typeIs isSubtype_tuple_tuple ?_)
  simp only [Bool.not_true, Bool.false_eq_true, if_false]
  refine wpAny_bind (tupleItemsOf_ ha ?_)
  refine wpAny_bind (tupleItemsOf_ hb ?_)
  simp only [List.zip_cons_cons, List.zip_nil_right, List.forIn_cons, List.forIn_nil]
  refine wpAny_bind ?_
  refine wpAny_bind ?_
  refine wpAny_bind (wpAny_eqBool_int ?_)
  by_cases hij : i = j
  · subst hij
    simp only [beq_self_eq_true, Bool.not_true, Bool.false_eq_true, if_false]
    refine wpAny_pure ?_
    refine wpAny_bind ?_
    refine wpAny_bind (eqBool_str ?_)
    by_cases hxy : x = y
    · subst hxy
      simp only [beq_self_eq_true, Bool.not_true, Bool.false_eq_true, if_false]
      refine wpAny_pure ?_
      refine wpAny_pure ?_
      have e : decide (i < i ∨ (i = i ∧ x.cps.toList < x.cps.toList)) = false := by
        simp [List.lt_irrefl]
      rw [e] at h
      exact wpAny_pure h
    · have hb' : (x == y) = false := by simpa using hxy
      rw [hb']
      simp only [Bool.not_false, if_true]
      have e : decide (i < i ∨ (i = i ∧ x.cps.toList < y.cps.toList)) = decide (x.cps.toList < y.cps.toList) := by simp
      rw [e] at h
      refine wpAny_bind (wpAny_rule (wpAny_bind (rich_lt_str ?_)))
      refine wpAny_bind (wpAny_pure (wpAny_pure ?_))
      first | exact wpAny_pure (wpAny_pure h) | exact wpAny_pure (wpAny_pure (wpAny_pure h))
  · have hb' : (i == j) = false := by simpa using hij
    rw [hb']
    simp only [Bool.not_false, if_true]
    have e : decide (i < j ∨ (i = j ∧ x.cps.toList < y.cps.toList)) = decide (i < j) := by simp [hij]
    rw [e] at h
    refine wpAny_bind (wpAny_rule (wpAny_bind (rich_lt_int ?_)))
    refine wpAny_bind (wpAny_pure (wpAny_pure ?_))
    first | exact wpAny_pure h | exact wpAny_pure (wpAny_pure h) | exact wpAny_bind (wpAny_pure h)
theorem lt_tup {ta tb : Addr} {i j : Int} {x y : Str} {Q : Value → Shared → Prop} (hu : A.units < cLine) (ha : IsTup s.heap ta #[.int i t1, .str x t2]) (hb : IsTup s.heap tb #[.int j t3, .str y t4])
    (h : Q (.bool (decide (i < j ∨ (i = j ∧ x.cps.toList < y.cps.toList)))) s) :
    wpAny (model prog w) A (compareOp .Lt (.ref ta) (.ref tb)) Q E s := by
  show wpAny _ _ (richCompare .Lt (.ref ta) (.ref tb)) Q E s
  exact wpAny_richCompare_same_room (op := .Lt) (T := "tuple") ha.typeIs hb.typeIs F.slot_tuple_lt
    (wpAny_call_entry F.slot_tuple_lt ha.typeIs F.entry_tuple_lt (tup_lt_tree ha hb ⟨_, rfl, by simp, h⟩) (F.args_tuple_lt_2 _ _)) hu
end
theorem figs_lt : ∀ (a b : List Nat), (∀ d ∈ a, d < 58) → (∀ d ∈ b, d < 58) → (a.map fig < b.map fig ↔ a < b)
  | [], [], _, _ => by simp
  | [], _ :: _, _, _ => by simp
  | _ :: _, [], _, _ => by simp
  | x :: a, y :: b, ha, hb => by
    have ih := figs_lt a b (fun d h => ha d (List.mem_cons_of_mem _ h)) (fun d h => hb d (List.mem_cons_of_mem _ h))
    have hx := ha x (List.mem_cons_self ..)
    have hy := hb y (List.mem_cons_self ..)
    rw [List.map_cons, List.map_cons, List.cons_lt_cons_iff, List.cons_lt_cons_iff, fig_lt hx hy, ih]
    constructor
    · rintro (h | ⟨h, k⟩)
      · exact .inl h
      · exact .inr ⟨fig_inj hx hy h, k⟩
    · rintro (h | ⟨h, k⟩)
      · exact .inl h
      · exact .inr ⟨by rw [h], k⟩
theorem strOf_cps (ds : List Nat) : (strOf ds).cps.toList = ds.map fig := by
  rw [strOf_eq]
theorem encD_drop (b : Array UInt8) : (encD b).drop (lz (encD b)) = digs 58 (val 256 (bds b)) := by
  rw [encD_eq, lz_conv (by decide)]
  unfold conv
  rw [List.drop_left' (by rw [List.length_replicate])]
/-- the law's order -/
theorem order_agrees {one two : Array UInt8} (hs : one.size = two.size) :
    decide (bds one < bds two) = decide ((((digs 58 (val 256 (bds one))).length : Int) < ((digs 58 (val 256 (bds two))).length : Int)) ∨ ((((digs 58 (val 256 (bds one))).length : Int) = ((digs 58 (val 256 (bds two))).length : Int)) ∧ (strOf (digs 58 (val 256 (bds one)))).cps.toList < (strOf (digs 58 (val 256 (bds two)))).cps.toList)) := by
  rw [strOf_cps, strOf_cps]
  have h1 := lex_val (bds one) (bds two) (by rw [bds_length, bds_length, hs]) (bds_lt one) (bds_lt two)
  have h2 := order_digs (B := 58) (by decide) (val 256 (bds one)) (val 256 (bds two))
  have h3 := figs_lt (digs 58 (val 256 (bds one))) (digs 58 (val 256 (bds two))) (digs_lt (by decide) _) (digs_lt (by decide) _)
  rw [decide_eq_decide, h1, h2, h3, Int.ofNat_lt, Int.ofNat_inj]
end Mine
-- C8
namespace Mine
theorem bmi_no_bytes : typeLookup (.type "int") "__bytes__" = pure none := by rw [typeLookup_type, builtinLookup_eq_fast]; kernel_rfl
section
variable {prog : Program} {w : World} {A : Around} {E : Value → Shared → Prop} {s : Shared}
theorem bi_if {α : Type} {M : Model} {c : Prop} [Decidable c] {a b : Sem α} {Q : α → Shared → Prop} (hc : ¬ c) (h : wpAny M A b Q E s) : wpAny M A (if c then a else b) Q E s := by
  rw [if_neg hc]
  exact h
theorem bmi_new {n : Int} {t : Tok} {Q : Value → Shared → Prop} (h0 : 0 ≤ n) (h1 : n ≤ 1000)
    (hQ : ∀ t' k, Q (.bytes (Array.replicate n.toNat 0) t') { s with toks := k }) :
    codeAny (model prog w) A (.call (.builtin "bytes.__new__") ⟨[.type "bytes", .int n t], []⟩) (wants Q E) s := by
  refine codeAny_of_tree ?_
  show wpAny _ A.in1 (do checkBuiltinCall "bytes.__new__" ⟨[.type "bytes", .int n t], []⟩; again (.builtin "bytes.__new__" ⟨[.type "bytes", .int n t], []⟩)) _ _ s
  refine wpAny_bind (wpAny_of_eq (F.bm_newCall _) (wpAny_pure ⟨plainId_quiet F.bm_plain _, codeAny_builtin F.bm_entry ?_⟩))
  rw [Around.under_plainId F.bm_plain _]
  have hT : s.TypeIs (.int n t) "int" := typeIs_int s n t
  unfold Builtin.«bytes.__new__»
  refine wpAny_bind (wpAny_of_eq (a := true) rfl ?_)
  refine bm_if_false rfl ?_
  refine wpAny_bind (wpAny_of_eq F.bm_sub ?_)
  refine bm_if_false rfl ?_
  refine wpAny_bind (wpAny_of_eq (F.bm_bind _) ?_)
  refine wpAny_bind (wpAny_of_eq (a := ()) rfl ?_)
  refine wpAny_bind (wpAny_of_eq (a := ()) rfl ?_)
  refine bm_if_false rfl ?_
  refine wpAny_bind (wpAny_specialOf hT bmi_no_bytes ?_)
  refine wpAny_bind (wpAny_of_eq (a := false) rfl ?_)
  refine bm_if_false rfl ?_
  refine wpAny_bind (wpAny_specialOf hT F.slot_int_index.lookup ?_)
  refine bm_if_false rfl ?_
  refine wpAny_bind (wpAny_attempt (wpAny_of_eq (rfl : asIndex (.int n t) = pure n) ?_))
  dsimp only
  refine bm_if_false (by unfold Builtin.Bytes.fitsIndex; simp; omega) ?_
  refine bi_if (by omega) ?_
  refine bi_if (by omega) ?_
  refine bm_if_false (by unfold Builtin.Bytes.tooLong; rw [sizeLine_eq]; simp; omega) ?_
  refine wpAny_bind (wpAny_rule ?_)
  refine wpAny_bind (wpAny_mkBytes ?_ (by rw [Array.size_replicate, sizeLine_eq]; omega))
  refine bm_if_true (by decide) ?_
  first
    | exact wpAny_pure (hQ _ _)
    | exact wpAny_bind (wpAny_pure (wpAny_pure (hQ _ _)))
theorem call_bytes_int {n : Int} {t : Tok} {Q : Value → Shared → Prop} (h0 : 0 ≤ n) (h1 : n ≤ 1000)
    (hQ : ∀ t' k, Q (.bytes (Array.replicate n.toNat 0) t') { s with toks := k }) : wpAny (model prog w) A (call (.type "bytes") [.int n t]) Q E s := by
  refine callType_codes (Q₁ := fun obj s₁ => s₁.TypeIs obj "bytes" ∧ Q obj s₁) F.bm_called (F.bm_typeCall _) F.entry_object_init
    (bmi_new h0 h1 fun t' k => ⟨PySem.W.typeIs_bytes _ _ _, hQ t' k⟩) fun obj s₁ h₁ => ?_
  exact ⟨h₁.1, F.args_object_init_2 obj _, object_init_meets F.bm_called.init.lookup F.bm_called.made (by decide) prog w A.in1 _ s₁ ⟨h₁.1, rfl, h₁.2⟩⟩
end
theorem head_size (b : Array UInt8) (k : Int) (h : 0 ≤ k) : (KBy.picked b none (some k)).size = min k.toNat b.size := by
  rw [KBc.picked_eq]
  show (((b.toList.drop 0).take (clipAt b.size k - 0)).toArray).size = _
  rw [List.size_toArray, List.length_take, List.drop_zero, Array.length_toList]
  have e : clipAt b.size k = min k.toNat b.size := by
    have := clipAt_nat b.size k.toNat
    rw [show ((k.toNat : Nat) : Int) = k by omega] at this
    exact this
  omega
end Mine
-- W3c
namespace Mine
local macro_rules | `(tactic| walk_at "zz0") => `(tactic| skip)
local macro_rules | `(tactic| walk_at "zz1") => `(tactic| skip)
local macro_rules | `(tactic| walk_at "zz2") => `(tactic| skip)
local macro_rules | `(tactic| k_room) => `(tactic| ((try simp only [depth_under_make, depth_under_kw, depth_in1, depth_deeper, depth_caller]); (try dsimp only [ktrTop]); omega))
local macro_rules | `(tactic| ktr_room) => `(tactic| ((try simp only [depth_under_make, depth_under_kw, depth_in1, depth_deeper, depth_caller]); (try dsimp only [ktrTop]); omega))
local macro_rules | `(tactic| k_units) => `(tactic| ((try simp only [units_in1, units_deeper, Around.mark_units, units_caller]); (try dsimp only [ktrTop]); (have hcL9 := cLine_is); omega))
local macro_rules | `(tactic| walk_at "call ref") => `(tactic| (k_here; (with_reducible show wpAny _ _ (call (Value.ref _) [Value.bytes _ _, Value.str _ _]) _ _ _); k_dflt (refine' fb_call ?mN ?mM ?mz ?_; (case mN => k_asm); (case mM => k_mem); (case mz => omega)); intro _ _))
local macro_rules | `(tactic| walk_at "getMethod type:int") => `(tactic| (k_here; (refine' KFB.getm ?mF ?mN ?mX (getm_int _) ?_; (case mF => k_asm); (case mN => k_asm); (case mX => k_asm); k_whole; intro x' h' F' N' l1; (try k_lt l1); (try k_sweep))))
local macro_rules | `(tactic| walk_at "call builtin:len") => `(tactic| (k_here; (with_reducible show wpAny _ _ (call _ [Value.str (strOf _) _]) _ _ _); (refine len_strOf ?mz ?_; (case mz => omega)); intro _ _))
local macro_rules | `(tactic| walk_at "compareOp NotEq str str") => `(tactic| (k_here; first | (refine ne_str_nil (by assumption) ?_) | (refine ne_nil_nil ?_)))
local macro_rules | `(tactic| walk_at "binaryOp Pow int int") => `(tactic| (k_here; (refine PyProof.Rows.pow_int_small (by omega) ?mk (by decide) ?_); (case mk => omega)))
local macro_rules | `(tactic| walk_at "execs cons If") => `(tactic| (k_here; refine Stop.intro ?_))
local macro_rules | `(tactic| walk_at "execs cons Assign cons") => `(tactic| (k_here; refine Stop.intro ?_))
theorem pow_nat (k : Nat) : (58 : Int) ^ ((k : Int)).toNat = ((58 ^ k : Nat) : Int) := by
  rw [Int.toNat_natCast, Int.natCast_pow]
  rfl
theorem pow_nat1 (k : Nat) : (58 : Int) ^ ((k : Int) - 1).toNat = ((58 ^ (k - 1) : Nat) : Int) := by
  rw [show ((k : Int) - 1).toNat = k - 1 by omega, Int.natCast_pow]
  rfl
set_option maxHeartbeats 4000000 in
theorem law_3c (w : World) {mean : ExcName → Option Value} {mg mb : Str → Option Value} {h₀ : Heap} {L fa : Addr} {cd : Value} {m : Str → Option Value} {s : Shared} {Q : Flow → Shared → Prop} {E : Value → Shared → Prop} {o : Obj} {l : Addr} {vs : List Value} {ns : List Int}
    (hpre : h₀.IsList l vs.toArray ∧ IntsAre vs ns ∧ ns.length ≤ 63) (hbits : ∀ n ∈ ns, Builtin.Int.intBits n ≤ 1048576) (ho : o.data = .cell (some (.ref l)))
    (B : Below callerA h₀ [] h₀) (X : (hd.heap_39 w.params).In h₀) (T : Top hd.view_39 (looseW hd.view_39 [Str.ofString "Sha256", Str.ofString "hashlib"]) mean mg mb h₀)
    (N : News h₀ L s.heap [(L + 1, o)]) (hE : PassesOwn (model PySem.Challenge.rw_ai0019_01.row.prog w) (lawA L fa cd) (lawEnv L fa cd) E)
    (ret : ∀ h' tk' m', Fr h₀ L h' m' → Q (.ret (.bool true)) { s with heap := h', toks := tk' })
    (one : Array UInt8) (t1 : Tok) (ds : List Nat) (t2 : Tok) (hone : one.size ≤ 24) (hds : ds = digs 58 (val 256 (bds one))) (hdl : ds.length ≤ 300)
    (F : Fr h₀ L s.heap (fun y => if y = Str.ofString "one" then some (.bytes one t1) else if y = Str.ofString "left" then some (.str (strOf ds) t2) else m y)) :
    wpAny (model PySem.Challenge.rw_ai0019_01.row.prog w) (lawA L fa cd) (execs (lawBody.drop 10) (lawEnv L fa cd)) Q E s := by
  show wpAny _ _ (execs (_ :: _) _) _ _ _
  have hV := digs_bound (B := 58) (by decide) (val 256 (bds one))
  have hL := digs_low (B := 58) (by decide) (n := val 256 (bds one))
  have hbv := bval_bits one
  rw [← hds] at hV hL
  have hV' := pow_nat ds.length
  have hL' := pow_nat1 ds.length
  w_top off
  k_steps
  unfold Stop
  refine wpAny_execs_cons ?_
  k_steps
  unfold Stop
  by_cases hn : ds = []
  · subst hn
    refine wpAny_execs_cons ?_
    k_steps
    all_goals (unfold Stop; (try dsimp only); (rename Fr _ _ _ _ => F9); exact law_4 w hpre hbits ho B X T (cb_drop (by assumption) (by intro p hp; repeat (first | exact hp | refine List.Mem.tail _ ?_))) hE (fun h' tk' m' F => ret h' tk' m' F) one t1 hone (fr_with (x := Str.ofString "one") F9 rfl))
  · have hn0 : 0 < ds.length := List.length_pos_iff.mpr hn
    have hv0 : 0 < val 256 (bds one) := by
      rcases Nat.eq_zero_or_pos (val 256 (bds one)) with h | h
      · exact absurd (by rw [hds, h, digs_zero]) hn
      · exact h
    have hL := hL hv0
    refine wpAny_execs_cons ?_
    k_steps
    all_goals (unfold Stop; (try dsimp only); (rename Fr _ _ _ _ => F9); exact law_4 w hpre hbits ho B X T (cb_drop (by assumption) (by intro p hp; repeat (first | exact hp | refine List.Mem.tail _ ?_))) hE (fun h' tk' m' F => ret h' tk' m' F) one t1 hone (fr_with (x := Str.ofString "one") F9 rfl))
end Mine
-- W3b
namespace Mine
local macro_rules | `(tactic| walk_at "zz0") => `(tactic| skip)
local macro_rules | `(tactic| walk_at "zz1") => `(tactic| skip)
local macro_rules | `(tactic| walk_at "zz2") => `(tactic| skip)
local macro_rules | `(tactic| walk_at "zz3") => `(tactic| skip)
local macro_rules | `(tactic| walk_at "zz4") => `(tactic| skip)
local macro_rules | `(tactic| k_room) => `(tactic| ((try simp only [depth_under_make, depth_under_kw, depth_in1, depth_deeper, depth_caller]); (try dsimp only [ktrTop]); omega))
local macro_rules | `(tactic| ktr_room) => `(tactic| ((try simp only [depth_under_make, depth_under_kw, depth_in1, depth_deeper, depth_caller]); (try dsimp only [ktrTop]); omega))
local macro_rules | `(tactic| k_units) => `(tactic| ((try simp only [units_in1, units_deeper, Around.mark_units, units_caller]); (try dsimp only [ktrTop]); (have hcL9 := cLine_is); omega))
local macro_rules | `(tactic| walk_at "call builtin:len") => `(tactic| (k_here; (with_reducible show wpAny _ _ (call _ [Value.str (strOf _) _]) _ _ _); (refine len_strOf ?mz ?_; (case mz => omega)); intro _ _))
theorem lstrip_enc {prog : Program} {w : World} {A : Around} {E : Value → Shared → Prop} {s : Shared} {b : Array UInt8} {t u : Tok} {Q : Value → Shared → Prop} (hb : b.size ≤ 100) (h : ∀ t' k, Q (.str (strOf (digs 58 (val 256 (bds b)))) t') { s with toks := k }) :
    wpAny (model prog w) A (call (.builtin "str.lstrip") [.str (strOf (encD b)) t, .str (PySem.Str.ofString "1") u]) Q E s := by
  refine lstrip_str (encD_lt b) (by have := encD_length b; omega) ?_
  rw [encD_drop]
  exact h
theorem lt_by2 {prog : Program} {w : World} {A : Around} {E : Value → Shared → Prop} {s : Shared} {one two : Array UInt8} {t u : Tok} {Q : Value → Shared → Prop} (hs : one.size = two.size) (h : Q (.bool (decide ((((digs 58 (val 256 (bds one))).length : Int) < ((digs 58 (val 256 (bds two))).length : Int)) ∨ ((((digs 58 (val 256 (bds one))).length : Int) = ((digs 58 (val 256 (bds two))).length : Int)) ∧ (strOf (digs 58 (val 256 (bds one)))).cps.toList < (strOf (digs 58 (val 256 (bds two)))).cps.toList)))) s) : wpAny (model prog w) A (compareOp .Lt (.bytes one t) (.bytes two u)) Q E s := by
  refine lt_by ?_
  rw [order_agrees hs]
  exact h
theorem tup_of {h₀ h : Heap} {L a : Addr} {news : List (Addr × Obj)} {items : Array Value} {n : Nat} (N : News h₀ L h news) (hm : (a, ({ cls := .type "tuple", data := .seq items n } : Obj)) ∈ news) : IsTup h a items := ⟨_, (N _ hm).1, rfl, n, rfl⟩
theorem digs_encD (b : Array UInt8) : (digs 58 (val 256 (bds b))).length ≤ 9 * b.size := by
  rw [← encD_drop, List.length_drop]
  exact Nat.le_trans (Nat.sub_le _ _) (encD_length b)
local macro_rules | `(tactic| walk_at "call builtin:str.lstrip") => `(tactic| (k_here; (refine lstrip_enc (by omega) ?_); intro _ _))
local macro_rules | `(tactic| walk_at "compareOp Lt bytes bytes") => `(tactic| (k_here; (refine lt_by2 (by assumption) ?_)))
local macro_rules | `(tactic| walk_at "compareOp Lt ref ref") => `(tactic| (k_here; (refine' lt_tup ?mu (tup_of ?ma ?mb) (tup_of ?mc ?md) ?_; (case mu => k_units); (case ma => k_asm); (case mb => k_mem); (case mc => k_asm); (case md => k_mem))))
local macro_rules | `(tactic| walk_at "execs cons If") => `(tactic| (k_here; refine Stop.intro ?_))
local macro_rules | `(tactic| walk_at "execs cons Assign cons") => `(tactic| (k_here; refine Stop.intro ?_))
set_option maxHeartbeats 4000000 in
theorem law_3b (w : World) {mean : ExcName → Option Value} {mg mb : Str → Option Value} {h₀ : Heap} {L fa : Addr} {cd : Value} {m : Str → Option Value} {s : Shared} {Q : Flow → Shared → Prop} {E : Value → Shared → Prop} {o : Obj} {l : Addr} {vs : List Value} {ns : List Int}
    (hpre : h₀.IsList l vs.toArray ∧ IntsAre vs ns ∧ ns.length ≤ 63) (hbits : ∀ n ∈ ns, Builtin.Int.intBits n ≤ 1048576) (ho : o.data = .cell (some (.ref l)))
    (B : Below callerA h₀ [] h₀) (X : (hd.heap_39 w.params).In h₀) (T : Top hd.view_39 (looseW hd.view_39 [Str.ofString "Sha256", Str.ofString "hashlib"]) mean mg mb h₀)
    (N : News h₀ L s.heap [(L + 1, o)]) (hE : PassesOwn (model PySem.Challenge.rw_ai0019_01.row.prog w) (lawA L fa cd) (lawEnv L fa cd) E)
    (ret : ∀ h' tk' m', Fr h₀ L h' m' → Q (.ret (.bool true)) { s with heap := h', toks := tk' })
    (one two : Array UInt8) (t1 t2 t3 t4 : Tok) (hone : one.size ≤ 24) (hs : one.size = two.size)
    (F : Fr h₀ L s.heap (fun y => if y = Str.ofString "one" then some (.bytes one t1) else if y = Str.ofString "two" then some (.bytes two t2) else if y = Str.ofString "a" then some (.str (strOf (encD one)) t3) else if y = Str.ofString "b" then some (.str (strOf (encD two)) t4) else m y)) :
    wpAny (model PySem.Challenge.rw_ai0019_01.row.prog w) (lawA L fa cd) (execs (lawBody.drop 8) (lawEnv L fa cd)) Q E s := by
  show wpAny _ _ (execs (_ :: _) _) _ _ _
  have he1 := digs_encD one
  have he2 := digs_encD two
  w_top off
  k_steps
  unfold Stop
  refine wpAny_execs_cons ?_
  k_steps
  unfold Stop
  refine wpAny_execs_cons ?_
  k_steps
  · exfalso
    rename (bne _ _ = true) => hz
    rw [bne_self_eq_false] at hz
    exact absurd hz (by decide)
  · unfold Stop
    (try dsimp only)
    rename Fr _ _ _ _ => F9
    exact law_3c w hpre hbits ho B X T (cb_drop (by assumption) (by intro p hp; repeat (first | exact hp | refine List.Mem.tail _ ?_))) hE (fun h' tk' m' F => ret h' tk' m' F) one _ _ _ hone rfl (by omega) (fr_with (x := Str.ofString "one") (fr_with (x := Str.ofString "left") F9 rfl) rfl)
end Mine
-- W3a
namespace Mine
local macro_rules | `(tactic| walk_at "zz0") => `(tactic| skip)
local macro_rules | `(tactic| walk_at "zz1") => `(tactic| skip)
local macro_rules | `(tactic| walk_at "zz2") => `(tactic| skip)
local macro_rules | `(tactic| walk_at "zz3") => `(tactic| skip)
local macro_rules | `(tactic| walk_at "zz4") => `(tactic| skip)
local macro_rules | `(tactic| walk_at "zz5") => `(tactic| skip)
local macro_rules | `(tactic| k_room) => `(tactic| ((try simp only [depth_under_make, depth_under_kw, depth_in1, depth_deeper, depth_caller]); (try dsimp only [ktrTop]); omega))
local macro_rules | `(tactic| ktr_room) => `(tactic| ((try simp only [depth_under_make, depth_under_kw, depth_in1, depth_deeper, depth_caller]); (try dsimp only [ktrTop]); omega))
local macro_rules | `(tactic| k_units) => `(tactic| ((try simp only [units_in1, units_deeper, Around.mark_units, units_caller]); (try dsimp only [ktrTop]); (have hcL9 := cLine_is); omega))
local macro_rules | `(tactic| walk_at "call ref") => `(tactic| (k_here; k_dflt (refine' Con.use (number_con _ _ _ _ _ _ ?ma ?mc) ?mB ?mF ?mX ?mN ?mT ?mk ?mp ?md ?mu ?_; (case mB => k_asm); (case mF => k_asm); (case mX => k_asm); (case mN => k_asm); (case mT => k_asm); (case mk => exact rfl); (case mp => assumption); (case md => decide); (case mu => exact Nat.le_of_ble_eq_true rfl); (case ma => decide); (case mc => decide)); intro r9 h9 tk9 R9 F9 N9; obtain ⟨t9, e9⟩ := R9; subst e9; (try dsimp only); (try k_fold)))
local macro_rules | `(tactic| walk_at "subscriptTail Name Name str int") => `(tactic| (k_here; (refine item_alpha (Int.fmod_nonneg_of_pos _ (by decide)) (Int.fmod_lt_of_pos _ (by decide)) ?_); intro _; (try dsimp only)))
theorem fig_byte (d : Nat) : bytOf [d] = #[d.toUInt8] := by
  rw [bytOf_eq]
  rfl
theorem ne_figB {prog : Program} {w : World} {A : Around} {E : Value → Shared → Prop} {s : Shared} {d : Nat} {t u : Tok} {Q : Value → Shared → Prop} (h : Q (.bool false) s) : wpAny (model prog w) A (compareOp .NotEq (.bytes (bytOf [d]) t) (.bytes #[d.toUInt8] u)) Q E s := ne_same (fig_byte d) h
theorem ne_fig {prog : Program} {w : World} {A : Around} {E : Value → Shared → Prop} {s : Shared} {d : Nat} {t u : Tok} {Q : Value → Shared → Prop} (hd : d < 58) (h : Q (.bool false) s) : wpAny (model prog w) A (compareOp .NotEq (.str (strOf (encD #[d.toUInt8])) t) (.str (digit d) u)) Q E s := by
  rw [← fig_byte, encD_fig hd, digit_eq]
  exact ne_str_same h
theorem one_byte (x : UInt8) : (#[x] : Array UInt8).size ≤ 100 := by
  rw [List.size_toArray]
  exact Nat.le_of_ble_eq_true rfl
local macro_rules | `(tactic| walk_at "call ref") => `(tactic| (k_here; k_dflt (refine' Con.use (encode_D _ _ _ ?mb) ?mB ?mF ?mX ?mN ?mT ?mk ?mp ?md ?mu ?_; (case mB => k_asm); (case mF => k_asm); (case mX => k_asm); (case mN => k_asm); (case mT => k_asm); (case mk => exact rfl); (case mp => trivial); (case md => decide); (case mu => exact Nat.le_of_ble_eq_true rfl); (case mb => first | exact one_byte _ | omega | (simp only [Array.size_append, chk_size]; omega))); intro r9 h9 tk9 R9 F9 N9; obtain ⟨t9, e9⟩ := R9; subst e9; (try dsimp only); (try k_fold)))
local macro_rules | `(tactic| walk_at "call ref") => `(tactic| (k_here; k_dflt (refine' Con.use (decode_fig _ _ _ ?mb) ?mB ?mF ?mX ?mN ?mT ?mk ?mp ?md ?mu ?_; (case mB => k_asm); (case mF => k_asm); (case mX => k_asm); (case mN => k_asm); (case mT => k_asm); (case mk => exact rfl); (case mp => trivial); (case md => decide); (case mu => exact Nat.le_of_ble_eq_true rfl); (case mb => first | omega | (skip))); intro r9 h9 tk9 R9 F9 N9; obtain ⟨t9, e9⟩ := R9; subst e9; (try dsimp only); (try k_fold)))
local macro_rules | `(tactic| walk_at "execs cons If") => `(tactic| (k_here; refine Stop.intro ?_))
local macro_rules | `(tactic| walk_at "execs cons Assign cons") => `(tactic| (k_here; refine Stop.intro ?_))
local macro_rules | `(tactic| walk_at "compareOp NotEq bytes bytes") => `(tactic| (k_here; (refine ne_figB ?_)))
local macro_rules | `(tactic| walk_at "compareOp NotEq str str") => `(tactic| (k_here; (refine ne_fig (by assumption) ?_)))
set_option maxHeartbeats 4000000 in
theorem law_3a (w : World) {mean : ExcName → Option Value} {mg mb : Str → Option Value} {h₀ : Heap} {L fa : Addr} {cd : Value} {m : Str → Option Value} {s : Shared} {Q : Flow → Shared → Prop} {E : Value → Shared → Prop} {o : Obj} {l : Addr} {vs : List Value} {ns : List Int}
    (hpre : h₀.IsList l vs.toArray ∧ IntsAre vs ns ∧ ns.length ≤ 63) (hbits : ∀ n ∈ ns, Builtin.Int.intBits n ≤ 1048576) (ho : o.data = .cell (some (.ref l)))
    (B : Below callerA h₀ [] h₀) (X : (hd.heap_39 w.params).In h₀) (T : Top hd.view_39 (looseW hd.view_39 [Str.ofString "Sha256", Str.ofString "hashlib"]) mean mg mb h₀)
    (N : News h₀ L s.heap [(L + 1, o)]) (hE : PassesOwn (model PySem.Challenge.rw_ai0019_01.row.prog w) (lawA L fa cd) (lawEnv L fa cd) E)
    (ret : ∀ h' tk' m', Fr h₀ L h' m' → Q (.ret (.bool true)) { s with heap := h', toks := tk' })
    (one two : Array UInt8) (t1 t2 t3 t4 : Tok) (hone : one.size ≤ 24) (hs : one.size = two.size)
    (F : Fr h₀ L s.heap (fun y => if y = Str.ofString "one" then some (.bytes one t1) else if y = Str.ofString "two" then some (.bytes two t2) else if y = Str.ofString "a" then some (.str (strOf (encD one)) t3) else if y = Str.ofString "b" then some (.str (strOf (encD two)) t4) else m y)) :
    wpAny (model PySem.Challenge.rw_ai0019_01.row.prog w) (lawA L fa cd) (execs (lawBody.drop 6) (lawEnv L fa cd)) Q E s := by
  show wpAny _ _ (execs (_ :: _) _) _ _ _
  have hfd : ((cell ns 39).fmod 58).toNat < 58 := by
    have hf0 := Int.fmod_nonneg_of_pos (cell ns 39) (b := 58) (by decide)
    have hf1 := Int.fmod_lt_of_pos (cell ns 39) (b := 58) (by decide)
    omega
  have hf0 := Int.fmod_nonneg_of_pos (cell ns 39) (b := 58) (by decide)
  have hf1 := Int.fmod_lt_of_pos (cell ns 39) (b := 58) (by decide)
  w_top off
  k_steps
  unfold Stop
  refine wpAny_execs_cons ?_
  k_steps
  unfold Stop
  refine wpAny_execs_cons ?_
  k_steps
  unfold Stop
  (try dsimp only)
  rename Fr _ _ _ _ => F9
  exact law_3b w hpre hbits ho B X T (cb_drop (by assumption) (by intro p hp; repeat (first | exact hp | refine List.Mem.tail _ ?_))) hE (fun h' tk' m' F => ret h' tk' m' F) one two _ _ _ _ hone hs (fr_with (x := Str.ofString "one") (fr_with (x := Str.ofString "two") (fr_with (x := Str.ofString "a") (fr_with (x := Str.ofString "b") F9 rfl) rfl) rfl) rfl)
end Mine
-- W2
namespace Mine
local macro_rules | `(tactic| walk_at "zz0") => `(tactic| skip)
local macro_rules | `(tactic| walk_at "zz1") => `(tactic| skip)
local macro_rules | `(tactic| walk_at "zz2") => `(tactic| skip)
local macro_rules | `(tactic| walk_at "zz3") => `(tactic| skip)
local macro_rules | `(tactic| walk_at "zz4") => `(tactic| skip)
local macro_rules | `(tactic| walk_at "zz5") => `(tactic| skip)
local macro_rules | `(tactic| walk_at "zz6") => `(tactic| skip)
local macro_rules | `(tactic| walk_at "zz7") => `(tactic| skip)
local macro_rules | `(tactic| walk_at "zz8") => `(tactic| skip)
local macro_rules | `(tactic| walk_at "zz9") => `(tactic| skip)
local macro_rules | `(tactic| walk_at "zz10") => `(tactic| skip)
local macro_rules | `(tactic| k_room) => `(tactic| ((try simp only [depth_under_make, depth_under_kw, depth_in1, depth_deeper, depth_caller]); (try dsimp only [ktrTop]); omega))
local macro_rules | `(tactic| ktr_room) => `(tactic| ((try simp only [depth_under_make, depth_under_kw, depth_in1, depth_deeper, depth_caller]); (try dsimp only [ktrTop]); omega))
local macro_rules | `(tactic| k_units) => `(tactic| ((try simp only [units_in1, units_deeper, Around.mark_units, units_caller]); (try dsimp only [ktrTop]); (have hcL9 := cLine_is); omega))
theorem zero_size {one : Array UInt8} (h : one.size ≤ 24) : ((#[0] : Array UInt8) ++ one).size ≤ 100 := by
  rw [Array.size_append]
  have : (#[0] : Array UInt8).size = 1 := rfl
  omega
theorem add_one {prog : Program} {w : World} {A : Around} {E : Value → Shared → Prop} {s : Shared} {b : Array UInt8} {t u : Tok} {Q : Value → Shared → Prop} (hb : b.size ≤ 100) (h : ∀ t' k, Q (.str (strOf (encD (#[0] ++ b))) t') { s with toks := k }) : wpAny (model prog w) A (binaryOp .Add (.str (PySem.Str.ofString "1") t) (.str (strOf (encD b)) u)) Q E s := by
  rw [encD_zero] at h
  rw [one_eq, digit_eq]
  have := encD_length b
  exact add_strOf (a := [0]) (by rw [List.length_singleton]; omega) h
local macro_rules | `(tactic| walk_at "call ref") => `(tactic| (k_here; k_dflt (refine' Con.use (encode_D _ _ _ ?mb) ?mB ?mF ?mX ?mN ?mT ?mk ?mp ?md ?mu ?_; (case mB => k_asm); (case mF => k_asm); (case mX => k_asm); (case mN => k_asm); (case mT => k_asm); (case mk => exact rfl); (case mp => trivial); (case md => decide); (case mu => exact Nat.le_of_ble_eq_true rfl); (case mb => first | omega | (exact zero_size (by assumption)))); intro r9 h9 tk9 R9 F9 N9; obtain ⟨t9, e9⟩ := R9; subst e9; (try dsimp only); (try k_fold)))
local macro_rules | `(tactic| walk_at "call ref") => `(tactic| (k_here; k_dflt (refine' Con.use (decode_D _ _ _ ?mb) ?mB ?mF ?mX ?mN ?mT ?mk ?mp ?md ?mu ?_; (case mB => k_asm); (case mF => k_asm); (case mX => k_asm); (case mN => k_asm); (case mT => k_asm); (case mk => exact rfl); (case mp => trivial); (case md => decide); (case mu => exact Nat.le_of_ble_eq_true rfl); (case mb => first | omega | (skip))); intro r9 h9 tk9 R9 F9 N9; obtain ⟨t9, e9⟩ := R9; subst e9; (try dsimp only); (try k_fold)))
local macro_rules | `(tactic| walk_at "binaryOp Add str str") => `(tactic| (k_here; (refine add_one (by omega) ?_); intro _ _))
local macro_rules | `(tactic| walk_at "binaryOp Add bytes bytes") => `(tactic| (k_here; (refine KBy.add_bytes ?mz ?_; (case mz => (rw [show (#[0] : Array UInt8).size = 1 from rfl]; omega))); intro _ _))
local macro_rules | `(tactic| walk_at "compareOp NotEq bytes bytes") => `(tactic| (k_here; (refine ne_same rfl ?_)))
local macro_rules | `(tactic| walk_at "compareOp NotEq str str") => `(tactic| (k_here; (refine ne_str_same ?_)))
local macro_rules | `(tactic| walk_at "execs cons If") => `(tactic| (k_here; refine Stop.intro ?_))
local macro_rules | `(tactic| walk_at "execs cons Assign cons") => `(tactic| (k_here; refine Stop.intro ?_))
set_option maxHeartbeats 4000000 in
theorem law_2 (w : World) {mean : ExcName → Option Value} {mg mb : Str → Option Value} {h₀ : Heap} {L fa : Addr} {cd : Value} {m : Str → Option Value} {s : Shared} {Q : Flow → Shared → Prop} {E : Value → Shared → Prop} {o : Obj} {l : Addr} {vs : List Value} {ns : List Int}
    (hpre : h₀.IsList l vs.toArray ∧ IntsAre vs ns ∧ ns.length ≤ 63) (hbits : ∀ n ∈ ns, Builtin.Int.intBits n ≤ 1048576) (ho : o.data = .cell (some (.ref l)))
    (B : Below callerA h₀ [] h₀) (X : (hd.heap_39 w.params).In h₀) (T : Top hd.view_39 (looseW hd.view_39 [Str.ofString "Sha256", Str.ofString "hashlib"]) mean mg mb h₀)
    (N : News h₀ L s.heap [(L + 1, o)]) (hE : PassesOwn (model PySem.Challenge.rw_ai0019_01.row.prog w) (lawA L fa cd) (lawEnv L fa cd) E)
    (ret : ∀ h' tk' m', Fr h₀ L h' m' → Q (.ret (.bool true)) { s with heap := h', toks := tk' })
    (one two : Array UInt8) (t1 t2 : Tok) (hone : one.size ≤ 24) (hs : one.size = two.size)
    (F : Fr h₀ L s.heap (fun y => if y = Str.ofString "one" then some (.bytes one t1) else if y = Str.ofString "two" then some (.bytes two t2) else m y)) :
    wpAny (model PySem.Challenge.rw_ai0019_01.row.prog w) (lawA L fa cd) (execs (lawBody.drop 4) (lawEnv L fa cd)) Q E s := by
  show wpAny _ _ (execs (_ :: _) _) _ _ _
  w_top off
  k_steps
  unfold Stop
  refine wpAny_execs_cons ?_
  k_steps
  unfold Stop
  refine wpAny_execs_cons ?_
  k_steps
  unfold Stop
  (try dsimp only)
  rename Fr _ _ _ _ => F9
  exact law_3a w hpre hbits ho B X T (cb_drop (by assumption) (by intro p hp; repeat (first | exact hp | refine List.Mem.tail _ ?_))) hE (fun h' tk' m' F => ret h' tk' m' F) one two _ _ _ _ hone hs (fr_with (x := Str.ofString "one") (fr_with (x := Str.ofString "two") (fr_with (x := Str.ofString "a") (fr_with (x := Str.ofString "b") F9 rfl) rfl) rfl) rfl)
end Mine
-- W1
namespace Mine
local macro_rules | `(tactic| walk_at "zz0") => `(tactic| skip)
local macro_rules | `(tactic| walk_at "zz1") => `(tactic| skip)
local macro_rules | `(tactic| walk_at "zz2") => `(tactic| skip)
local macro_rules | `(tactic| walk_at "zz3") => `(tactic| skip)
local macro_rules | `(tactic| walk_at "zz4") => `(tactic| skip)
local macro_rules | `(tactic| walk_at "zz5") => `(tactic| skip)
local macro_rules | `(tactic| walk_at "zz6") => `(tactic| skip)
local macro_rules | `(tactic| walk_at "zz7") => `(tactic| skip)
local macro_rules | `(tactic| walk_at "zz8") => `(tactic| skip)
local macro_rules | `(tactic| k_room) => `(tactic| ((try simp only [depth_under_make, depth_under_kw, depth_in1, depth_deeper, depth_caller]); (try dsimp only [ktrTop]); omega))
local macro_rules | `(tactic| ktr_room) => `(tactic| ((try simp only [depth_under_make, depth_under_kw, depth_in1, depth_deeper, depth_caller]); (try dsimp only [ktrTop]); omega))
local macro_rules | `(tactic| k_units) => `(tactic| ((try simp only [units_in1, units_deeper, Around.mark_units, units_caller]); (try dsimp only [ktrTop]); (have hcL9 := cLine_is); omega))
theorem bytes_make {prog : Program} {w : World} {A : Around} {E : Value → Shared → Prop} {s : Shared} {n : Int} {t : Tok} {Q : Value → Shared → Prop} (h0 : 0 ≤ n) (h1 : n < 4)
    (h : ∀ (b : Array UInt8) t' k, b.size ≤ 3 → Q (.bytes b t') { s with toks := k }) : wpAny (model prog w) A (call (.type "bytes") [.int n t]) Q E s :=
  call_bytes_int h0 (by omega) fun t' k => h _ t' k (by rw [Array.size_replicate]; omega)
section
variable {prog : Program} {w : World} {A : Around} {E : Value → Shared → Prop} {s : Shared} {value slice : PySem.Expr} {b : Array UInt8} {t u : Tok} {h₀ : Heap} {L : Addr} {m : PySem.Str → Option Value} {news : List (Addr × Obj)} {k : Int} {Q : Value → Shared → Prop}
theorem slice_head (hF : Fr h₀ L s.heap m) (hN : News h₀ L s.heap news) (h0 : 0 ≤ k) (hz : b.size ≤ 100000)
    (h : ∀ (c : Array UInt8) h' t' k', Fr h₀ L h' m → News h₀ L h' news → c.size = min k.toNat b.size → Q (.bytes c t') { s with heap := h', toks := k' })
    (hs : subscripted slice false (.bytes b t) (.ref s.heap.objs.size) = operate [.ref s.heap.objs.size, .bytes b t] (getItem (.bytes b t) (.ref s.heap.objs.size)) := by with_unfolding_all rfl)
    (ht : ∀ r, letTemporaryGo value (.bytes b t) r = pure () := by intro _; with_unfolding_all rfl) :
    wpAny (model prog w) A (subscriptTail value slice (.bytes b t) (.ref s.heap.objs.size)) Q E { s with heap := s.heap.push { cls := .type "slice", data := .fields #[.none, .int k u, .none] } } :=
  slice_P hF hN (by constructor) (by constructor) hz (fun h' t' k' a c => h _ h' t' k' a c (head_size b k h0)) hs ht
end
theorem row_any (w : World) (x k : Int) (t u : Tok) (hx : Builtin.Int.intBits x ≤ 1048577) (hk0 : 0 ≤ k) (hk24 : k ≤ 24) :
    Con w 131 [.int x t, .int k u] 10 100 (fun _ => True) (fun r => ∃ (b : Array UInt8) (t' : Tok), b.size = k.toNat ∧ r = .bytes b t') :=
  con_mono (row_con w x k t u hx hk0 hk24) fun r ⟨t', e⟩ => ⟨_, t', rowB_size x k, e⟩
local macro_rules | `(tactic| walk_at "call ref") => `(tactic| (k_here; k_dflt (refine' Con.use (row_any _ _ _ _ _ ?ma ?mc ?mg) ?mB ?mF ?mX ?mN ?mT ?mk ?mp ?md ?mu ?_; (case mB => k_asm); (case mF => k_asm); (case mX => k_asm); (case mN => k_asm); (case mT => k_asm); (case mk => exact rfl); (case mp => trivial); (case md => decide); (case mu => exact Nat.le_of_ble_eq_true rfl); (case ma => exact cell_bits (by assumption) (by decide) (by decide)); (case mc => omega); (case mg => omega)); intro r9 h9 tk9 R9 F9 N9; obtain ⟨b9, t9, z9, e9⟩ := R9; subst e9; (try dsimp only); (try k_fold)))
local macro_rules | `(tactic| walk_at "call ref") => `(tactic| (k_here; k_dflt (refine' Con.use (number_con _ _ _ _ _ _ ?ma ?mc) ?mB ?mF ?mX ?mN ?mT ?mk ?mp ?md ?mu ?_; (case mB => k_asm); (case mF => k_asm); (case mX => k_asm); (case mN => k_asm); (case mT => k_asm); (case mk => exact rfl); (case mp => assumption); (case md => decide); (case mu => exact Nat.le_of_ble_eq_true rfl); (case ma => decide); (case mc => decide)); intro r9 h9 tk9 R9 F9 N9; obtain ⟨t9, e9⟩ := R9; subst e9; (try dsimp only); (try k_fold)))
local macro_rules | `(tactic| walk_at "call type:bytes") => `(tactic| (k_here; (refine bytes_make ?mc ?md ?_; (case mc => exact Int.fmod_nonneg_of_pos _ (by decide)); (case md => exact Int.fmod_lt_of_pos _ (by decide))); intro _ _ _ _))
local macro_rules | `(tactic| walk_at "call builtin:len") => `(tactic| (k_here; (with_reducible show wpAny _ _ (call _ [Value.bytes _ _]) _ _ _); (refine len_by (by omega) ?_); intro _ _))
local macro_rules | `(tactic| walk_at "subscriptTail Name Slice bytes ref") => `(tactic| (k_here; (refine' slice_head (s := ⟨_, _, _, _, _⟩) ?mF ?mN ?ml ?mz ?_; (case mF => k_asm); (case mN => k_asm); (case ml => omega); (case mz => first | omega | (rw [Array.size_append]; omega))); intro _ _ _ _ _ _ _))
local macro_rules | `(tactic| walk_at "subscriptTail _ Slice bytes ref") => `(tactic| (k_here; (refine' slice_head (s := ⟨_, _, _, _, _⟩) ?mF ?mN ?ml ?mz ?_; (case mF => k_asm); (case mN => k_asm); (case ml => omega); (case mz => first | omega | (rw [Array.size_append]; omega))); intro _ _ _ _ _ _ _))
local macro_rules | `(tactic| walk_at "subscriptTail Call Slice bytes ref") => `(tactic| (k_here; (refine' slice_head (s := ⟨_, _, _, _, _⟩) ?mF ?mN ?ml ?mz ?_; (case mF => k_asm); (case mN => k_asm); (case ml => omega); (case mz => first | omega | (rw [Array.size_append]; omega))); intro _ _ _ _ _ _ _))
local macro_rules | `(tactic| walk_at "subscriptTail Name Slice bytes ref") => `(tactic| (k_here; (refine' slice_head (s := ⟨_, _, _, _, _⟩) ?mF ?mN ?ml ?mz ?_; (case mF => k_asm); (case mN => k_asm); (case ml => omega); (case mz => first | omega | (rw [Array.size_append]; omega))); intro _ _ _ _ _ _ _))
local macro_rules | `(tactic| walk_at "binaryOp Add bytes bytes") => `(tactic| (k_here; (refine KBy.add_bytes ?mz ?_; (case mz => omega)); intro _ _))
local macro_rules | `(tactic| walk_at "execs cons If") => `(tactic| (k_here; refine Stop.intro ?_))
local macro_rules | `(tactic| walk_at "execs cons Assign cons") => `(tactic| (k_here; refine Stop.intro ?_))
set_option maxHeartbeats 4000000 in
theorem law_1 (w : World) {mean : ExcName → Option Value} {mg mb : Str → Option Value} {h₀ : Heap} {L fa : Addr} {cd : Value} {m : Str → Option Value} {s : Shared} {Q : Flow → Shared → Prop} {E : Value → Shared → Prop} {o : Obj} {l : Addr} {vs : List Value} {ns : List Int}
    (hpre : h₀.IsList l vs.toArray ∧ IntsAre vs ns ∧ ns.length ≤ 63) (hbits : ∀ n ∈ ns, Builtin.Int.intBits n ≤ 1048576) (ho : o.data = .cell (some (.ref l)))
    (B : Below callerA h₀ [] h₀) (X : (hd.heap_39 w.params).In h₀) (T : Top hd.view_39 (looseW hd.view_39 [Str.ofString "Sha256", Str.ofString "hashlib"]) mean mg mb h₀)
    (N : News h₀ L s.heap [(L + 1, o)]) (hE : PassesOwn (model PySem.Challenge.rw_ai0019_01.row.prog w) (lawA L fa cd) (lawEnv L fa cd) E)
    (ret : ∀ h' tk' m', Fr h₀ L h' m' → Q (.ret (.bool true)) { s with heap := h', toks := tk' })
    
    (F : Fr h₀ L s.heap (fun y => m y)) :
    wpAny (model PySem.Challenge.rw_ai0019_01.row.prog w) (lawA L fa cd) (execs (lawBody.drop 0) (lawEnv L fa cd)) Q E s := by
  show wpAny _ _ (execs (_ :: _) _) _ _ _
  have hs0 := Int.fmod_nonneg_of_pos (cell ns 0) (b := 25) (by decide)
  have hs1 := Int.fmod_lt_of_pos (cell ns 0) (b := 25) (by decide)
  have hq : Int.fdiv ((cell ns 0).fmod 25) 2 = ((cell ns 0).fmod 25) / 2 := Int.fdiv_eq_ediv_of_nonneg _ (by decide)
  w_top off
  k_steps
  unfold Stop
  refine wpAny_execs_cons ?_
  k_steps
  unfold Stop
  refine wpAny_execs_cons ?_
  k_steps
  unfold Stop
  refine wpAny_execs_cons ?_
  k_steps
  unfold Stop
  refine wpAny_execs_cons ?_
  k_steps
  all_goals
    unfold Stop
    (try dsimp only)
    rename Fr _ _ _ _ => F9
    refine law_2 w hpre hbits ho B X T (cb_drop (by assumption) (by intro p hp; repeat (first | exact hp | refine List.Mem.tail _ ?_))) hE (fun h' tk' m' F => ret h' tk' m' F) _ _ _ _ ?z1 ?z2 (fr_with (x := Str.ofString "one") (fr_with (x := Str.ofString "two") F9 rfl) rfl)
    case z1 =>
      rw [Array.size_append]
      omega
    case z2 =>
      first
        | (rename (_ = min _ (Array.size (_ ++ _))) => hz9; rw [Array.size_append] at hz9; simp only [Array.size_append]; omega)
        | (simp only [Array.size_append]; omega)
end Mine
-- W9
namespace Mine
end Mine
set_option maxHeartbeats 8000000 in
theorem PySem.Challenge.cw_ai0019_01_holds : PySem.Challenge.rw_ai0019_01.Holds := by
  w_top off
  refine Mine.hd ?_
  k_go0
  rename Fr _ _ _ _ => F9
  rename Top _ _ _ _ _ _ => T9
  rename Below _ _ _ _ => B9
  rename News _ _ _ _ => N9
  rename (PyData.layable0 _ = true) => y9
  refine Mine.law_1 _ ⟨by assumption, by assumption, ?_⟩ ?_ ?_ B9 (by assumption) T9 N9 ?_ ?_ F9
  · omega
  · intro n hn
    exact PyData.bits_item_of_ints y9 hn
  · with_unfolding_all assumption
  · exact PySem.PassesOwn.leaving
  · intro h' tk' m' F'
    kc_close
