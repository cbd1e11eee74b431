/- Scalars as values, and the decoding of bytes as a function. -/
import Derived.Test.YtfebpbflpdppiaaDoorD3b
namespace Go.Proofs.YtfebpbflpdppiaaDoor
open Go Go.Sl
set_option maxRecDepth 100000
attribute [local irreducible] wpList Code.wp Exit.then Exit.inBlock bodyPost RunS RunV G St Ct Sat Ent At Rd GQ QL wpAny wpOp wpQuiet slP Sl.ex sep
inductive Sc
  | nil | bool (b : Bool) | i64 (n : Int) | u64 (n : Nat) | f64 (u : Nat) | c128 (u v : Nat) | bytes (s : List UInt8) | str (s : List UInt8)
/-- a value of the interface type that is a scalar -/
def anyP : Value × Sc → HP
  | (v, .nil) => fun _ => v = .nilIface
  | (v, .bool b) => fun _ => v = .iface 4 (.bool b)
  | (v, .i64 n) => fun _ => v = .iface 2 (.int .i64 n)
  | (v, .u64 n) => fun _ => v = .iface 34 (.int .u64 n)
  | (v, .f64 u) => fun _ => v = .iface 57 (.float .f64 u)
  | (v, .c128 u w) => fun _ => v = .iface 59 (.complex .f64 u w)
  | (v, .bytes s) => fun h => (s = [] ∧ v = .iface 22 (.slice none 0 0)) ∨ ∃ b c, v = .iface 22 (.slice (some ⟨b, 0, none⟩) s.length c) ∧ s.length ≤ c ∧ c ≤ maxLen ∧ ro b 5 (u8s s) h
  | (v, .str s) => fun _ => v = .iface 9 (.string ⟨s.toArray⟩)
def anys (l : List (Value × Sc)) : HP := sep (l.map anyP)
theorem anys_nil {L : List HP} : Ent L (anys [] :: L) := sep_shut [] L
theorem anys_snoc (p : Value × Sc) (l : List (Value × Sc)) (L : List HP) : Ent (anyP p :: anys l :: L) (anys (l ++ [p]) :: L) := by
  refine (Ent.cons (sep_open _ _)).trans (Ent.trans (Ent.perm ?_) (sep_shut ((l ++ [p]).map anyP) L))
  rw [List.map_append, List.append_assoc]
  exact List.perm_middle.symm
/-- what is behind one tag -/
inductive DR
  | ok (s : Sc) (r : List UInt8) | bad | boom
def at1 (l : List UInt8) (i : Nat) : Nat := (l.getD i 0).toNat
theorem at1_lt (l : List UInt8) (i : Nat) : at1 l i < 256 := (l.getD i 0).toNat_lt
def taken (mk : List UInt8 → Sc) (l : List UInt8) (n : Nat) : DR := if l.length < n then .bad else .ok (mk (l.take n)) (l.drop n)
def beu (u : Nat) (l : List UInt8) : Nat := l.foldl (fun u v => u * 256 % 18446744073709551616 + v.toNat) u
def bei (u : Int) (l : List UInt8) : Int := l.foldl (fun u v => IntKind.i64.wrap (u * 256 + v.toNat)) u
def flt (l : List UInt8) (n : Nat) : Nat := fs ((l.drop 1).take (n - 1)) (n - 1)
def dec1 (l : List UInt8) : DR :=
  let t := at1 l 0
  if t = 0 then .ok .nil (l.drop 1)
  else if t = 1 then .ok (.bool false) (l.drop 1)
  else if t = 2 then .ok (.bool true) (l.drop 1)
  else if t = 3 then .ok (.f64 0) (l.drop 1)
  else if t ≤ 11 then
    if l.length < t - 3 then .bad else if l.length < t - 2 then .boom else .ok (.f64 (flt l (t - 2))) (l.drop (t - 2))
  else if t ≤ 20 then
    if l.length < t - 12 then .bad else if l.length < t - 11 then .boom else
      let r := l.drop (t - 11)
      if r.length = 0 then .bad else
      let t2 := at1 r 0
      if t2 < 12 ∨ 20 < t2 then .bad else
      if r.length < t2 - 12 then .bad else if r.length < t2 - 11 then .boom else .ok (.c128 (flt l (t - 11)) (flt r (t2 - 11))) (r.drop (t2 - 11))
  else if t ≤ 38 then taken .bytes (l.drop 1) (t - 21)
  else if t = 39 then if l.length < 2 then .bad else taken .bytes (l.drop 2) (at1 l 1)
  else if t = 40 then if l.length < 3 then .bad else taken .bytes (l.drop 3) (at1 l 1 * 256 + at1 l 2 + 1)
  else if t ≤ 58 then taken .str (l.drop 1) (t - 41)
  else if t = 59 then if l.length < 2 then .bad else taken .str (l.drop 2) (at1 l 1)
  else if t = 60 then if l.length < 3 then .bad else taken .str (l.drop 3) (at1 l 1 * 256 + at1 l 2)
  else if t ≤ 68 then taken (fun s => .u64 (beu 0 s)) (l.drop 1) (t - 60)
  else if t ≤ 76 then taken (fun s => .i64 (IntKind.i64.wrap (beu 18446744073709551615 s))) (l.drop 1) (77 - t)
  else if t ≤ 84 then taken (fun s => .i64 (bei 0 s)) (l.drop 1) (t - 76)
  else .ok (.i64 ((t : Int) - 85)) (l.drop 1)
inductive DL
  | ok (l : List Sc) | bad | boom
def DL.pre (l : List Sc) : DL → DL
  | .ok r => .ok (l ++ r)
  | .bad => .bad
  | .boom => .boom
def decN : Nat → List UInt8 → DL
  | 0, _ => .ok []
  | f + 1, l => if l = [] then .ok [] else match dec1 l with
    | .ok s r => (decN f r).pre [s]
    | .bad => .bad
    | .boom => .boom
theorem DL.pre_pre (a b : List Sc) (d : DL) : (d.pre b).pre a = d.pre (a ++ b) := by cases d <;> simp [DL.pre]
theorem decN_nil (f : Nat) : decN f [] = .ok [] := by cases f <;> simp [decN]
/-- where the loop over bytes is -/
structure DSt where
  off : Nat
  len : Nat
  cap : Nat
  ia : Option Addr
  oa : Option Addr
  oc : Nat
  acc : List (Value × Sc)
  f : Nat
def DSt.env (bs ext : List UInt8) (ib : Nat) (x : DSt) : Env := [(0, .slice x.ia x.len x.cap), (2, .slice x.oa x.acc.length x.oc), (4, .slice (some ⟨ib, 0, none⟩) bs.length ext.length)]
def DSt.hp (ext : List UInt8) (ib : Nat) (F : List HP) (x : DSt) : List HP := blk ib (cl (u8s ext) 5) :: slP (.slice x.oa x.acc.length x.oc) 20 1 (x.acc.map Prod.fst) :: anys x.acc :: F
def DSt.inv (bs ext : List UInt8) (ib : Nat) (x : DSt) : Prop :=
  x.off + x.len = bs.length ∧ x.off + x.cap = ext.length ∧ (0 < x.len → x.ia = some ⟨ib, x.off, none⟩) ∧ decN bs.length bs = (decN x.f (bs.drop x.off)).pre (x.acc.map Prod.snd) ∧ x.len ≤ x.f ∧ x.acc.length ≤ x.off ∧ (∀ p ∈ x.acc, p.1.oneCell' = true)
theorem inv_next {bs ext : List UInt8} {ib : Nat} {x : DSt} (h : x.inv bs ext ib) (hl : 0 < x.len) {s : Sc} {n : Nat} (hd : dec1 (bs.drop x.off) = .ok s ((bs.drop x.off).drop n)) (hn : 0 < n) (hle : n ≤ x.len) (v : Value) (hv : v.oneCell' = true) (oa : Option Addr) (oc len cap : Nat) (ia : Option Addr)
    (h1 : len + n = x.len) (h2 : cap + n = x.cap) (h3 : 0 < len → ia = some ⟨ib, x.off + n, none⟩) :
    DSt.inv bs ext ib ⟨x.off + n, len, cap, ia, oa, oc, x.acc ++ [(v, s)], x.f - 1⟩ ∧ len < x.len := by
  obtain ⟨a1, a2, a3, a4, a5, a6, a7⟩ := h
  refine ⟨⟨by dsimp only; omega, by dsimp only; omega, h3, ?_, by dsimp only; omega, by dsimp only; simp; omega, ?_⟩, by omega⟩
  rotate_left
  · intro p hp
    simp only [List.mem_append, List.mem_singleton] at hp
    rcases hp with hp | rfl
    · exact a7 p hp
    · exact hv
  rw [List.drop_drop] at hd
  dsimp only
  rw [a4]
  obtain ⟨f, hf⟩ : ∃ f, x.f = f + 1 := ⟨x.f - 1, by omega⟩
  rw [hf]
  have hne : bs.drop x.off ≠ [] := by intro e; have := congrArg List.length e; simp at this; omega
  simp only [decN, if_neg hne, hd, Nat.add_sub_cancel]
  rw [DL.pre_pre, List.map_append]
  rfl
theorem inv_bad {bs ext : List UInt8} {ib : Nat} {x : DSt} (h : x.inv bs ext ib) (hl : 0 < x.len) (hd : dec1 (bs.drop x.off) = .bad) : decN bs.length bs = .bad := by
  obtain ⟨a1, a2, a3, a4, a5, a6, a7⟩ := h
  obtain ⟨f, hf⟩ : ∃ f, x.f = f + 1 := ⟨x.f - 1, by omega⟩
  have hne : bs.drop x.off ≠ [] := by intro e; have := congrArg List.length e; simp at this; omega
  rw [a4, hf]
  simp only [decN, if_neg hne, hd, DL.pre]
theorem inv_boom {bs ext : List UInt8} {ib : Nat} {x : DSt} (h : x.inv bs ext ib) (hl : 0 < x.len) (hd : dec1 (bs.drop x.off) = .boom) : decN bs.length bs = .boom := by
  obtain ⟨a1, a2, a3, a4, a5, a6, a7⟩ := h
  obtain ⟨f, hf⟩ : ∃ f, x.f = f + 1 := ⟨x.f - 1, by omega⟩
  have hne : bs.drop x.off ≠ [] := by intro e; have := congrArg List.length e; simp at this; omega
  rw [a4, hf]
  simp only [decN, if_neg hne, hd, DL.pre]
theorem inv_end {bs ext : List UInt8} {ib : Nat} {x : DSt} (h : x.inv bs ext ib) (hl : x.len = 0) : decN bs.length bs = .ok (x.acc.map Prod.snd) := by
  obtain ⟨a1, a2, a3, a4, a5, a6, a7⟩ := h
  have he : bs.drop x.off = [] := List.drop_eq_nil_of_le (by omega)
  rw [a4, he, decN_nil]
  simp [DL.pre]
/-- a byte of what is left -/
theorem ext_get {bs ext : List UInt8} (he : ext.take bs.length = bs) {off i : Nat} (h : off + i < bs.length) : (u8s ext)[off + i]? = some (Value.int IntKind.u8 (at1 (bs.drop off) i : Nat)) := by
  have h1 : off + i < ext.length := by have := congrArg List.length he; simp at this; omega
  have h2 : ext[off + i] = bs[off + i] := by
    have : (ext.take bs.length)[off + i]? = bs[off + i]? := by rw [he]
    rw [List.getElem?_take, if_pos h] at this
    simpa [h1, h] using this
  simp [u8s, at1, h1, h2, h]
theorem ext_part {bs ext : List UInt8} (he : ext.take bs.length = bs) {o n : Nat} (h : o + n ≤ bs.length) : ((u8s ext).drop o).take n = u8s ((bs.drop o).take n) := by
  have : (bs.drop o).take n = (ext.drop o).take n := by
    conv => lhs; rw [← he]
    rw [List.drop_take, List.take_take, Nat.min_eq_left (by omega)]
  rw [this]
  simp [u8s, List.map_drop, List.map_take]
theorem hp_next {p : Value × Sc} (hp : anyP p fun _ => none) (a : Option Addr) (c : Nat) (acc : List (Value × Sc)) (T : HP) (ib : Nat) (ext : List UInt8) (F : List HP) (o l cp f : Nat) (ia : Option Addr) :
    Ent (slP (.slice a (acc.length + 1) c) 20 1 (acc.map Prod.fst ++ [p.1]) :: T :: blk ib (cl (u8s ext) 5) :: anys acc :: F) (DSt.hp ext ib F ⟨o, l, cp, ia, a, c, acc ++ [p], f⟩) := by
  unfold DSt.hp
  simp only [List.length_append, List.map_append, List.length_singleton, List.map_cons, List.map_nil]
  exact (arr_ent 1 [2, 0] _).trans (Ent.cons (Ent.cons ((pure_in hp).trans (anys_snoc p acc F))))
theorem hp_nextB (nb c' : Nat) (s : List UInt8) (h1 : s.length ≤ c') (h2 : c' ≤ maxLen) (a : Option Addr) (c : Nat) (acc : List (Value × Sc)) (T : HP) (ib : Nat) (ext : List UInt8) (F : List HP) (o l cp f : Nat) (ia : Option Addr) :
    Ent (slP (.slice a (acc.length + 1) c) 20 1 (acc.map Prod.fst ++ [.iface 22 (.slice (some ⟨nb, 0, none⟩) s.length c')]) :: T :: blk nb (cl (u8s s ++ List.replicate (c' - s.length) (.int .u8 0)) 5) :: blk ib (cl (u8s ext) 5) :: anys acc :: F)
      (DSt.hp ext ib F ⟨o, l, cp, ia, a, c, acc ++ [(.iface 22 (.slice (some ⟨nb, 0, none⟩) s.length c'), .bytes s)], f⟩) := by
  unfold DSt.hp
  simp only [List.length_append, List.map_append, List.length_singleton, List.map_cons, List.map_nil]
  refine (arr_ent 1 [3, 0, 1] _).trans (Ent.cons (Ent.cons (Ent.trans (Ent.imp fun h hh => ?_) (anys_snoc _ acc F))))
  exact .inr ⟨nb, c', rfl, h1, h2, _, _, hh, by simp [List.take_append]⟩
theorem hp_nextE (a : Option Addr) (c : Nat) (acc : List (Value × Sc)) (T : HP) (ib : Nat) (ext : List UInt8) (F : List HP) (o l cp f : Nat) (ia : Option Addr) :
    Ent (slP (.slice a (acc.length + 1) c) 20 1 (acc.map Prod.fst ++ [.iface 22 (.slice none 0 0)]) :: T :: blk ib (cl (u8s ext) 5) :: anys acc :: F) (DSt.hp ext ib F ⟨o, l, cp, ia, a, c, acc ++ [(.iface 22 (.slice none 0 0), .bytes [])], f⟩) :=
  hp_next (p := (.iface 22 (.slice none 0 0), .bytes [])) (.inl ⟨rfl, rfl⟩) a c acc T ib ext F o l cp f ia
theorem adv_at {cap : Nat} {lo : Int} {b o n : Nat} (h : lo.toNat = n) (hn : cap ≠ n) : (if cap = lo.toNat then some (⟨b, o, none⟩ : Addr) else (some (⟨b, o, none⟩ : Addr)).map (·.add (lo.toNat * 1))) = some ⟨b, o + n, none⟩ := by
  rw [h, if_neg hn, Option.map_some, addr_add, Nat.mul_one]
theorem adv2 {cap b o o2 n k : Nat} {lo hi : Int} (h1 : lo.toNat = n) (hn : cap ≠ n) (h2 : hi.toNat = k) (hk : cap - n ≠ k) (e : o2 = o + n + k) :
    (if cap - lo.toNat = hi.toNat then (if cap = lo.toNat then some (⟨b, o, none⟩ : Addr) else (some (⟨b, o, none⟩ : Addr)).map (·.add (lo.toNat * 1)))
      else (if cap = lo.toNat then some (⟨b, o, none⟩ : Addr) else (some (⟨b, o, none⟩ : Addr)).map (·.add (lo.toNat * 1))).map (·.add (hi.toNat * 1))) = some ⟨b, o2, none⟩ := by
  rw [adv_at h1 hn, h1, adv_at h2 hk, e]
theorem adv1 {cap b o o2 k : Nat} {hi : Int} (h2 : hi.toNat = k) (hk : cap ≠ k) (e : o2 = o + k) :
    (if cap = hi.toNat then some (⟨b, o, none⟩ : Addr) else (some (⟨b, o, none⟩ : Addr)).map (·.add (hi.toNat * 1))) = some ⟨b, o2, none⟩ := by
  rw [adv_at h2 hk, e]
theorem ext_src {L : List HP} {bs ext : List UInt8} {ib : Nat} (hr : RdN L ib 0 (u8s ext)) (o n c : Nat) (h : o + n ≤ ext.length) : Src L 1 (.slice (some ⟨ib, o, none⟩) n c) n (u8s ((ext.drop o).take n)) := by
  refine .some ib o n c _ (by simp [u8s]; omega) ?_
  have := hr.part o n
  simpa [u8s, List.map_drop, List.map_take] using this
theorem rdn_part0 {L : List HP} {bs ext : List UInt8} {ib : Nat} (hr : RdN L ib 0 (u8s ext)) (he : ext.take bs.length = bs) : RdN L ib 0 (u8s bs) := by
  have := hr.part 0 bs.length
  rw [List.drop_zero, show (u8s ext).take bs.length = u8s bs from by conv => rhs; rw [← he]
                                                                     simp [u8s, List.map_take]] at this
  exact this
theorem DL.pre_nil (d : DL) : d.pre [] = d := by cases d <;> rfl
theorem ext_list {bs ext : List UInt8} (he : ext.take bs.length = bs) {off n k : Nat} (h : off + k + n ≤ bs.length) : (ext.drop (off + k)).take n = ((bs.drop off).drop k).take n := by
  rw [List.drop_drop]
  conv => rhs; rw [← he]
  rw [List.drop_take, List.take_take, Nat.min_eq_left (by omega)]
theorem taken_ok (mk : List UInt8 → Sc) (l : List UInt8) (k n : Nat) (h : n + k ≤ l.length) : taken mk (l.drop k) n = .ok (mk ((l.drop k).take n)) (l.drop (n + k)) := by
  unfold taken
  rw [if_neg (by rw [List.length_drop]; omega), List.drop_drop, Nat.add_comm]
theorem taken_bad (mk : List UInt8 → Sc) (l : List UInt8) (k n : Nat) (hk : k ≤ l.length) (h : l.length < n + k) : taken mk (l.drop k) n = .bad := by
  unfold taken
  rw [if_pos (by rw [List.length_drop]; omega)]
theorem take_at1 {s : List UInt8} {i : Nat} (h : i < s.length) : s.take (i + 1) = s.take i ++ [s.getD i 0] := by
  rw [List.take_add_one, List.getElem?_eq_getElem h]
  simp [h]
theorem beu_succ (u : Nat) {s : List UInt8} {i : Nat} (h : i < s.length) : beu u (s.take (i + 1)) = beu u (s.take i) * 256 % 18446744073709551616 + at1 s i := by
  rw [take_at1 h]; simp [beu, at1]
theorem bei_succ (u : Int) {s : List UInt8} {i : Nat} (h : i < s.length) : bei u (s.take (i + 1)) = IntKind.i64.wrap (bei u (s.take i) * 256 + (at1 s i : Nat)) := by
  rw [take_at1 h]; simp [bei, at1]
theorem src_if {L : List HP} {ext : List UInt8} {ib : Nat} (hr : RdN L ib 0 (u8s ext)) (o k n cap c : Nat) (lo : Int) (hlo : lo.toNat = k) (hc : cap ≠ k ∨ n = 0) (h : o + k + n ≤ ext.length) :
    Src L 1 (.slice (if cap = lo.toNat then some (⟨ib, o, none⟩ : Addr) else (some (⟨ib, o, none⟩ : Addr)).map (·.add (lo.toNat * 1))) n c) n (u8s ((ext.drop (o + k)).take n)) := by
  by_cases hk : cap = k
  · have hn : n = 0 := by omega
    subst hn
    rw [hlo, if_pos hk]
    exact .some ib o 0 c _ (by simp) (RdN.of fun j v hv => by simp [u8s] at hv)
  · rw [adv_at hlo hk]
    exact ext_src (bs := ext) hr (o + k) n c h
theorem ext_list2 {bs ext : List UInt8} (he : ext.take bs.length = bs) (off k n : Nat) (h : off + k + n ≤ bs.length) : (ext.drop (off + k)).take n = ((bs.drop off).drop k).take n := ext_list he h
theorem at1_take (l : List UInt8) (k n i : Nat) (h : i < n) : at1 ((l.drop k).take n) i = at1 l (k + i) := by
  simp [at1, h]
theorem beu_lt (u : Nat) (l : List UInt8) (hu : u < 18446744073709551616) : beu u l < 18446744073709551616 := by
  unfold beu
  induction l generalizing u with
  | nil => exact hu
  | cons v l ih =>
    refine ih _ ?_
    have := v.toNat_lt
    show u * 256 % 18446744073709551616 + v.toNat < _
    omega
end Go.Proofs.YtfebpbflpdppiaaDoor
